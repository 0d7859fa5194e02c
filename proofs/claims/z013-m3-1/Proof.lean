import JvmDerived
import JvmDerived.Pilot.@@N@@Statement
import JvmDerived.Pilot.@@N@@Code
set_option linter.unusedVariables false
set_option linter.unusedSimpArgs false
namespace Jvm.RoadKit
open Sem ClassFile Op Lib Jvm.Stand Jvm.Free Jvm.LawKit
section New
variable {p : Program} {l : Launch} {e : Env} {R : Room} {s : State} {m : MethodId} {args : Array Value} {below : List Frame} {meth : Method} {c : Code} {T : State} {locs : List Loc} {cells slots : Nat}
theorem retI (X : Stand p l e R s m args below meth c T locs cells slots) (hx : p.tables.exec = Jvm.exec) {pc : Nat} {Ls : Array Slot} {z : Int32} {rest : List Value} (hret : meth.sig.returnType = some .int) (hd : decode c.code pc = .ok (.ireturn, 1)) {fs : List Frame}
    (hl : ∀ (f : JFrame) (acts : List Action), f.method = m → f.locked = none → f.entered = [] → (doReturn e (T.setTop f) acts (some (.int z))).1 = T.setFrames fs) : Steps p.tables e below (T.setTop (mkF m pc Ls (.int z :: rest))) (T.setFrames fs) := by
  have hm' : T.vm.method? m = some meth := X.method'
  have hn : narrow .int (.int z) = .int z := rfl
  show Steps p.tables e below (T.setTop { method := m, pc := pc, locals := Ls, stack := _ :: rest, locked := none }) _
  jvm_step X.here [X.here.top, hx, hd, hm', hret, hn]
  first | (intro acts; rw [hl _ acts rfl rfl rfl]) | rw [hl _ _ rfl rfl rfl]
  exact Steps.refl _
end New
end Jvm.RoadKit
namespace Jvm.Pilot.@@N@@
open Jvm Jvm.ClassFile Sem Op Lib Jvm.Free Jvm.Stand Jvm.LawKit Jvm.RoadKit Bundle Jvm.Pilot.@@N@@.Jvm.D
theorem d2_0 : decode jdk_43_method_3_code 0 = .ok (.iload_n 0, 1) := by decide +kernel
theorem d2_1 : decode jdk_43_method_3_code 1 = .ok (.sipush 255, 3) := by decide +kernel
theorem d2_4 : decode jdk_43_method_3_code 4 = .ok (.if_icmp .gt 7, 3) := by decide +kernel
theorem d2_7 : decode jdk_43_method_3_code 7 = .ok (.iconst 1, 1) := by decide +kernel
theorem d2_8 : decode jdk_43_method_3_code 8 = .ok (.goto 4, 3) := by decide +kernel
theorem d2_12 : decode jdk_43_method_3_code 12 = .ok (.ireturn, 1) := by decide +kernel
theorem pn_2 : plainName "java/lang/StringLatin1" = true := by first | (simp [plainName, overriddenIn]; done) | decide +kernel
theorem ef_2 (m : MethodId) (x0 : Int32) : entryFrame m #[(.int x0)] 1 = mkF m 0 #[.val (.int x0)] [] := by first | (simp [entryFrame, mkF, argsToLocals, Value.category]; done) | rfl
def Q2 (Z : State) (p1 : Int32) (h0 : Heap) (n0 : Nat) (v : Option Value) (h : Heap) (L : List Loc) : Prop := v = some (.int (1 : Int32)) ∧ Fr n0 L ∧ h = h0
set_option maxRecDepth 65536 in
set_option maxHeartbeats 40000000 in
theorem rm2 (l : Launch) (Z : State) (a0 : Array Value) (hw : ∀ d ∈ tables_1, d.before a0 Z = true) (ws : List Jvm.Cond) (p1 : Int32) (h0 : Heap) (n0 : Nat) (Z0 : n0 ≤ h0.size) (hc4 : ¬ ((255 : Int32) < p1)) :
    MetFree l (⟨"java/lang/StringLatin1", "canEncode", "(C)Z"⟩ : MethodName) (head1 (Jvm.Cond.code (⟨"java/lang/StringLatin1", "canEncode", "(C)Z"⟩ : MethodName) jdk_43_method_3_code 1 (some .boolean) :: ws) ({ frames := 0, cells := 0, slots := 0, locals := 0 } : Room)) (fun a U => a = #[(.int p1)] ∧ Z.Warmed39 U.vm ∧ U.heap = h0) (fun _ _ _ _ _ => True) (fun _ U o U' => ∃ v L, o = .returned v ∧ Q2 Z p1 h0 n0 v U'.heap L ∧ FrameEnd U o U' L ({ frames := 0, cells := 0, slots := 0, locals := 0 } : Room).cells ({ frames := 0, cells := 0, slots := 0, locals := 0 } : Room).slots) := by
  refine MetFree.of_bodySF (plainFor_of_name pn_2) hisR ?_
  intro p e s m args below meth c s₁ Bd hml0 hP hK
  obtain ⟨rfl, hZ, hh⟩ := hP
  have hx := Bd.exec
  have hby := Bd.bytes
  have hml : c.maxLocals = 1 := hml0
  have hown : s.vm.findClass "java/lang/StringLatin1" = some m.cls := findClass_of_methodNamed Bd.named
  have hnm := (name_of_methodNamed Bd.named Bd.method).1
  have X0 : Stand p l e ({ frames := 0, cells := 0, slots := 0, locals := 0 } : Room) s m #[(.int p1)] below meth c s₁ [] 0 0 := Stand.of_body Bd
  have e0 : s₁.heap = h0 := by rw [← hh, Bd.state]; rfl
  have N0 := Fr.nil n0
  have pre0 : ∀ t, Steps p.tables e below (s₁.setTop (mkF m 0 #[.val (.int p1)] [])) t → Steps p.tables e below (s₁.setTop (entryFrame m #[(.int p1)] 1)) t := fun t k => castTop (ef_2 m p1) k
  obtain ⟨fs, hr, hrun, hended, hW, hsame⟩ := X0.leave (v := some (.int (1 : Int32))) (fun h => by rw [Bd.returns] at h; cases h)
  refine ⟨_, _, pre0 _ ?_, hrun, hended, _, _, rfl, ?_, ⟨_, rfl⟩, hW, hsame.mono (by decide) (by decide)⟩
  · show Steps p.tables e below (s₁.setTop (mkF m 0 #[.val (.int p1)] [])) _
    refine XS.iloadN X0.here hx rfl (hb hby d2_0) rfl ?_
    show Steps p.tables e below (s₁.setTop (mkF m 1 #[.val (.int p1)] [(.int p1)])) _
    refine XS.sipush X0.here hx rfl (hb hby d2_1) ?_
    show Steps p.tables e below (s₁.setTop (mkF m 4 #[.val (.int p1)] [(.int (255 : Int32)), (.int p1)])) _
    refine XS.icmpNo X0.here hx rfl (hb hby d2_4) rfl (flt hc4).2.2.1 ?_
    show Steps p.tables e below (s₁.setTop (mkF m 7 #[.val (.int p1)] [])) _
    refine XS.iconst X0.here hx rfl (hb hby d2_7) ?_
    show Steps p.tables e below (s₁.setTop (mkF m 8 #[.val (.int p1)] [(.int (1 : Int32))])) _
    refine XS.goto X0.here hx rfl (pc0 := 8) (pc' := 12) rfl (hb hby d2_8) (by decide) (by decide) ?_
    show Steps p.tables e below (s₁.setTop (mkF m 12 #[.val (.int p1)] [(.int (1 : Int32))])) _
    exact retN X0 hx (t := .boolean) Bd.returns (by simp) (hb hby d2_12) hr
  · show Q2 Z p1 h0 n0 _ s₁.heap _
    rw [e0]
    exact ⟨rfl, N0, rfl⟩
theorem d3_0 : decode jdk_43_method_46_code 0 = .ok (.iconst 1, 1) := by decide +kernel
theorem d3_1 : decode jdk_43_method_46_code 1 = .ok (.newarray .byte, 2) := by decide +kernel
theorem d3_3 : decode jdk_43_method_46_code 3 = .ok (.dup, 1) := by decide +kernel
theorem d3_4 : decode jdk_43_method_46_code 4 = .ok (.iconst 0, 1) := by decide +kernel
theorem d3_5 : decode jdk_43_method_46_code 5 = .ok (.iload_n 0, 1) := by decide +kernel
theorem d3_6 : decode jdk_43_method_46_code 6 = .ok (.i2b, 1) := by decide +kernel
theorem d3_7 : decode jdk_43_method_46_code 7 = .ok (.bastore, 1) := by decide +kernel
theorem d3_8 : decode jdk_43_method_46_code 8 = .ok (.areturn, 1) := by decide +kernel
theorem pn_3 : plainName "java/lang/StringLatin1" = true := by first | (simp [plainName, overriddenIn]; done) | decide +kernel
theorem ef_3 (m : MethodId) (x0 : Int32) : entryFrame m #[(.int x0)] 1 = mkF m 0 #[.val (.int x0)] [] := by first | (simp [entryFrame, mkF, argsToLocals, Value.category]; done) | rfl
def Q3 (Z : State) (p1 : Int32) (h0 : Heap) (n0 : Nat) (v : Option Value) (h : Heap) (L : List Loc) : Prop := v = some (.ref h0.size) ∧ Fr n0 L ∧ Keep h0 h []
set_option maxRecDepth 65536 in
set_option maxHeartbeats 40000000 in
theorem rm3 (l : Launch) (Z : State) (a0 : Array Value) (hw : ∀ d ∈ tables_1, d.before a0 Z = true) (ws : List Jvm.Cond) (p1 : Int32) (h0 : Heap) (n0 : Nat) (Z0 : n0 ≤ h0.size) :
    MetFree l (⟨"java/lang/StringLatin1", "toBytes", "(C)[B"⟩ : MethodName) (head1 (Jvm.Cond.code (⟨"java/lang/StringLatin1", "toBytes", "(C)[B"⟩ : MethodName) jdk_43_method_46_code 1 (some (.array .byte)) :: ws) ({ frames := 0, cells := 1, slots := 1, locals := 0 } : Room)) (fun a U => a = #[(.int p1)] ∧ Z.Warmed39 U.vm ∧ U.heap = h0) (fun _ _ _ _ _ => True) (fun _ U o U' => ∃ v L, o = .returned v ∧ Q3 Z p1 h0 n0 v U'.heap L ∧ FrameEnd U o U' L ({ frames := 0, cells := 1, slots := 1, locals := 0 } : Room).cells ({ frames := 0, cells := 1, slots := 1, locals := 0 } : Room).slots) := by
  refine MetFree.of_bodySF (plainFor_of_name pn_3) hisR ?_
  intro p e s m args below meth c s₁ Bd hml0 hP hK
  obtain ⟨rfl, hZ, hh⟩ := hP
  have hx := Bd.exec
  have hby := Bd.bytes
  have hml : c.maxLocals = 1 := hml0
  have hown : s.vm.findClass "java/lang/StringLatin1" = some m.cls := findClass_of_methodNamed Bd.named
  have hnm := (name_of_methodNamed Bd.named Bd.method).1
  have X0 : Stand p l e ({ frames := 0, cells := 1, slots := 1, locals := 0 } : Room) s m #[(.int p1)] below meth c s₁ [] 0 0 := Stand.of_body Bd
  have e0 : s₁.heap = h0 := by rw [← hh, Bd.state]; rfl
  have N0 := Fr.nil n0
  have pre0 : ∀ t, Steps p.tables e below (s₁.setTop (mkF m 0 #[.val (.int p1)] [])) t → Steps p.tables e below (s₁.setTop (entryFrame m #[(.int p1)] 1)) t := fun t k => castTop (ef_3 m p1) k
  obtain ⟨T2, h2, k2, X2, e2, E2, A2, st2⟩ := newP X0 hx hZ (hw _ (List.mem_of_getElem? (i := 14) rfl)) e0 (g := (mkF m 1 #[.val (.int p1)] [(.int (1 : Int32))])) rfl (hb hby d3_1) rfl (by decide) (cap := 1) (by decide) (by decide) (by decide) (by decide)
  obtain ⟨b2, g2⟩ : ∃ z, z = h0.size := ⟨_, rfl⟩
  rw [← g2] at A2 st2
  have V_b2 : Arv Z h2 b2 k2 .byte (1 : Int32) [(.int (0 : Int32))] (.int (0 : Int32)) := (Arv.new A2 (by decide)).pad (pad_rep [] (.int (0 : Int32)) 1)
  have g_b2 : n0 ≤ b2 := Nat.le_trans Z0 (Nat.le_of_eq g2.symm)
  have sz_b2 : h0.size ≤ b2 := (Nat.le_trans (Keep.refl h0 []).1 (Nat.le_of_eq g2.symm))
  have K2 : Keep h0 h2 [] := (Keep.refl h0 []).ext E2
  obtain ⟨cl_b2_7, Ar_b2, q_b2, S_b2, N_b2, H_b2, G_b2⟩ := V_b2
  have hin7 : ¬ ((0 : Int32) < 0 ∨ cl_b2_7.slots.size ≤ ((0 : Int32)).toNatClampNeg) := inb_of S_b2 ⟨by decide, by decide⟩
  obtain ⟨T3, h3, X3, e3, W3, st3⟩ := stB X2 hx hZ e2 Ar_b2 (j := (0 : Int32)) hin7 (g := (mkF m 7 #[.val (.int p1)] [(.int (p1.toInt8.toInt32)), (.int (0 : Int32)), (.ref b2), (.ref b2)])) rfl rfl (hb hby d3_7)
  have V_b2_3 := Arv.set Ar_b2 q_b2 S_b2 N_b2 H_b2 G_b2 (fits_nar_byte _) W3 0 rfl (Nat.le_of_ble_eq_true rfl)
  have K3 : Keep h0 h3 [] := K2.wr W3 (Or.inr sz_b2)
  have N3 := Fr.snoc X3 N0 g_b2
  obtain ⟨fs, hr, hrun, hended, hW, hsame⟩ := X3.leave (v := some (.ref b2)) (fun h => by rw [Bd.returns] at h; cases h)
  refine ⟨_, _, pre0 _ ?_, hrun, hended, _, _, rfl, ?_, ⟨_, rfl⟩, hW, hsame.mono (by decide) (by decide)⟩
  · show Steps p.tables e below (s₁.setTop (mkF m 0 #[.val (.int p1)] [])) _
    refine XS.iconst X0.here hx rfl (hb hby d3_0) ?_
    show Steps p.tables e below (s₁.setTop (mkF m 1 #[.val (.int p1)] [(.int (1 : Int32))])) _
    refine st2 _ ?_
    show Steps p.tables e below (T2.setTop (mkF m 3 #[.val (.int p1)] [(.ref b2)])) _
    refine XS.dup X2.here hx rfl (hb hby d3_3) rfl rfl ?_
    show Steps p.tables e below (T2.setTop (mkF m 4 #[.val (.int p1)] [(.ref b2), (.ref b2)])) _
    refine XS.iconst X2.here hx rfl (hb hby d3_4) ?_
    show Steps p.tables e below (T2.setTop (mkF m 5 #[.val (.int p1)] [(.int (0 : Int32)), (.ref b2), (.ref b2)])) _
    refine XS.iloadN X2.here hx rfl (hb hby d3_5) rfl ?_
    show Steps p.tables e below (T2.setTop (mkF m 6 #[.val (.int p1)] [(.int p1), (.int (0 : Int32)), (.ref b2), (.ref b2)])) _
    refine XS.i2b X2.here hx rfl (hb hby d3_6) rfl ?_
    show Steps p.tables e below (T2.setTop (mkF m 7 #[.val (.int p1)] [(.int (p1.toInt8.toInt32)), (.int (0 : Int32)), (.ref b2), (.ref b2)])) _
    refine st3 _ ?_
    show Steps p.tables e below (T3.setTop (mkF m 8 #[.val (.int p1)] [(.ref b2)])) _
    jvm_step X3.here [X3.here.top, hx, (hb hby d3_8), X3.method', Bd.returns, Value.isRef, FieldType.isReference]
    first | (intro acts; rw [hr _ acts rfl rfl rfl]) | rw [hr _ _ rfl rfl rfl]
    exact Steps.refl _
  · show Q3 Z p1 h0 n0 _ T3.heap _
    rw [e3]
    exact ⟨by rw [g2], N3, K3⟩
theorem d4_0 : decode jdk_42_method_151_code 0 = .ok (.aload_n 0, 1) := by decide +kernel
theorem d4_1 : decode jdk_42_method_151_code 1 = .ok (.invokespecial 1, 3) := by decide +kernel
theorem d4_4 : decode jdk_42_method_151_code 4 = .ok (.aload_n 0, 1) := by decide +kernel
theorem d4_5 : decode jdk_42_method_151_code 5 = .ok (.aload_n 1, 1) := by decide +kernel
theorem d4_6 : decode jdk_42_method_151_code 6 = .ok (.putfield 9, 3) := by decide +kernel
theorem d4_9 : decode jdk_42_method_151_code 9 = .ok (.aload_n 0, 1) := by decide +kernel
theorem d4_10 : decode jdk_42_method_151_code 10 = .ok (.iload_n 2, 1) := by decide +kernel
theorem d4_11 : decode jdk_42_method_151_code 11 = .ok (.putfield 15, 3) := by decide +kernel
theorem d4_14 : decode jdk_42_method_151_code 14 = .ok (.return_, 1) := by decide +kernel
theorem pn_4 : plainName "java/lang/String" = true := by first | (simp [plainName, overriddenIn]; done) | decide +kernel
theorem ef_4 (m : MethodId) (x0 : Addr) (x1 : Addr) (x2 : Int32) : entryFrame m #[(.ref x0), (.ref x1), (.int x2)] 3 = mkF m 0 #[.val (.ref x0), .val (.ref x1), .val (.int x2)] [] := by first | (simp [entryFrame, mkF, argsToLocals, Value.category]; done) | rfl
def Q4 (Z : State) (a1 : Addr) (a2 : Addr) (p3 : Int32) (u_value_a1 : Value) (u_coder_a1 : Value) (h0 : Heap) (n0 : Nat) (v : Option Value) (h : Heap) (L : List Loc) : Prop := v = none ∧ Fr n0 L ∧ Keep h0 h [a1]
set_option maxRecDepth 65536 in
set_option maxHeartbeats 40000000 in
theorem rm4 (l : Launch) (Z : State) (a0 : Array Value) (hw : ∀ d ∈ tables_1, d.before a0 Z = true) (ws : List Jvm.Cond) (a1 : Addr) (a2 : Addr) (p3 : Int32) (u_value_a1 : Value) (u_coder_a1 : Value) (h0 : Heap) (n0 : Nat) (Z0 : n0 ≤ h0.size) (E_a1 : Exa Z h0 a1 "java/lang/String") (F_value_a1 : Fld Z h0 a1 "java/lang/String" "value" "[B" u_value_a1) (g_a1 : n0 ≤ a1) (F_coder_a1 : Fld Z h0 a1 "java/lang/String" "coder" "B" u_coder_a1) :
    MetFree l (⟨"java/lang/String", "<init>", "([BB)V"⟩ : MethodName) (head1 (Jvm.Cond.code (⟨"java/lang/String", "<init>", "([BB)V"⟩ : MethodName) jdk_42_method_151_code 3 none :: ws) ({ frames := 1, cells := 0, slots := 0, locals := 12 } : Room)) (fun a U => a = #[(.ref a1), (.ref a2), (.int p3)] ∧ Z.Warmed39 U.vm ∧ U.heap = h0) (fun _ _ _ _ _ => True) (fun _ U o U' => ∃ v L, o = .returned v ∧ Q4 Z a1 a2 p3 u_value_a1 u_coder_a1 h0 n0 v U'.heap L ∧ FrameEnd U o U' L ({ frames := 1, cells := 0, slots := 0, locals := 12 } : Room).cells ({ frames := 1, cells := 0, slots := 0, locals := 12 } : Room).slots) := by
  refine MetFree.of_bodySF (plainFor_of_name pn_4) hisR ?_
  intro p e s m args below meth c s₁ Bd hml0 hP hK
  obtain ⟨rfl, hZ, hh⟩ := hP
  have hx := Bd.exec
  have hby := Bd.bytes
  have hml : c.maxLocals = 3 := hml0
  have hown : s.vm.findClass "java/lang/String" = some m.cls := findClass_of_methodNamed Bd.named
  have hnm := (name_of_methodNamed Bd.named Bd.method).1
  have X0 : Stand p l e ({ frames := 1, cells := 0, slots := 0, locals := 12 } : Room) s m #[(.ref a1), (.ref a2), (.int p3)] below meth c s₁ [] 0 0 := Stand.of_body Bd
  have e0 : s₁.heap = h0 := by rw [← hh, Bd.state]; rfl
  have N0 := Fr.nil n0
  have pre0 : ∀ t, Steps p.tables e below (s₁.setTop (mkF m 0 #[.val (.ref a1), .val (.ref a2), .val (.int p3)] [])) t → Steps p.tables e below (s₁.setTop (entryFrame m #[(.ref a1), (.ref a2), (.int p3)] 3)) t := fun t k => castTop (ef_4 m a1 a2 p3) k
  obtain ⟨T4, X4, e4, st4⟩ := initO X0 hx hZ hown (hw _ (List.mem_of_getElem? (i := 19) rfl)) (hw _ (List.mem_of_getElem? (i := 20) rfl)) (hw _ (List.mem_of_getElem? (i := 21) rfl)) e0 (g := (mkF m 1 #[.val (.ref a1), .val (.ref a2), .val (.int p3)] [(.ref a1)])) rfl (by rw [hml]; rfl) rfl (hb hby d4_1) (by decide) (W := 0) (by show 2 * 0 + _ ≤ _; exact Nat.le_of_eq rfl) (by decide)
  obtain ⟨T5, h5, X5, e5, W5, st5⟩ := putF X4 hx hZ hown (host := "") (Or.inl (hw _ (List.mem_of_getElem? (i := 22) rfl))) Via.refl e4 F_value_a1 E_a1 (Or.inr ⟨(hw _ (List.mem_of_getElem? (i := 23) rfl)), rfl, hnm⟩) (hw _ (List.mem_of_getElem? (i := 10) rfl)) (ty := (.array .byte)) (by decide) rfl rfl (g := (mkF m 6 #[.val (.ref a1), .val (.ref a2), .val (.int p3)] [(.ref a2), (.ref a1)])) rfl rfl (hb hby d4_6)
  have Fw5 := F_value_a1.same W5
  have K5 : Keep h0 h5 [a1] := (Keep.refl h0 [a1]).wr W5 (Or.inl (List.mem_of_getElem? (i := 0) rfl))
  have N5 := Fr.snoc X5 N0 g_a1
  obtain ⟨T6, h6, X6, e6, W6, st6⟩ := putFN X5 hx hZ hown (hw _ (List.mem_of_getElem? (i := 24) rfl)) Via.refl e5 (F_coder_a1.other W5 (Or.inr (slot_ne (Or.inr (hw _ (List.mem_of_getElem? (i := 25) rfl))) (Or.inr (hw _ (List.mem_of_getElem? (i := 23) rfl))) (by decide) (t := .byte) (t' := (.array .byte)) (by decide) (by decide)))) (E_a1.wr W5) (Or.inr ⟨(hw _ (List.mem_of_getElem? (i := 25) rfl)), rfl, hnm⟩) (hw _ (List.mem_of_getElem? (i := 10) rfl)) (ty := .byte) (v' := (.int p3.toInt8.toInt32)) (by decide) rfl (fits_nar_byte _) (g := (mkF m 11 #[.val (.ref a1), .val (.ref a2), .val (.int p3)] [(.int p3), (.ref a1)])) rfl rfl (hb hby d4_11)
  have Fw6 := (F_coder_a1.other W5 (Or.inr (slot_ne (Or.inr (hw _ (List.mem_of_getElem? (i := 25) rfl))) (Or.inr (hw _ (List.mem_of_getElem? (i := 23) rfl))) (by decide) (t := .byte) (t' := (.array .byte)) (by decide) (by decide)))).same W6
  have K6 : Keep h0 h6 [a1] := K5.wr W6 (Or.inl (List.mem_of_getElem? (i := 0) rfl))
  have N6 := Fr.snoc X6 N5 g_a1
  obtain ⟨fs, hr, hrun, hended, hW, hsame⟩ := X6.leave (v := none) (fun _ => rfl)
  refine ⟨_, _, pre0 _ ?_, hrun, hended, _, _, rfl, ?_, ⟨_, rfl⟩, hW, hsame.mono (by decide) (by decide)⟩
  · show Steps p.tables e below (s₁.setTop (mkF m 0 #[.val (.ref a1), .val (.ref a2), .val (.int p3)] [])) _
    refine XS.aloadN X0.here hx rfl (hb hby d4_0) rfl rfl ?_
    show Steps p.tables e below (s₁.setTop (mkF m 1 #[.val (.ref a1), .val (.ref a2), .val (.int p3)] [(.ref a1)])) _
    refine st4 _ ?_
    show Steps p.tables e below (T4.setTop (mkF m 4 #[.val (.ref a1), .val (.ref a2), .val (.int p3)] [])) _
    refine XS.aloadN X4.here hx rfl (hb hby d4_4) rfl rfl ?_
    show Steps p.tables e below (T4.setTop (mkF m 5 #[.val (.ref a1), .val (.ref a2), .val (.int p3)] [(.ref a1)])) _
    refine XS.aloadN X4.here hx rfl (hb hby d4_5) rfl rfl ?_
    show Steps p.tables e below (T4.setTop (mkF m 6 #[.val (.ref a1), .val (.ref a2), .val (.int p3)] [(.ref a2), (.ref a1)])) _
    refine st5 _ ?_
    show Steps p.tables e below (T5.setTop (mkF m 9 #[.val (.ref a1), .val (.ref a2), .val (.int p3)] [])) _
    refine XS.aloadN X5.here hx rfl (hb hby d4_9) rfl rfl ?_
    show Steps p.tables e below (T5.setTop (mkF m 10 #[.val (.ref a1), .val (.ref a2), .val (.int p3)] [(.ref a1)])) _
    refine XS.iloadN X5.here hx rfl (hb hby d4_10) rfl ?_
    show Steps p.tables e below (T5.setTop (mkF m 11 #[.val (.ref a1), .val (.ref a2), .val (.int p3)] [(.int p3), (.ref a1)])) _
    refine st6 _ ?_
    show Steps p.tables e below (T6.setTop (mkF m 14 #[.val (.ref a1), .val (.ref a2), .val (.int p3)] [])) _
    exact X6.returnOut hx Bd.returns (hb hby d4_14) hr
  · show Q4 Z a1 a2 p3 u_value_a1 u_coder_a1 h0 n0 _ T6.heap _
    rw [e6]
    exact ⟨rfl, N6, K6⟩
theorem d1_0 : decode jdk_42_method_139_code 0 = .ok (.getstatic 38, 3) := by decide +kernel
theorem d1_3 : decode jdk_42_method_139_code 3 = .ok (.ifCond .eq 23, 3) := by decide +kernel
theorem d1_6 : decode jdk_42_method_139_code 6 = .ok (.iload_n 0, 1) := by decide +kernel
theorem d1_7 : decode jdk_42_method_139_code 7 = .ok (.invokestatic 1015, 3) := by decide +kernel
theorem d1_10 : decode jdk_42_method_139_code 10 = .ok (.ifCond .eq 16, 3) := by decide +kernel
theorem d1_13 : decode jdk_42_method_139_code 13 = .ok (.new 10, 3) := by decide +kernel
theorem d1_16 : decode jdk_42_method_139_code 16 = .ok (.dup, 1) := by decide +kernel
theorem d1_17 : decode jdk_42_method_139_code 17 = .ok (.iload_n 0, 1) := by decide +kernel
theorem d1_18 : decode jdk_42_method_139_code 18 = .ok (.invokestatic 1018, 3) := by decide +kernel
theorem d1_21 : decode jdk_42_method_139_code 21 = .ok (.iconst 0, 1) := by decide +kernel
theorem d1_22 : decode jdk_42_method_139_code 22 = .ok (.invokespecial 209, 3) := by decide +kernel
theorem d1_25 : decode jdk_42_method_139_code 25 = .ok (.areturn, 1) := by decide +kernel
theorem pn_1 : plainName "java/lang/String" = true := by first | (simp [plainName, overriddenIn]; done) | decide +kernel
theorem pd_1_1 : parseMethodDescriptor "(C)Z" = some ⟨[.char], some .boolean⟩ := by decide +kernel
theorem pd_1_2 : parseMethodDescriptor "(C)[B" = some ⟨[.char], some (.array .byte)⟩ := by decide +kernel
theorem pd_1_3 : parseMethodDescriptor "([BB)V" = some ⟨[(.array .byte), .byte], none⟩ := by decide +kernel
theorem ef_1 (m : MethodId) (x0 : Int32) : entryFrame m #[(.int x0)] 1 = mkF m 0 #[.val (.int x0)] [] := by first | (simp [entryFrame, mkF, argsToLocals, Value.category]; done) | rfl
def Q1 (Z : State) (p1 : Int32) (w2 : Int32) (h0 : Heap) (n0 : Nat) (v : Option Value) (h : Heap) (L : List Loc) : Prop := v = some (.ref h0.size) ∧ Fr n0 L ∧ Keep h0 h []
set_option maxRecDepth 65536 in
set_option maxHeartbeats 40000000 in
theorem rm1 (l : Launch) (Z : State) (a0 : Array Value) (hw : ∀ d ∈ tables_1, d.before a0 Z = true) (ws : List Jvm.Cond) (p1 : Int32) (w2 : Int32) (h0 : Heap) (n0 : Nat) (Z0 : n0 ≤ h0.size) (S_COMPACT_STRINGS : Sta Z h0 "java/lang/String" "COMPACT_STRINGS" "Z" (.int w2)) (hc3 : ¬ (w2 = (0 : Int32))) (hp : ¬ ((255 : Int32) < p1)) :
    MetFree l (⟨"java/lang/String", "valueOf", "(C)Ljava/lang/String;"⟩ : MethodName) (head1 (Jvm.Cond.code (⟨"java/lang/String", "valueOf", "(C)Ljava/lang/String;"⟩ : MethodName) jdk_42_method_139_code 1 (some (.object "java/lang/String")) :: ws) ({ frames := 2, cells := 2, slots := 5, locals := 27 } : Room)) (fun a U => a = #[(.int p1)] ∧ Z.Warmed39 U.vm ∧ U.heap = h0) (fun _ _ _ _ _ => True) (fun _ U o U' => ∃ v L, o = .returned v ∧ Q1 Z p1 w2 h0 n0 v U'.heap L ∧ FrameEnd U o U' L ({ frames := 2, cells := 2, slots := 5, locals := 27 } : Room).cells ({ frames := 2, cells := 2, slots := 5, locals := 27 } : Room).slots) := by
  refine MetFree.of_bodySF (plainFor_of_name pn_1) hisR ?_
  intro p e s m args below meth c s₁ Bd hml0 hP hK
  obtain ⟨rfl, hZ, hh⟩ := hP
  have hx := Bd.exec
  have hby := Bd.bytes
  have hml : c.maxLocals = 1 := hml0
  have hown : s.vm.findClass "java/lang/String" = some m.cls := findClass_of_methodNamed Bd.named
  have hnm := (name_of_methodNamed Bd.named Bd.method).1
  have X0 : Stand p l e ({ frames := 2, cells := 2, slots := 5, locals := 27 } : Room) s m #[(.int p1)] below meth c s₁ [] 0 0 := Stand.of_body Bd
  have e0 : s₁.heap = h0 := by rw [← hh, Bd.state]; rfl
  have N0 := Fr.nil n0
  have pre0 : ∀ t, Steps p.tables e below (s₁.setTop (mkF m 0 #[.val (.int p1)] [])) t → Steps p.tables e below (s₁.setTop (entryFrame m #[(.int p1)] 1)) t := fun t k => castTop (ef_1 m p1) k
  obtain ⟨T3, X3, e3, st3⟩ := getS2 X0 hx hZ hown (host := "") (Or.inl (hw _ (List.mem_of_getElem? (i := 4) rfl))) Via.refl e0 S_COMPACT_STRINGS (g := (mkF m 0 #[.val (.int p1)] [])) rfl (hb hby d1_0)
  obtain ⟨_, _, ⟨T4, L4, k4, n4⟩, -, X4, ⟨Lc4, hQ4, l4, y4, z4⟩, st4⟩ := Jvm.LawKit.callS X3 hx (y := (⟨"java/lang/StringLatin1", "canEncode", "(C)Z"⟩ : MethodName)) hown (mvT hZ (hw _ (List.mem_of_getElem? (i := 5) rfl))) (mvT hZ (hw _ (List.mem_of_getElem? (i := 6) rfl))) (mvT hZ (hw _ (List.mem_of_getElem? (i := 7) rfl))) (mvT hZ (hw _ (List.mem_of_getElem? (i := 8) rfl))) (by decide) (backOf (W := 0) (rm2 l Z a0 hw [] p1 h0 n0 Z0 hp) hZ (hw _ (List.mem_of_getElem? (i := 8) rfl)) (hw _ (List.mem_of_getElem? (i := 7) rfl)) (by decide) (by decide)) (g := (mkF m 7 #[.val (.int p1)] [(.int p1)])) rfl (by rw [hml]; rfl) (argsL := [(.int p1)]) (rest := []) (lenOf pd_1_1 rfl) rfl (by show 2 * 0 + _ ≤ _; exact Nat.le_of_eq rfl) (hb hby d1_7) (fun _ _ => ⟨rfl, e3, (by decide : 0 + 0 ≤ _), (by decide : 0 + 0 ≤ _)⟩)
  dsimp only [Pt.U, Pt.locs, Pt.cells, Pt.slots] at X4 l4 y4 z4 st4 hQ4
  subst l4 y4 z4
  obtain ⟨rfl, N4q, q4⟩ := hQ4
  have K4 : Keep h0 T4.heap [] := by rw [q4]; exact Keep.refl h0 []
  have N4 := Fr.app N0 N4q
  obtain ⟨T5, h5, X5, e5, E5, A5, D5, -, st5⟩ := newO X4 hx hZ hown (hw _ (List.mem_of_getElem? (i := 9) rfl)) (hw _ (List.mem_of_getElem? (i := 10) rfl)) (hw _ (List.mem_of_getElem? (i := 2) rfl)) rfl (g := (mkF m 13 #[.val (.int p1)] [])) rfl (hb hby d1_13) (by decide) (by decide)
  obtain ⟨b5, g5⟩ : ∃ z, z = T4.heap.size := ⟨_, rfl⟩
  rw [← g5] at A5 D5 st5
  have F_value_b5 : Fld Z h5 b5 "java/lang/String" "value" "[B" .null := D5 (Or.inr (hw _ (List.mem_of_getElem? (i := 23) rfl))) (ty := (.array .byte)) (by decide)
  have F_coder_b5 : Fld Z h5 b5 "java/lang/String" "coder" "B" (.int (0 : Int32)) := D5 (Or.inr (hw _ (List.mem_of_getElem? (i := 25) rfl))) (ty := .byte) (by decide)
  have E_b5 := A5
  have g_b5 : n0 ≤ b5 := Nat.le_trans (Nat.le_trans Z0 K4.1) (Nat.le_of_eq g5.symm)
  have sz_b5 : h0.size ≤ b5 := (Nat.le_trans K4.1 (Nat.le_of_eq g5.symm))
  have K5 : Keep h0 h5 [] := K4.ext E5
  obtain ⟨_, _, ⟨T6, L6, k6, n6⟩, -, X6, ⟨Lc6, hQ6, l6, y6, z6⟩, st6⟩ := Jvm.LawKit.callS X5 hx (y := (⟨"java/lang/StringLatin1", "toBytes", "(C)[B"⟩ : MethodName)) hown (mvT hZ (hw _ (List.mem_of_getElem? (i := 11) rfl))) (mvT hZ (hw _ (List.mem_of_getElem? (i := 12) rfl))) (mvT hZ (hw _ (List.mem_of_getElem? (i := 7) rfl))) (mvT hZ (hw _ (List.mem_of_getElem? (i := 13) rfl))) (by decide) (backOf (W := 2) (rm3 l Z a0 hw [] p1 h5 n0 (Nat.le_trans Z0 K5.1)) hZ (hw _ (List.mem_of_getElem? (i := 13) rfl)) (hw _ (List.mem_of_getElem? (i := 7) rfl)) (by decide) (by decide)) (g := (mkF m 18 #[.val (.int p1)] [(.int p1), (.ref b5), (.ref b5)])) rfl (by rw [hml]; rfl) (argsL := [(.int p1)]) (rest := [(.ref b5), (.ref b5)]) (lenOf pd_1_2 rfl) rfl (by show 2 * 0 + _ ≤ _; exact Nat.le_of_eq rfl) (hb hby d1_18) (fun _ _ => ⟨rfl, e5, (by decide : 1 + 1 ≤ _), (by decide : 4 + 1 ≤ _)⟩)
  dsimp only [Pt.U, Pt.locs, Pt.cells, Pt.slots] at X6 l6 y6 z6 st6 hQ6
  subst l6 y6 z6
  obtain ⟨rfl, N6q, K6c⟩ := hQ6
  have K6 : Keep h0 T6.heap [] := K5.trans K6c all0
  have N6 := Fr.app N4 N6q
  obtain ⟨_, _, ⟨T7, L7, k7, n7⟩, -, X7, ⟨Lc7, hQ7, l7, y7, z7⟩, st7⟩ := X6.specialBack hx (y := (⟨"java/lang/String", "<init>", "([BB)V"⟩ : MethodName)) rfl hown (mvT hZ (hw _ (List.mem_of_getElem? (i := 15) rfl))) (mvT hZ (hw _ (List.mem_of_getElem? (i := 16) rfl))) (mvT hZ (hw _ (List.mem_of_getElem? (i := 18) rfl))) (by decide) (backOf (W := 1) (rm4 l Z a0 hw [] b5 h5.size (0 : Int32) .null (.int (0 : Int32)) T6.heap n0 (Nat.le_trans Z0 K6.1) (E_b5.keep K6c) (F_value_b5.keep K6c nin0) g_b5 (F_coder_b5.keep K6c nin0)) hZ (hw _ (List.mem_of_getElem? (i := 18) rfl)) (hw _ (List.mem_of_getElem? (i := 2) rfl)) (by decide) (by decide)) (g := (mkF m 22 #[.val (.int p1)] [(.int (0 : Int32)), (.ref h5.size), (.ref b5), (.ref b5)])) rfl (by rw [hml]; rfl) (Steps.refl _) (a := b5) (argsL := [(.ref h5.size), (.int (0 : Int32))]) (rest := [(.ref b5)]) (lenOf pd_1_3 rfl) rfl (by show 2 * 0 + _ ≤ _; exact Nat.le_of_eq rfl) (hb hby d1_22) (fun _ _ => ⟨rfl, rfl, (by decide : 2 + 0 ≤ _), (by decide : 5 + 0 ≤ _)⟩)
  dsimp only [Pt.U, Pt.locs, Pt.cells, Pt.slots] at X7 l7 y7 z7 st7 hQ7
  subst l7 y7 z7
  obtain ⟨rfl, N7q, K7c⟩ := hQ7
  have K7 : Keep h0 T7.heap [] := K6.trans K7c (allS (Or.inr sz_b5) all0)
  have N7 := Fr.app N6 N7q
  obtain ⟨fs, hr, hrun, hended, hW, hsame⟩ := X7.leave (v := some (.ref b5)) (fun h => by rw [Bd.returns] at h; cases h)
  refine ⟨_, _, pre0 _ ?_, hrun, hended, _, _, rfl, ?_, ⟨_, rfl⟩, hW, hsame.mono (by decide) (by decide)⟩
  · show Steps p.tables e below (s₁.setTop (mkF m 0 #[.val (.int p1)] [])) _
    refine st3 _ ?_
    show Steps p.tables e below (T3.setTop (mkF m 3 #[.val (.int p1)] [(.int w2)])) _
    refine XS.ifNo X3.here hx rfl (hb hby d1_3) rfl ((if0 _ _).trans (feq hc3).1) ?_
    show Steps p.tables e below (T3.setTop (mkF m 6 #[.val (.int p1)] [])) _
    refine XS.iloadN X3.here hx rfl (hb hby d1_6) rfl ?_
    show Steps p.tables e below (T3.setTop (mkF m 7 #[.val (.int p1)] [(.int p1)])) _
    refine st4 _ ?_
    show Steps p.tables e below (T4.setTop (mkF m 10 #[.val (.int p1)] [(.int (1 : Int32))])) _
    refine XS.ifNo X4.here hx rfl (hb hby d1_10) rfl ((if0 _ _).trans (feq (by decide : ¬ ((1 : Int32) = (0 : Int32)))).1) ?_
    show Steps p.tables e below (T4.setTop (mkF m 13 #[.val (.int p1)] [])) _
    refine st5 _ ?_
    show Steps p.tables e below (T5.setTop (mkF m 16 #[.val (.int p1)] [(.ref b5)])) _
    refine XS.dup X5.here hx rfl (hb hby d1_16) rfl rfl ?_
    show Steps p.tables e below (T5.setTop (mkF m 17 #[.val (.int p1)] [(.ref b5), (.ref b5)])) _
    refine XS.iloadN X5.here hx rfl (hb hby d1_17) rfl ?_
    show Steps p.tables e below (T5.setTop (mkF m 18 #[.val (.int p1)] [(.int p1), (.ref b5), (.ref b5)])) _
    refine st6 _ ?_
    show Steps p.tables e below (T6.setTop (mkF m 21 #[.val (.int p1)] [(.ref h5.size), (.ref b5), (.ref b5)])) _
    refine XS.iconst X6.here hx rfl (hb hby d1_21) ?_
    show Steps p.tables e below (T6.setTop (mkF m 22 #[.val (.int p1)] [(.int (0 : Int32)), (.ref h5.size), (.ref b5), (.ref b5)])) _
    refine st7.trans ?_
    show Steps p.tables e below (T7.setTop (mkF m 25 #[.val (.int p1)] [(.ref b5)])) _
    jvm_step X7.here [X7.here.top, hx, (hb hby d1_25), X7.method', Bd.returns, Value.isRef, FieldType.isReference]
    first | (intro acts; rw [hr _ acts rfl rfl rfl]) | rw [hr _ _ rfl rfl rfl]
    exact Steps.refl _
  · show Q1 Z p1 w2 h0 n0 _ T7.heap _
    exact ⟨by rw [g5, q4], N7, K7⟩
theorem d7_0 : decode jdk_30_method_1_code 0 = .ok (.aload_n 0, 1) := by decide +kernel
theorem d7_1 : decode jdk_30_method_1_code 1 = .ok (.invokespecial 1, 3) := by decide +kernel
theorem d7_4 : decode jdk_30_method_1_code 4 = .ok (.return_, 1) := by decide +kernel
theorem pn_7 : plainName "java/lang/Record" = true := by first | (simp [plainName, overriddenIn]; done) | decide +kernel
theorem ef_7 (m : MethodId) (x0 : Addr) : entryFrame m #[(.ref x0)] 1 = mkF m 0 #[.val (.ref x0)] [] := by first | (simp [entryFrame, mkF, argsToLocals, Value.category]; done) | rfl
def Q7 (Z : State) (a1 : Addr) (h0 : Heap) (n0 : Nat) (v : Option Value) (h : Heap) (L : List Loc) : Prop := v = none ∧ Fr n0 L ∧ h = h0
set_option maxRecDepth 65536 in
set_option maxHeartbeats 40000000 in
theorem rm7 (l : Launch) (Z : State) (a0 : Array Value) (hw : ∀ d ∈ tables_1, d.before a0 Z = true) (ws : List Jvm.Cond) (a1 : Addr) (h0 : Heap) (n0 : Nat) (Z0 : n0 ≤ h0.size) :
    MetFree l (⟨"java/lang/Record", "<init>", "()V"⟩ : MethodName) (head1 (Jvm.Cond.code (⟨"java/lang/Record", "<init>", "()V"⟩ : MethodName) jdk_30_method_1_code 1 none :: ws) ({ frames := 1, cells := 0, slots := 0, locals := 12 } : Room)) (fun a U => a = #[(.ref a1)] ∧ Z.Warmed39 U.vm ∧ U.heap = h0) (fun _ _ _ _ _ => True) (fun _ U o U' => ∃ v L, o = .returned v ∧ Q7 Z a1 h0 n0 v U'.heap L ∧ FrameEnd U o U' L ({ frames := 1, cells := 0, slots := 0, locals := 12 } : Room).cells ({ frames := 1, cells := 0, slots := 0, locals := 12 } : Room).slots) := by
  refine MetFree.of_bodySF (plainFor_of_name pn_7) hisR ?_
  intro p e s m args below meth c s₁ Bd hml0 hP hK
  obtain ⟨rfl, hZ, hh⟩ := hP
  have hx := Bd.exec
  have hby := Bd.bytes
  have hml : c.maxLocals = 1 := hml0
  have hown : s.vm.findClass "java/lang/Record" = some m.cls := findClass_of_methodNamed Bd.named
  have hnm := (name_of_methodNamed Bd.named Bd.method).1
  have X0 : Stand p l e ({ frames := 1, cells := 0, slots := 0, locals := 12 } : Room) s m #[(.ref a1)] below meth c s₁ [] 0 0 := Stand.of_body Bd
  have e0 : s₁.heap = h0 := by rw [← hh, Bd.state]; rfl
  have N0 := Fr.nil n0
  have pre0 : ∀ t, Steps p.tables e below (s₁.setTop (mkF m 0 #[.val (.ref a1)] [])) t → Steps p.tables e below (s₁.setTop (entryFrame m #[(.ref a1)] 1)) t := fun t k => castTop (ef_7 m a1) k
  obtain ⟨T2, X2, e2, st2⟩ := initO X0 hx hZ hown (hw _ (List.mem_of_getElem? (i := 37) rfl)) (hw _ (List.mem_of_getElem? (i := 20) rfl)) (hw _ (List.mem_of_getElem? (i := 21) rfl)) e0 (g := (mkF m 1 #[.val (.ref a1)] [(.ref a1)])) rfl (by rw [hml]; rfl) rfl (hb hby d7_1) (by decide) (W := 0) (by show 2 * 0 + _ ≤ _; exact Nat.le_of_eq rfl) (by decide)
  obtain ⟨fs, hr, hrun, hended, hW, hsame⟩ := X2.leave (v := none) (fun _ => rfl)
  refine ⟨_, _, pre0 _ ?_, hrun, hended, _, _, rfl, ?_, ⟨_, rfl⟩, hW, hsame.mono (by decide) (by decide)⟩
  · show Steps p.tables e below (s₁.setTop (mkF m 0 #[.val (.ref a1)] [])) _
    refine XS.aloadN X0.here hx rfl (hb hby d7_0) rfl rfl ?_
    show Steps p.tables e below (s₁.setTop (mkF m 1 #[.val (.ref a1)] [(.ref a1)])) _
    refine st2 _ ?_
    show Steps p.tables e below (T2.setTop (mkF m 4 #[.val (.ref a1)] [])) _
    exact X2.returnOut hx Bd.returns (hb hby d7_4) hr
  · show Q7 Z a1 h0 n0 _ T2.heap _
    rw [e2]
    exact ⟨rfl, N0, rfl⟩
theorem d6_0 : decode prog_130_method_1_code 0 = .ok (.aload_n 0, 1) := by decide +kernel
theorem d6_1 : decode prog_130_method_1_code 1 = .ok (.invokespecial 1, 3) := by decide +kernel
theorem d6_4 : decode prog_130_method_1_code 4 = .ok (.aload_n 0, 1) := by decide +kernel
theorem d6_5 : decode prog_130_method_1_code 5 = .ok (.aload_n 1, 1) := by decide +kernel
theorem d6_6 : decode prog_130_method_1_code 6 = .ok (.putfield 7, 3) := by decide +kernel
theorem d6_9 : decode prog_130_method_1_code 9 = .ok (.aload_n 0, 1) := by decide +kernel
theorem d6_10 : decode prog_130_method_1_code 10 = .ok (.lload_n 2, 1) := by decide +kernel
theorem d6_11 : decode prog_130_method_1_code 11 = .ok (.putfield 13, 3) := by decide +kernel
theorem d6_14 : decode prog_130_method_1_code 14 = .ok (.aload_n 0, 1) := by decide +kernel
theorem d6_15 : decode prog_130_method_1_code 15 = .ok (.lload 4, 2) := by decide +kernel
theorem d6_17 : decode prog_130_method_1_code 17 = .ok (.putfield 17, 3) := by decide +kernel
theorem d6_20 : decode prog_130_method_1_code 20 = .ok (.aload_n 0, 1) := by decide +kernel
theorem d6_21 : decode prog_130_method_1_code 21 = .ok (.lload 6, 2) := by decide +kernel
theorem d6_23 : decode prog_130_method_1_code 23 = .ok (.putfield 20, 3) := by decide +kernel
theorem d6_26 : decode prog_130_method_1_code 26 = .ok (.return_, 1) := by decide +kernel
theorem pn_6 : plainName "com/example/keelstone/keelstone/ledger/Account" = true := by first | (simp [plainName, overriddenIn]; done) | decide +kernel
theorem pd_6_4 : parseMethodDescriptor "()V" = some ⟨[], none⟩ := by decide +kernel
theorem ef_6 (m : MethodId) (x0 : Addr) (x1 : Addr) (x2 : Int64) (x3 : Int64) (x4 : Int64) : entryFrame m #[(.ref x0), (.ref x1), (.long x2), (.long x3), (.long x4)] 8 = mkF m 0 #[.val (.ref x0), .val (.ref x1), .val (.long x2), .second, .val (.long x3), .second, .val (.long x4), .second] [] := by first | (simp [entryFrame, mkF, argsToLocals, Value.category]; done) | rfl
def Q6 (Z : State) (a1 : Addr) (a2 : Addr) (q3 : Int64) (q4 : Int64) (q5 : Int64) (u_id_a1 : Value) (u_balance_a1 : Value) (u_system_a1 : Value) (u_unreached_a1 : Value) (h0 : Heap) (n0 : Nat) (v : Option Value) (h : Heap) (L : List Loc) : Prop := v = none ∧ Fr n0 L ∧ Keep h0 h [a1] ∧ Exa Z h a1 "com/example/keelstone/keelstone/ledger/Account" ∧ Fld Z h a1 "com/example/keelstone/keelstone/ledger/Account" "balance" "J" (.long q3) ∧ Fld Z h a1 "com/example/keelstone/keelstone/ledger/Account" "system" "J" (.long q4) ∧ Fld Z h a1 "com/example/keelstone/keelstone/ledger/Account" "unreached" "J" (.long q5)
set_option maxRecDepth 65536 in
set_option maxHeartbeats 40000000 in
theorem rm6 (l : Launch) (Z : State) (a0 : Array Value) (hw : ∀ d ∈ tables_1, d.before a0 Z = true) (ws : List Jvm.Cond) (a1 : Addr) (a2 : Addr) (q3 : Int64) (q4 : Int64) (q5 : Int64) (u_id_a1 : Value) (u_balance_a1 : Value) (u_system_a1 : Value) (u_unreached_a1 : Value) (h0 : Heap) (n0 : Nat) (Z0 : n0 ≤ h0.size) (E_a1 : Exa Z h0 a1 "com/example/keelstone/keelstone/ledger/Account") (F_id_a1 : Fld Z h0 a1 "com/example/keelstone/keelstone/ledger/Account" "id" "Ljava/lang/String;" u_id_a1) (g_a1 : n0 ≤ a1) (F_balance_a1 : Fld Z h0 a1 "com/example/keelstone/keelstone/ledger/Account" "balance" "J" u_balance_a1) (F_system_a1 : Fld Z h0 a1 "com/example/keelstone/keelstone/ledger/Account" "system" "J" u_system_a1) (F_unreached_a1 : Fld Z h0 a1 "com/example/keelstone/keelstone/ledger/Account" "unreached" "J" u_unreached_a1) :
    MetFree l (⟨"com/example/keelstone/keelstone/ledger/Account", "<init>", "(Ljava/lang/String;JJJ)V"⟩ : MethodName) (head1 (Jvm.Cond.code (⟨"com/example/keelstone/keelstone/ledger/Account", "<init>", "(Ljava/lang/String;JJJ)V"⟩ : MethodName) prog_130_method_1_code 8 none :: ws) ({ frames := 2, cells := 0, slots := 0, locals := 24 } : Room)) (fun a U => a = #[(.ref a1), (.ref a2), (.long q3), (.long q4), (.long q5)] ∧ Z.Warmed39 U.vm ∧ U.heap = h0) (fun _ _ _ _ _ => True) (fun _ U o U' => ∃ v L, o = .returned v ∧ Q6 Z a1 a2 q3 q4 q5 u_id_a1 u_balance_a1 u_system_a1 u_unreached_a1 h0 n0 v U'.heap L ∧ FrameEnd U o U' L ({ frames := 2, cells := 0, slots := 0, locals := 24 } : Room).cells ({ frames := 2, cells := 0, slots := 0, locals := 24 } : Room).slots) := by
  refine MetFree.of_bodySF (plainFor_of_name pn_6) hisR ?_
  intro p e s m args below meth c s₁ Bd hml0 hP hK
  obtain ⟨rfl, hZ, hh⟩ := hP
  have hx := Bd.exec
  have hby := Bd.bytes
  have hml : c.maxLocals = 8 := hml0
  have hown : s.vm.findClass "com/example/keelstone/keelstone/ledger/Account" = some m.cls := findClass_of_methodNamed Bd.named
  have hnm := (name_of_methodNamed Bd.named Bd.method).1
  have X0 : Stand p l e ({ frames := 2, cells := 0, slots := 0, locals := 24 } : Room) s m #[(.ref a1), (.ref a2), (.long q3), (.long q4), (.long q5)] below meth c s₁ [] 0 0 := Stand.of_body Bd
  have e0 : s₁.heap = h0 := by rw [← hh, Bd.state]; rfl
  have N0 := Fr.nil n0
  have pre0 : ∀ t, Steps p.tables e below (s₁.setTop (mkF m 0 #[.val (.ref a1), .val (.ref a2), .val (.long q3), .second, .val (.long q4), .second, .val (.long q5), .second] [])) t → Steps p.tables e below (s₁.setTop (entryFrame m #[(.ref a1), (.ref a2), (.long q3), (.long q4), (.long q5)] 8)) t := fun t k => castTop (ef_6 m a1 a2 q3 q4 q5) k
  obtain ⟨_, _, ⟨T6, L6, k6, n6⟩, -, X6, ⟨Lc6, hQ6, l6, y6, z6⟩, st6⟩ := X0.specialBack hx (y := (⟨"java/lang/Record", "<init>", "()V"⟩ : MethodName)) rfl hown (mvT hZ (hw _ (List.mem_of_getElem? (i := 32) rfl))) (mvT hZ (hw _ (List.mem_of_getElem? (i := 33) rfl))) (mvT hZ (hw _ (List.mem_of_getElem? (i := 36) rfl))) (by decide) (backOf (W := 0) (rm7 l Z a0 hw [] a1 h0 n0 Z0) hZ (hw _ (List.mem_of_getElem? (i := 36) rfl)) (hw _ (List.mem_of_getElem? (i := 35) rfl)) (by decide) (by decide)) (g := (mkF m 1 #[.val (.ref a1), .val (.ref a2), .val (.long q3), .second, .val (.long q4), .second, .val (.long q5), .second] [(.ref a1)])) rfl (by rw [hml]; rfl) (Steps.refl _) (a := a1) (argsL := []) (rest := []) (lenOf pd_6_4 rfl) rfl (by show 2 * 0 + _ ≤ _; exact Nat.le_of_eq rfl) (hb hby d6_1) (fun _ _ => ⟨rfl, e0, (by decide : 0 + 0 ≤ _), (by decide : 0 + 0 ≤ _)⟩)
  dsimp only [Pt.U, Pt.locs, Pt.cells, Pt.slots] at X6 l6 y6 z6 st6 hQ6
  subst l6 y6 z6
  obtain ⟨rfl, N6q, q6⟩ := hQ6
  have K6 : Keep h0 T6.heap [] := by rw [q6]; exact Keep.refl h0 []
  have K6a : Keep h0 T6.heap [a1] := by rw [q6]; exact Keep.refl h0 [a1]
  have N6 := Fr.app N0 N6q
  obtain ⟨T7, h7, X7, e7, W7, st7⟩ := putF X6 hx hZ hown (host := "") (Or.inl (hw _ (List.mem_of_getElem? (i := 38) rfl))) Via.refl rfl (F_id_a1.keep K6 nin0) (E_a1.keep K6) (Or.inr ⟨(hw _ (List.mem_of_getElem? (i := 39) rfl)), rfl, hnm⟩) (hw _ (List.mem_of_getElem? (i := 27) rfl)) (ty := (.object "java/lang/String")) (by decide) rfl rfl (g := (mkF m 6 #[.val (.ref a1), .val (.ref a2), .val (.long q3), .second, .val (.long q4), .second, .val (.long q5), .second] [(.ref a2), (.ref a1)])) rfl rfl (hb hby d6_6)
  have Fw7 := (F_id_a1.keep K6 nin0).same W7
  have K7 : Keep h0 h7 [a1] := K6a.wr W7 (Or.inl (List.mem_of_getElem? (i := 0) rfl))
  have N7 := Fr.snoc X7 N6 g_a1
  obtain ⟨T8, h8, X8, e8, W8, st8⟩ := putF X7 hx hZ hown (host := "") (Or.inl (hw _ (List.mem_of_getElem? (i := 40) rfl))) Via.refl e7 ((F_balance_a1.keep K6 nin0).other W7 (Or.inr (slot_ne (Or.inr (hw _ (List.mem_of_getElem? (i := 41) rfl))) (Or.inr (hw _ (List.mem_of_getElem? (i := 39) rfl))) (by decide) (t := .long) (t' := (.object "java/lang/String")) (by decide) (by decide)))) ((E_a1.keep K6).wr W7) (Or.inr ⟨(hw _ (List.mem_of_getElem? (i := 41) rfl)), rfl, hnm⟩) (hw _ (List.mem_of_getElem? (i := 27) rfl)) (ty := .long) (by decide) rfl rfl (g := (mkF m 11 #[.val (.ref a1), .val (.ref a2), .val (.long q3), .second, .val (.long q4), .second, .val (.long q5), .second] [(.long q3), (.ref a1)])) rfl rfl (hb hby d6_11)
  have Fw8 := ((F_balance_a1.keep K6 nin0).other W7 (Or.inr (slot_ne (Or.inr (hw _ (List.mem_of_getElem? (i := 41) rfl))) (Or.inr (hw _ (List.mem_of_getElem? (i := 39) rfl))) (by decide) (t := .long) (t' := (.object "java/lang/String")) (by decide) (by decide)))).same W8
  have K8 : Keep h0 h8 [a1] := K7.wr W8 (Or.inl (List.mem_of_getElem? (i := 0) rfl))
  have N8 := Fr.snoc X8 N7 g_a1
  obtain ⟨T9, h9, X9, e9, W9, st9⟩ := putF X8 hx hZ hown (host := "") (Or.inl (hw _ (List.mem_of_getElem? (i := 42) rfl))) Via.refl e8 (((F_system_a1.keep K6 nin0).other W7 (Or.inr (slot_ne (Or.inr (hw _ (List.mem_of_getElem? (i := 43) rfl))) (Or.inr (hw _ (List.mem_of_getElem? (i := 39) rfl))) (by decide) (t := .long) (t' := (.object "java/lang/String")) (by decide) (by decide)))).other W8 (Or.inr (slot_ne (Or.inr (hw _ (List.mem_of_getElem? (i := 43) rfl))) (Or.inr (hw _ (List.mem_of_getElem? (i := 41) rfl))) (by decide) (t := .long) (t' := .long) (by decide) (by decide)))) (((E_a1.keep K6).wr W7).wr W8) (Or.inr ⟨(hw _ (List.mem_of_getElem? (i := 43) rfl)), rfl, hnm⟩) (hw _ (List.mem_of_getElem? (i := 27) rfl)) (ty := .long) (by decide) rfl rfl (g := (mkF m 17 #[.val (.ref a1), .val (.ref a2), .val (.long q3), .second, .val (.long q4), .second, .val (.long q5), .second] [(.long q4), (.ref a1)])) rfl rfl (hb hby d6_17)
  have Fw9 := (((F_system_a1.keep K6 nin0).other W7 (Or.inr (slot_ne (Or.inr (hw _ (List.mem_of_getElem? (i := 43) rfl))) (Or.inr (hw _ (List.mem_of_getElem? (i := 39) rfl))) (by decide) (t := .long) (t' := (.object "java/lang/String")) (by decide) (by decide)))).other W8 (Or.inr (slot_ne (Or.inr (hw _ (List.mem_of_getElem? (i := 43) rfl))) (Or.inr (hw _ (List.mem_of_getElem? (i := 41) rfl))) (by decide) (t := .long) (t' := .long) (by decide) (by decide)))).same W9
  have K9 : Keep h0 h9 [a1] := K8.wr W9 (Or.inl (List.mem_of_getElem? (i := 0) rfl))
  have N9 := Fr.snoc X9 N8 g_a1
  obtain ⟨T10, h10, X10, e10, W10, st10⟩ := putF X9 hx hZ hown (host := "") (Or.inl (hw _ (List.mem_of_getElem? (i := 44) rfl))) Via.refl e9 ((((F_unreached_a1.keep K6 nin0).other W7 (Or.inr (slot_ne (Or.inr (hw _ (List.mem_of_getElem? (i := 45) rfl))) (Or.inr (hw _ (List.mem_of_getElem? (i := 39) rfl))) (by decide) (t := .long) (t' := (.object "java/lang/String")) (by decide) (by decide)))).other W8 (Or.inr (slot_ne (Or.inr (hw _ (List.mem_of_getElem? (i := 45) rfl))) (Or.inr (hw _ (List.mem_of_getElem? (i := 41) rfl))) (by decide) (t := .long) (t' := .long) (by decide) (by decide)))).other W9 (Or.inr (slot_ne (Or.inr (hw _ (List.mem_of_getElem? (i := 45) rfl))) (Or.inr (hw _ (List.mem_of_getElem? (i := 43) rfl))) (by decide) (t := .long) (t' := .long) (by decide) (by decide)))) ((((E_a1.keep K6).wr W7).wr W8).wr W9) (Or.inr ⟨(hw _ (List.mem_of_getElem? (i := 45) rfl)), rfl, hnm⟩) (hw _ (List.mem_of_getElem? (i := 27) rfl)) (ty := .long) (by decide) rfl rfl (g := (mkF m 23 #[.val (.ref a1), .val (.ref a2), .val (.long q3), .second, .val (.long q4), .second, .val (.long q5), .second] [(.long q5), (.ref a1)])) rfl rfl (hb hby d6_23)
  have Fw10 := ((((F_unreached_a1.keep K6 nin0).other W7 (Or.inr (slot_ne (Or.inr (hw _ (List.mem_of_getElem? (i := 45) rfl))) (Or.inr (hw _ (List.mem_of_getElem? (i := 39) rfl))) (by decide) (t := .long) (t' := (.object "java/lang/String")) (by decide) (by decide)))).other W8 (Or.inr (slot_ne (Or.inr (hw _ (List.mem_of_getElem? (i := 45) rfl))) (Or.inr (hw _ (List.mem_of_getElem? (i := 41) rfl))) (by decide) (t := .long) (t' := .long) (by decide) (by decide)))).other W9 (Or.inr (slot_ne (Or.inr (hw _ (List.mem_of_getElem? (i := 45) rfl))) (Or.inr (hw _ (List.mem_of_getElem? (i := 43) rfl))) (by decide) (t := .long) (t' := .long) (by decide) (by decide)))).same W10
  have K10 : Keep h0 h10 [a1] := K9.wr W10 (Or.inl (List.mem_of_getElem? (i := 0) rfl))
  have N10 := Fr.snoc X10 N9 g_a1
  obtain ⟨fs, hr, hrun, hended, hW, hsame⟩ := X10.leave (v := none) (fun _ => rfl)
  refine ⟨_, _, pre0 _ ?_, hrun, hended, _, _, rfl, ?_, ⟨_, rfl⟩, hW, hsame.mono (by decide) (by decide)⟩
  · show Steps p.tables e below (s₁.setTop (mkF m 0 #[.val (.ref a1), .val (.ref a2), .val (.long q3), .second, .val (.long q4), .second, .val (.long q5), .second] [])) _
    refine XS.aloadN X0.here hx rfl (hb hby d6_0) rfl rfl ?_
    show Steps p.tables e below (s₁.setTop (mkF m 1 #[.val (.ref a1), .val (.ref a2), .val (.long q3), .second, .val (.long q4), .second, .val (.long q5), .second] [(.ref a1)])) _
    refine st6.trans ?_
    show Steps p.tables e below (T6.setTop (mkF m 4 #[.val (.ref a1), .val (.ref a2), .val (.long q3), .second, .val (.long q4), .second, .val (.long q5), .second] [])) _
    refine XS.aloadN X6.here hx rfl (hb hby d6_4) rfl rfl ?_
    show Steps p.tables e below (T6.setTop (mkF m 5 #[.val (.ref a1), .val (.ref a2), .val (.long q3), .second, .val (.long q4), .second, .val (.long q5), .second] [(.ref a1)])) _
    refine XS.aloadN X6.here hx rfl (hb hby d6_5) rfl rfl ?_
    show Steps p.tables e below (T6.setTop (mkF m 6 #[.val (.ref a1), .val (.ref a2), .val (.long q3), .second, .val (.long q4), .second, .val (.long q5), .second] [(.ref a2), (.ref a1)])) _
    refine st7 _ ?_
    show Steps p.tables e below (T7.setTop (mkF m 9 #[.val (.ref a1), .val (.ref a2), .val (.long q3), .second, .val (.long q4), .second, .val (.long q5), .second] [])) _
    refine XS.aloadN X7.here hx rfl (hb hby d6_9) rfl rfl ?_
    show Steps p.tables e below (T7.setTop (mkF m 10 #[.val (.ref a1), .val (.ref a2), .val (.long q3), .second, .val (.long q4), .second, .val (.long q5), .second] [(.ref a1)])) _
    refine XS.lloadN X7.here hx rfl (hb hby d6_10) rfl ?_
    show Steps p.tables e below (T7.setTop (mkF m 11 #[.val (.ref a1), .val (.ref a2), .val (.long q3), .second, .val (.long q4), .second, .val (.long q5), .second] [(.long q3), (.ref a1)])) _
    refine st8 _ ?_
    show Steps p.tables e below (T8.setTop (mkF m 14 #[.val (.ref a1), .val (.ref a2), .val (.long q3), .second, .val (.long q4), .second, .val (.long q5), .second] [])) _
    refine XS.aloadN X8.here hx rfl (hb hby d6_14) rfl rfl ?_
    show Steps p.tables e below (T8.setTop (mkF m 15 #[.val (.ref a1), .val (.ref a2), .val (.long q3), .second, .val (.long q4), .second, .val (.long q5), .second] [(.ref a1)])) _
    refine XS.lload X8.here hx rfl (hb hby d6_15) rfl ?_
    show Steps p.tables e below (T8.setTop (mkF m 17 #[.val (.ref a1), .val (.ref a2), .val (.long q3), .second, .val (.long q4), .second, .val (.long q5), .second] [(.long q4), (.ref a1)])) _
    refine st9 _ ?_
    show Steps p.tables e below (T9.setTop (mkF m 20 #[.val (.ref a1), .val (.ref a2), .val (.long q3), .second, .val (.long q4), .second, .val (.long q5), .second] [])) _
    refine XS.aloadN X9.here hx rfl (hb hby d6_20) rfl rfl ?_
    show Steps p.tables e below (T9.setTop (mkF m 21 #[.val (.ref a1), .val (.ref a2), .val (.long q3), .second, .val (.long q4), .second, .val (.long q5), .second] [(.ref a1)])) _
    refine XS.lload X9.here hx rfl (hb hby d6_21) rfl ?_
    show Steps p.tables e below (T9.setTop (mkF m 23 #[.val (.ref a1), .val (.ref a2), .val (.long q3), .second, .val (.long q4), .second, .val (.long q5), .second] [(.long q5), (.ref a1)])) _
    refine st10 _ ?_
    show Steps p.tables e below (T10.setTop (mkF m 26 #[.val (.ref a1), .val (.ref a2), .val (.long q3), .second, .val (.long q4), .second, .val (.long q5), .second] [])) _
    exact X10.returnOut hx Bd.returns (hb hby d6_26) hr
  · show Q6 Z a1 a2 q3 q4 q5 u_id_a1 u_balance_a1 u_system_a1 u_unreached_a1 h0 n0 _ T10.heap _
    rw [e10]
    exact ⟨rfl, N10, K10, (((((E_a1.keep K6).wr W7).wr W8).wr W9).wr W10), ((Fw8.other W9 (Or.inr (slot_ne (Or.inr (hw _ (List.mem_of_getElem? (i := 41) rfl))) (Or.inr (hw _ (List.mem_of_getElem? (i := 43) rfl))) (by decide) (t := .long) (t' := .long) (by decide) (by decide)))).other W10 (Or.inr (slot_ne (Or.inr (hw _ (List.mem_of_getElem? (i := 41) rfl))) (Or.inr (hw _ (List.mem_of_getElem? (i := 45) rfl))) (by decide) (t := .long) (t' := .long) (by decide) (by decide)))), (Fw9.other W10 (Or.inr (slot_ne (Or.inr (hw _ (List.mem_of_getElem? (i := 43) rfl))) (Or.inr (hw _ (List.mem_of_getElem? (i := 45) rfl))) (by decide) (t := .long) (t' := .long) (by decide) (by decide)))), Fw10⟩
theorem d8_0 : decode prog_130_method_2_code 0 = .ok (.aload_n 0, 1) := by decide +kernel
theorem d8_1 : decode prog_130_method_2_code 1 = .ok (.getfield 13, 3) := by decide +kernel
theorem d8_4 : decode prog_130_method_2_code 4 = .ok (.aload_n 0, 1) := by decide +kernel
theorem d8_5 : decode prog_130_method_2_code 5 = .ok (.getfield 17, 3) := by decide +kernel
theorem d8_8 : decode prog_130_method_2_code 8 = .ok (.lsub, 1) := by decide +kernel
theorem d8_9 : decode prog_130_method_2_code 9 = .ok (.aload_n 0, 1) := by decide +kernel
theorem d8_10 : decode prog_130_method_2_code 10 = .ok (.getfield 20, 3) := by decide +kernel
theorem d8_13 : decode prog_130_method_2_code 13 = .ok (.ladd, 1) := by decide +kernel
theorem d8_14 : decode prog_130_method_2_code 14 = .ok (.lreturn, 1) := by decide +kernel
theorem pn_8 : plainName "com/example/keelstone/keelstone/ledger/Account" = true := by first | (simp [plainName, overriddenIn]; done) | decide +kernel
theorem ef_8 (m : MethodId) (x0 : Addr) : entryFrame m #[(.ref x0)] 1 = mkF m 0 #[.val (.ref x0)] [] := by first | (simp [entryFrame, mkF, argsToLocals, Value.category]; done) | rfl
def Q8 (Z : State) (a1 : Addr) (w2 : Int64) (w4 : Int64) (w6 : Int64) (h0 : Heap) (n0 : Nat) (v : Option Value) (h : Heap) (L : List Loc) : Prop := v = some (.long ((w2 - w4) + w6)) ∧ Fr n0 L ∧ h = h0
set_option maxRecDepth 65536 in
set_option maxHeartbeats 40000000 in
theorem rm8 (l : Launch) (Z : State) (a0 : Array Value) (hw : ∀ d ∈ tables_1, d.before a0 Z = true) (ws : List Jvm.Cond) (a1 : Addr) (w2 : Int64) (w4 : Int64) (w6 : Int64) (h0 : Heap) (n0 : Nat) (Z0 : n0 ≤ h0.size) (F_balance_a1 : Fld Z h0 a1 "com/example/keelstone/keelstone/ledger/Account" "balance" "J" (.long w2)) (F_system_a1 : Fld Z h0 a1 "com/example/keelstone/keelstone/ledger/Account" "system" "J" (.long w4)) (F_unreached_a1 : Fld Z h0 a1 "com/example/keelstone/keelstone/ledger/Account" "unreached" "J" (.long w6)) :
    MetFree l (⟨"com/example/keelstone/keelstone/ledger/Account", "available", "()J"⟩ : MethodName) (head1 (Jvm.Cond.code (⟨"com/example/keelstone/keelstone/ledger/Account", "available", "()J"⟩ : MethodName) prog_130_method_2_code 1 (some .long) :: ws) ({ frames := 0, cells := 0, slots := 0, locals := 0 } : Room)) (fun a U => a = #[(.ref a1)] ∧ Z.Warmed39 U.vm ∧ U.heap = h0) (fun _ _ _ _ _ => True) (fun _ U o U' => ∃ v L, o = .returned v ∧ Q8 Z a1 w2 w4 w6 h0 n0 v U'.heap L ∧ FrameEnd U o U' L ({ frames := 0, cells := 0, slots := 0, locals := 0 } : Room).cells ({ frames := 0, cells := 0, slots := 0, locals := 0 } : Room).slots) := by
  refine MetFree.of_bodySF (plainFor_of_name pn_8) hisR ?_
  intro p e s m args below meth c s₁ Bd hml0 hP hK
  obtain ⟨rfl, hZ, hh⟩ := hP
  have hx := Bd.exec
  have hby := Bd.bytes
  have hml : c.maxLocals = 1 := hml0
  have hown : s.vm.findClass "com/example/keelstone/keelstone/ledger/Account" = some m.cls := findClass_of_methodNamed Bd.named
  have hnm := (name_of_methodNamed Bd.named Bd.method).1
  have X0 : Stand p l e ({ frames := 0, cells := 0, slots := 0, locals := 0 } : Room) s m #[(.ref a1)] below meth c s₁ [] 0 0 := Stand.of_body Bd
  have e0 : s₁.heap = h0 := by rw [← hh, Bd.state]; rfl
  have N0 := Fr.nil n0
  have pre0 : ∀ t, Steps p.tables e below (s₁.setTop (mkF m 0 #[.val (.ref a1)] [])) t → Steps p.tables e below (s₁.setTop (entryFrame m #[(.ref a1)] 1)) t := fun t k => castTop (ef_8 m a1) k
  obtain ⟨T3, X3, e3, st3⟩ := getF X0 hx hZ hown (host := "") (Or.inl (hw _ (List.mem_of_getElem? (i := 40) rfl))) Via.refl e0 F_balance_a1 (g := (mkF m 1 #[.val (.ref a1)] [(.ref a1)])) rfl rfl (hb hby d8_1)
  obtain ⟨T5, X5, e5, st5⟩ := getF X3 hx hZ hown (host := "") (Or.inl (hw _ (List.mem_of_getElem? (i := 42) rfl))) Via.refl e3 F_system_a1 (g := (mkF m 5 #[.val (.ref a1)] [(.ref a1), (.long w2)])) rfl rfl (hb hby d8_5)
  obtain ⟨T7, X7, e7, st7⟩ := getF X5 hx hZ hown (host := "") (Or.inl (hw _ (List.mem_of_getElem? (i := 44) rfl))) Via.refl e5 F_unreached_a1 (g := (mkF m 10 #[.val (.ref a1)] [(.ref a1), (.long (w2 - w4))])) rfl rfl (hb hby d8_10)
  obtain ⟨fs, hr, hrun, hended, hW, hsame⟩ := X7.leave (v := some (.long ((w2 - w4) + w6))) (fun h => by rw [Bd.returns] at h; cases h)
  refine ⟨_, _, pre0 _ ?_, hrun, hended, _, _, rfl, ?_, ⟨_, rfl⟩, hW, hsame.mono (by decide) (by decide)⟩
  · show Steps p.tables e below (s₁.setTop (mkF m 0 #[.val (.ref a1)] [])) _
    refine XS.aloadN X0.here hx rfl (hb hby d8_0) rfl rfl ?_
    show Steps p.tables e below (s₁.setTop (mkF m 1 #[.val (.ref a1)] [(.ref a1)])) _
    refine st3 _ ?_
    show Steps p.tables e below (T3.setTop (mkF m 4 #[.val (.ref a1)] [(.long w2)])) _
    refine XS.aloadN X3.here hx rfl (hb hby d8_4) rfl rfl ?_
    show Steps p.tables e below (T3.setTop (mkF m 5 #[.val (.ref a1)] [(.ref a1), (.long w2)])) _
    refine st5 _ ?_
    show Steps p.tables e below (T5.setTop (mkF m 8 #[.val (.ref a1)] [(.long w4), (.long w2)])) _
    refine XS.lsub X5.here hx rfl (hb hby d8_8) rfl ?_
    show Steps p.tables e below (T5.setTop (mkF m 9 #[.val (.ref a1)] [(.long (w2 - w4))])) _
    refine XS.aloadN X5.here hx rfl (hb hby d8_9) rfl rfl ?_
    show Steps p.tables e below (T5.setTop (mkF m 10 #[.val (.ref a1)] [(.ref a1), (.long (w2 - w4))])) _
    refine st7 _ ?_
    show Steps p.tables e below (T7.setTop (mkF m 13 #[.val (.ref a1)] [(.long w6), (.long (w2 - w4))])) _
    refine XS.ladd X7.here hx rfl (hb hby d8_13) rfl ?_
    show Steps p.tables e below (T7.setTop (mkF m 14 #[.val (.ref a1)] [(.long ((w2 - w4) + w6))])) _
    jvm_step X7.here [X7.here.top, hx, (hb hby d8_14), X7.method', Bd.returns, narrow]
    first | (intro acts; rw [hr _ acts rfl rfl rfl]) | rw [hr _ _ rfl rfl rfl]
    exact Steps.refl _
  · show Q8 Z a1 w2 w4 w6 h0 n0 _ T7.heap _
    rw [e7]
    exact ⟨rfl, N0, rfl⟩
theorem own_low (x : Int32) : ¬ ((255 : Int32) < (x &&& (255 : Int32)).toUInt32.toUInt16.toUInt32.toInt32) := by
  rw [i2c_mask]
  have e : (x &&& (255 : Int32)).toInt = x.toInt % 256 := c_mask x 255 8 (by decide) (by decide)
  have e2 : (255 : Int32).toInt = 255 := rfl
  rw [Int32.lt_iff_toInt_lt, e, e2]; omega
theorem own_l1 (q : Int64) : (q - (0 : Int64)) + (0 : Int64) = q := by rw [Int64.add_zero, Int64.sub_zero]
theorem own_l2 (q : Int64) : ((0 : Int64) - q) + (0 : Int64) = -q := by rw [Int64.add_zero, Int64.zero_sub]
theorem own_l3 (q : Int64) : ((0 : Int64) - (0 : Int64)) + q = q := by rw [Int64.sub_self, Int64.zero_add]
theorem own_l4 (a b c : Int64) : (a - b) + c = (((a - (0 : Int64)) + (0 : Int64)) + (((0 : Int64) - b) + (0 : Int64))) + (((0 : Int64) - (0 : Int64)) + c) := by rw [own_l1, own_l2, own_l3, Int64.sub_eq_add_neg]
theorem own_l5 (a b c k : Int64) : ((a + k) - (b + k)) + c = (a - b) + c := by
  apply Int64.toInt_inj.mp
  have h1 := c_ladd a k
  have h2 := c_ladd b k
  have h3 := c_lsub (a + k) (b + k)
  have h4 := c_ladd ((a + k) - (b + k)) c
  have h5 := c_lsub a b
  have h6 := c_ladd (a - b) c
  have r1 := rng64 (((a + k) - (b + k)) + c)
  have r2 := rng64 ((a - b) + c)
  omega
theorem pn_0 : plainName "com/example/keelstone/keelstone/ledger/AccountAvailablePinLaw" = true := by first | (simp [plainName, overriddenIn]; done) | decide +kernel
theorem pd_0_0 : parseMethodDescriptor "(C)Ljava/lang/String;" = some ⟨[.char], some (.object "java/lang/String")⟩ := by decide +kernel
theorem pd_0_1 : parseMethodDescriptor "(Ljava/lang/String;JJJ)V" = some ⟨[(.object "java/lang/String"), .long, .long, .long], none⟩ := by decide +kernel
theorem pd_0_2 : parseMethodDescriptor "()J" = some ⟨[], some .long⟩ := by decide +kernel
theorem ef_0 (m : MethodId) (q1 : Int64) (q2 : Int64) (q3 : Int64) (q4 : Int64) (p5 : Int32) : entryFrame m #[(.long q1), (.long q2), (.long q3), (.long q4), (.int p5)] maxLocals = (mkF m 0 #[.val (.long q1), .second, .val (.long q2), .second, .val (.long q3), .second, .val (.long q4), .second, .val (.int p5), .unset, .unset, .unset, .unset, .unset, .unset, .unset, .unset, .unset, .unset, .unset, .unset, .unset, .unset, .unset, .unset, .unset, .unset, .unset, .unset, .unset] []) := by first | (simp [entryFrame, mkF, argsToLocals, Value.category, maxLocals]; done) | rfl
def Q0 (Z : State) (q1 : Int64) (q2 : Int64) (q3 : Int64) (q4 : Int64) (p5 : Int32) (h0 : Heap) (n0 : Nat) (v : Option Value) (h : Heap) (L : List Loc) : Prop := v = some (.int (1 : Int32)) ∧ Fr n0 L
set_option maxRecDepth 65536 in
set_option maxHeartbeats 40000000 in
theorem rm0 (l : Launch) (Z : State) (a0 : Array Value) (hw : ∀ d ∈ tables_1, d.before a0 Z = true) (ws : List Jvm.Cond) (q1 : Int64) (q2 : Int64) (q3 : Int64) (q4 : Int64) (p5 : Int32) (w : Int32) (h0 : Heap) (n0 : Nat) (Z0 : n0 ≤ h0.size) (S_w : Sta Z h0 "java/lang/String" "COMPACT_STRINGS" "Z" (.int w)) (hwz : ¬ (w = (0 : Int32))) :
    MetFree l x (head1 (Jvm.Cond.code x code maxLocals ret :: ws) room_1) (fun a U => a = #[(.long q1), (.long q2), (.long q3), (.long q4), (.int p5)] ∧ Z.Warmed39 U.vm ∧ U.heap = h0) (fun _ _ _ _ _ => True) (fun _ U o U' => ∃ v L, o = .returned v ∧ Q0 Z q1 q2 q3 q4 p5 h0 n0 v U'.heap L ∧ FrameEnd U o U' L 24 128) := by
  refine MetFree.of_bodySF (plainFor_of_name pn_0) hisR ?_
  intro p e s m args below meth c s₁ Bd hml0 hP hK
  obtain ⟨rfl, hZ, hh⟩ := hP
  have hx := Bd.exec
  have hby := Bd.bytes
  have hml : c.maxLocals = 30 := hml0
  have hown : s.vm.findClass "com/example/keelstone/keelstone/ledger/AccountAvailablePinLaw" = some m.cls := findClass_of_methodNamed Bd.named
  have hnm := (name_of_methodNamed Bd.named Bd.method).1
  have X0 : Stand p l e room_1 s m #[(.long q1), (.long q2), (.long q3), (.long q4), (.int p5)] below meth c s₁ [] 0 0 := Stand.of_body Bd
  have e0 : s₁.heap = h0 := by rw [← hh, Bd.state]; rfl
  have N0 := Fr.nil n0
  have pre0 : ∀ t, Steps p.tables e below (s₁.setTop (mkF m 0 #[.val (.long q1), .second, .val (.long q2), .second, .val (.long q3), .second, .val (.long q4), .second, .val (.int p5), .unset, .unset, .unset, .unset, .unset, .unset, .unset, .unset, .unset, .unset, .unset, .unset, .unset, .unset, .unset, .unset, .unset, .unset, .unset, .unset, .unset] [])) t → Steps p.tables e below (s₁.setTop (entryFrame m #[(.long q1), (.long q2), (.long q3), (.long q4), (.int p5)] maxLocals)) t := fun t k => castTop (ef_0 m q1 q2 q3 q4 p5) k
  obtain ⟨ch, hch⟩ : ∃ z, z = ((p5 &&& (255 : Int32)).toUInt32.toUInt16.toUInt32.toInt32) := ⟨_, rfl⟩
  have hp : ¬ ((255 : Int32) < ch) := by rw [hch]; exact own_low p5
  obtain ⟨_, _, ⟨T1, L1, k1, n1⟩, -, X1, ⟨Lc1, hQ1, l1, y1, z1⟩, st1⟩ := Jvm.LawKit.callS X0 hx (y := (⟨"java/lang/String", "valueOf", "(C)Ljava/lang/String;"⟩ : MethodName)) hown (mvT hZ (hw _ (List.mem_of_getElem? (i := 0) rfl))) (mvT hZ (hw _ (List.mem_of_getElem? (i := 1) rfl))) (mvT hZ (hw _ (List.mem_of_getElem? (i := 2) rfl))) (mvT hZ (hw _ (List.mem_of_getElem? (i := 3) rfl))) (by decide) (backOf (W := 0) (rm1 l Z a0 hw [] ch w h0 n0 Z0 S_w hwz hp) hZ (hw _ (List.mem_of_getElem? (i := 3) rfl)) (hw _ (List.mem_of_getElem? (i := 2) rfl)) (by decide) (by decide)) (g := (mkF m 7 #[.val (.long q1), .second, .val (.long q2), .second, .val (.long q3), .second, .val (.long q4), .second, .val (.int p5), .unset, .unset, .unset, .unset, .unset, .unset, .unset, .unset, .unset, .unset, .unset, .unset, .unset, .unset, .unset, .unset, .unset, .unset, .unset, .unset, .unset] [(.int ch)])) rfl (by rw [hml]; rfl) (argsL := [(.int ch)]) (rest := []) (lenOf pd_0_0 rfl) rfl (by show 2 * 0 + _ ≤ _; exact Nat.le_of_eq rfl) (hb hby at_7) (fun _ _ => ⟨rfl, e0, (by decide : 0 + 2 ≤ _), (by decide : 0 + 5 ≤ _)⟩)
  dsimp only [Pt.U, Pt.locs, Pt.cells, Pt.slots] at X1 l1 y1 z1 st1 hQ1
  subst l1 y1 z1
  obtain ⟨rfl, N1q, K1⟩ := hQ1
  have N1 := Fr.app N0 N1q
  obtain ⟨sid, gsid⟩ : ∃ z, z = h0.size := ⟨_, rfl⟩
  rw [← gsid] at st1
  obtain ⟨T10, h10, X10, e10, E10, A10, D10, -, st10⟩ := newO X1 hx hZ hown (hw _ (List.mem_of_getElem? (i := 26) rfl)) (hw _ (List.mem_of_getElem? (i := 27) rfl)) (hw _ (List.mem_of_getElem? (i := 28) rfl)) rfl (g := (mkF m 12 #[.val (.long q1), .second, .val (.long q2), .second, .val (.long q3), .second, .val (.long q4), .second, .val (.int p5), .val (.ref sid), .unset, .unset, .unset, .unset, .unset, .unset, .unset, .unset, .unset, .unset, .unset, .unset, .unset, .unset, .unset, .unset, .unset, .unset, .unset, .unset] [])) rfl (hb hby at_12) (by decide) (by decide)
  obtain ⟨b10, g10⟩ : ∃ z, z = T1.heap.size := ⟨_, rfl⟩
  rw [← g10] at A10 D10 st10
  have F10_id : Fld Z h10 b10 "com/example/keelstone/keelstone/ledger/Account" "id" "Ljava/lang/String;" .null := D10 (Or.inr (hw _ (List.mem_of_getElem? (i := 39) rfl))) (ty := (.object "java/lang/String")) (by decide)
  have F10_balance : Fld Z h10 b10 "com/example/keelstone/keelstone/ledger/Account" "balance" "J" (.long (0 : Int64)) := D10 (Or.inr (hw _ (List.mem_of_getElem? (i := 41) rfl))) (ty := .long) (by decide)
  have F10_system : Fld Z h10 b10 "com/example/keelstone/keelstone/ledger/Account" "system" "J" (.long (0 : Int64)) := D10 (Or.inr (hw _ (List.mem_of_getElem? (i := 43) rfl))) (ty := .long) (by decide)
  have F10_unreached : Fld Z h10 b10 "com/example/keelstone/keelstone/ledger/Account" "unreached" "J" (.long (0 : Int64)) := D10 (Or.inr (hw _ (List.mem_of_getElem? (i := 45) rfl))) (ty := .long) (by decide)
  have sz10 : h0.size ≤ b10 := Nat.le_trans K1.1 (Nat.le_of_eq g10.symm)
  have gg10 : n0 ≤ b10 := Nat.le_trans Z0 sz10
  have K10 : Keep h0 h10 [] := K1.ext E10
  obtain ⟨_, _, ⟨T11, L11, k11, n11⟩, -, X11, ⟨Lc11, hQ11, l11, y11, z11⟩, st11⟩ := X10.specialBack hx (y := (⟨"com/example/keelstone/keelstone/ledger/Account", "<init>", "(Ljava/lang/String;JJJ)V"⟩ : MethodName)) rfl hown (mvT hZ (hw _ (List.mem_of_getElem? (i := 29) rfl))) (mvT hZ (hw _ (List.mem_of_getElem? (i := 30) rfl))) (mvT hZ (hw _ (List.mem_of_getElem? (i := 31) rfl))) (by decide) (backOf (W := 1) (rm6 l Z a0 hw [] b10 sid q1 q2 q3 .null (.long (0 : Int64)) (.long (0 : Int64)) (.long (0 : Int64)) h10 n0 (Nat.le_trans Z0 K10.1) A10 F10_id gg10 F10_balance F10_system F10_unreached) hZ (hw _ (List.mem_of_getElem? (i := 31) rfl)) (hw _ (List.mem_of_getElem? (i := 28) rfl)) (by decide) (by decide)) (g := (mkF m 22 #[.val (.long q1), .second, .val (.long q2), .second, .val (.long q3), .second, .val (.long q4), .second, .val (.int p5), .val (.ref sid), .unset, .unset, .unset, .unset, .unset, .unset, .unset, .unset, .unset, .unset, .unset, .unset, .unset, .unset, .unset, .unset, .unset, .unset, .unset, .unset] [(.long q3), (.long q2), (.long q1), (.ref sid), (.ref b10), (.ref b10)])) rfl (by rw [hml]; rfl) (Steps.refl _) (a := b10) (argsL := [(.ref sid), (.long q1), (.long q2), (.long q3)]) (rest := [(.ref b10)]) (lenOf pd_0_1 rfl) rfl (by show 2 * 0 + _ ≤ _; exact Nat.le_of_eq rfl) (hb hby at_22) (fun _ _ => ⟨rfl, e10, (by decide : 3 + 0 ≤ _), (by decide : 9 + 0 ≤ _)⟩)
  dsimp only [Pt.U, Pt.locs, Pt.cells, Pt.slots] at X11 l11 y11 z11 st11 hQ11
  subst l11 y11 z11
  obtain ⟨rfl, N11q, K11c, E11, B11, S11, U11⟩ := hQ11
  have N11 := Fr.app N1 N11q
  have K11 : Keep h0 T11.heap [] := K10.trans K11c (allS (Or.inr sz10) all0)
  obtain ⟨T12, h12, X12, e12, E12, A12, D12, -, st12⟩ := newO X11 hx hZ hown (hw _ (List.mem_of_getElem? (i := 26) rfl)) (hw _ (List.mem_of_getElem? (i := 27) rfl)) (hw _ (List.mem_of_getElem? (i := 28) rfl)) rfl (g := (mkF m 27 #[.val (.long q1), .second, .val (.long q2), .second, .val (.long q3), .second, .val (.long q4), .second, .val (.int p5), .val (.ref sid), .val (.ref b10), .unset, .unset, .unset, .unset, .unset, .unset, .unset, .unset, .unset, .unset, .unset, .unset, .unset, .unset, .unset, .unset, .unset, .unset, .unset] [])) rfl (hb hby at_27) (by decide) (by decide)
  obtain ⟨b12, g12⟩ : ∃ z, z = T11.heap.size := ⟨_, rfl⟩
  rw [← g12] at A12 D12 st12
  have F12_id : Fld Z h12 b12 "com/example/keelstone/keelstone/ledger/Account" "id" "Ljava/lang/String;" .null := D12 (Or.inr (hw _ (List.mem_of_getElem? (i := 39) rfl))) (ty := (.object "java/lang/String")) (by decide)
  have F12_balance : Fld Z h12 b12 "com/example/keelstone/keelstone/ledger/Account" "balance" "J" (.long (0 : Int64)) := D12 (Or.inr (hw _ (List.mem_of_getElem? (i := 41) rfl))) (ty := .long) (by decide)
  have F12_system : Fld Z h12 b12 "com/example/keelstone/keelstone/ledger/Account" "system" "J" (.long (0 : Int64)) := D12 (Or.inr (hw _ (List.mem_of_getElem? (i := 43) rfl))) (ty := .long) (by decide)
  have F12_unreached : Fld Z h12 b12 "com/example/keelstone/keelstone/ledger/Account" "unreached" "J" (.long (0 : Int64)) := D12 (Or.inr (hw _ (List.mem_of_getElem? (i := 45) rfl))) (ty := .long) (by decide)
  have sz12 : h0.size ≤ b12 := Nat.le_trans K11.1 (Nat.le_of_eq g12.symm)
  have gg12 : n0 ≤ b12 := Nat.le_trans Z0 sz12
  have K12 : Keep h0 h12 [] := K11.ext E12
  have neb10_b12 : b10 ≠ b12 := fun q => absurd E11.lt (by rw [q, g12]; exact Nat.lt_irrefl _)
  obtain ⟨_, _, ⟨T13, L13, k13, n13⟩, -, X13, ⟨Lc13, hQ13, l13, y13, z13⟩, st13⟩ := X12.specialBack hx (y := (⟨"com/example/keelstone/keelstone/ledger/Account", "<init>", "(Ljava/lang/String;JJJ)V"⟩ : MethodName)) rfl hown (mvT hZ (hw _ (List.mem_of_getElem? (i := 29) rfl))) (mvT hZ (hw _ (List.mem_of_getElem? (i := 30) rfl))) (mvT hZ (hw _ (List.mem_of_getElem? (i := 31) rfl))) (by decide) (backOf (W := 1) (rm6 l Z a0 hw [] b12 sid q1 (0 : Int64) (0 : Int64) .null (.long (0 : Int64)) (.long (0 : Int64)) (.long (0 : Int64)) h12 n0 (Nat.le_trans Z0 K12.1) A12 F12_id gg12 F12_balance F12_system F12_unreached) hZ (hw _ (List.mem_of_getElem? (i := 31) rfl)) (hw _ (List.mem_of_getElem? (i := 28) rfl)) (by decide) (by decide)) (g := (mkF m 36 #[.val (.long q1), .second, .val (.long q2), .second, .val (.long q3), .second, .val (.long q4), .second, .val (.int p5), .val (.ref sid), .val (.ref b10), .unset, .unset, .unset, .unset, .unset, .unset, .unset, .unset, .unset, .unset, .unset, .unset, .unset, .unset, .unset, .unset, .unset, .unset, .unset] [(.long (0 : Int64)), (.long (0 : Int64)), (.long q1), (.ref sid), (.ref b12), (.ref b12)])) rfl (by rw [hml]; rfl) (Steps.refl _) (a := b12) (argsL := [(.ref sid), (.long q1), (.long (0 : Int64)), (.long (0 : Int64))]) (rest := [(.ref b12)]) (lenOf pd_0_1 rfl) rfl (by show 2 * 0 + _ ≤ _; exact Nat.le_of_eq rfl) (hb hby at_36) (fun _ _ => ⟨rfl, e12, (by decide : 4 + 0 ≤ _), (by decide : 13 + 0 ≤ _)⟩)
  dsimp only [Pt.U, Pt.locs, Pt.cells, Pt.slots] at X13 l13 y13 z13 st13 hQ13
  subst l13 y13 z13
  obtain ⟨rfl, N13q, K13c, E13, B13, S13, U13⟩ := hQ13
  have N13 := Fr.app N11 N13q
  have K13 : Keep h0 T13.heap [] := K12.trans K13c (allS (Or.inr sz12) all0)
  have E_b10_13 := (E11.ext E12).keep K13c
  have B_b10_13 := (B11.ext E12).keep K13c (ninS neb10_b12 nin0)
  have S_b10_13 := (S11.ext E12).keep K13c (ninS neb10_b12 nin0)
  have U_b10_13 := (U11.ext E12).keep K13c (ninS neb10_b12 nin0)
  obtain ⟨T14, h14, X14, e14, E14, A14, D14, -, st14⟩ := newO X13 hx hZ hown (hw _ (List.mem_of_getElem? (i := 26) rfl)) (hw _ (List.mem_of_getElem? (i := 27) rfl)) (hw _ (List.mem_of_getElem? (i := 28) rfl)) rfl (g := (mkF m 41 #[.val (.long q1), .second, .val (.long q2), .second, .val (.long q3), .second, .val (.long q4), .second, .val (.int p5), .val (.ref sid), .val (.ref b10), .val (.ref b12), .unset, .unset, .unset, .unset, .unset, .unset, .unset, .unset, .unset, .unset, .unset, .unset, .unset, .unset, .unset, .unset, .unset, .unset] [])) rfl (hb hby at_41) (by decide) (by decide)
  obtain ⟨b14, g14⟩ : ∃ z, z = T13.heap.size := ⟨_, rfl⟩
  rw [← g14] at A14 D14 st14
  have F14_id : Fld Z h14 b14 "com/example/keelstone/keelstone/ledger/Account" "id" "Ljava/lang/String;" .null := D14 (Or.inr (hw _ (List.mem_of_getElem? (i := 39) rfl))) (ty := (.object "java/lang/String")) (by decide)
  have F14_balance : Fld Z h14 b14 "com/example/keelstone/keelstone/ledger/Account" "balance" "J" (.long (0 : Int64)) := D14 (Or.inr (hw _ (List.mem_of_getElem? (i := 41) rfl))) (ty := .long) (by decide)
  have F14_system : Fld Z h14 b14 "com/example/keelstone/keelstone/ledger/Account" "system" "J" (.long (0 : Int64)) := D14 (Or.inr (hw _ (List.mem_of_getElem? (i := 43) rfl))) (ty := .long) (by decide)
  have F14_unreached : Fld Z h14 b14 "com/example/keelstone/keelstone/ledger/Account" "unreached" "J" (.long (0 : Int64)) := D14 (Or.inr (hw _ (List.mem_of_getElem? (i := 45) rfl))) (ty := .long) (by decide)
  have sz14 : h0.size ≤ b14 := Nat.le_trans K13.1 (Nat.le_of_eq g14.symm)
  have gg14 : n0 ≤ b14 := Nat.le_trans Z0 sz14
  have K14 : Keep h0 h14 [] := K13.ext E14
  have neb10_b14 : b10 ≠ b14 := fun q => absurd E_b10_13.lt (by rw [q, g14]; exact Nat.lt_irrefl _)
  have neb12_b14 : b12 ≠ b14 := fun q => absurd E13.lt (by rw [q, g14]; exact Nat.lt_irrefl _)
  obtain ⟨_, _, ⟨T15, L15, k15, n15⟩, -, X15, ⟨Lc15, hQ15, l15, y15, z15⟩, st15⟩ := X14.specialBack hx (y := (⟨"com/example/keelstone/keelstone/ledger/Account", "<init>", "(Ljava/lang/String;JJJ)V"⟩ : MethodName)) rfl hown (mvT hZ (hw _ (List.mem_of_getElem? (i := 29) rfl))) (mvT hZ (hw _ (List.mem_of_getElem? (i := 30) rfl))) (mvT hZ (hw _ (List.mem_of_getElem? (i := 31) rfl))) (by decide) (backOf (W := 1) (rm6 l Z a0 hw [] b14 sid (0 : Int64) q2 (0 : Int64) .null (.long (0 : Int64)) (.long (0 : Int64)) (.long (0 : Int64)) h14 n0 (Nat.le_trans Z0 K14.1) A14 F14_id gg14 F14_balance F14_system F14_unreached) hZ (hw _ (List.mem_of_getElem? (i := 31) rfl)) (hw _ (List.mem_of_getElem? (i := 28) rfl)) (by decide) (by decide)) (g := (mkF m 50 #[.val (.long q1), .second, .val (.long q2), .second, .val (.long q3), .second, .val (.long q4), .second, .val (.int p5), .val (.ref sid), .val (.ref b10), .val (.ref b12), .unset, .unset, .unset, .unset, .unset, .unset, .unset, .unset, .unset, .unset, .unset, .unset, .unset, .unset, .unset, .unset, .unset, .unset] [(.long (0 : Int64)), (.long q2), (.long (0 : Int64)), (.ref sid), (.ref b14), (.ref b14)])) rfl (by rw [hml]; rfl) (Steps.refl _) (a := b14) (argsL := [(.ref sid), (.long (0 : Int64)), (.long q2), (.long (0 : Int64))]) (rest := [(.ref b14)]) (lenOf pd_0_1 rfl) rfl (by show 2 * 0 + _ ≤ _; exact Nat.le_of_eq rfl) (hb hby at_50) (fun _ _ => ⟨rfl, e14, (by decide : 5 + 0 ≤ _), (by decide : 17 + 0 ≤ _)⟩)
  dsimp only [Pt.U, Pt.locs, Pt.cells, Pt.slots] at X15 l15 y15 z15 st15 hQ15
  subst l15 y15 z15
  obtain ⟨rfl, N15q, K15c, E15, B15, S15, U15⟩ := hQ15
  have N15 := Fr.app N13 N15q
  have K15 : Keep h0 T15.heap [] := K14.trans K15c (allS (Or.inr sz14) all0)
  have E_b10_15 := (E_b10_13.ext E14).keep K15c
  have B_b10_15 := (B_b10_13.ext E14).keep K15c (ninS neb10_b14 nin0)
  have S_b10_15 := (S_b10_13.ext E14).keep K15c (ninS neb10_b14 nin0)
  have U_b10_15 := (U_b10_13.ext E14).keep K15c (ninS neb10_b14 nin0)
  have E_b12_15 := (E13.ext E14).keep K15c
  have B_b12_15 := (B13.ext E14).keep K15c (ninS neb12_b14 nin0)
  have S_b12_15 := (S13.ext E14).keep K15c (ninS neb12_b14 nin0)
  have U_b12_15 := (U13.ext E14).keep K15c (ninS neb12_b14 nin0)
  obtain ⟨T16, h16, X16, e16, E16, A16, D16, -, st16⟩ := newO X15 hx hZ hown (hw _ (List.mem_of_getElem? (i := 26) rfl)) (hw _ (List.mem_of_getElem? (i := 27) rfl)) (hw _ (List.mem_of_getElem? (i := 28) rfl)) rfl (g := (mkF m 55 #[.val (.long q1), .second, .val (.long q2), .second, .val (.long q3), .second, .val (.long q4), .second, .val (.int p5), .val (.ref sid), .val (.ref b10), .val (.ref b12), .val (.ref b14), .unset, .unset, .unset, .unset, .unset, .unset, .unset, .unset, .unset, .unset, .unset, .unset, .unset, .unset, .unset, .unset, .unset] [])) rfl (hb hby at_55) (by decide) (by decide)
  obtain ⟨b16, g16⟩ : ∃ z, z = T15.heap.size := ⟨_, rfl⟩
  rw [← g16] at A16 D16 st16
  have F16_id : Fld Z h16 b16 "com/example/keelstone/keelstone/ledger/Account" "id" "Ljava/lang/String;" .null := D16 (Or.inr (hw _ (List.mem_of_getElem? (i := 39) rfl))) (ty := (.object "java/lang/String")) (by decide)
  have F16_balance : Fld Z h16 b16 "com/example/keelstone/keelstone/ledger/Account" "balance" "J" (.long (0 : Int64)) := D16 (Or.inr (hw _ (List.mem_of_getElem? (i := 41) rfl))) (ty := .long) (by decide)
  have F16_system : Fld Z h16 b16 "com/example/keelstone/keelstone/ledger/Account" "system" "J" (.long (0 : Int64)) := D16 (Or.inr (hw _ (List.mem_of_getElem? (i := 43) rfl))) (ty := .long) (by decide)
  have F16_unreached : Fld Z h16 b16 "com/example/keelstone/keelstone/ledger/Account" "unreached" "J" (.long (0 : Int64)) := D16 (Or.inr (hw _ (List.mem_of_getElem? (i := 45) rfl))) (ty := .long) (by decide)
  have sz16 : h0.size ≤ b16 := Nat.le_trans K15.1 (Nat.le_of_eq g16.symm)
  have gg16 : n0 ≤ b16 := Nat.le_trans Z0 sz16
  have K16 : Keep h0 h16 [] := K15.ext E16
  have neb10_b16 : b10 ≠ b16 := fun q => absurd E_b10_15.lt (by rw [q, g16]; exact Nat.lt_irrefl _)
  have neb12_b16 : b12 ≠ b16 := fun q => absurd E_b12_15.lt (by rw [q, g16]; exact Nat.lt_irrefl _)
  have neb14_b16 : b14 ≠ b16 := fun q => absurd E15.lt (by rw [q, g16]; exact Nat.lt_irrefl _)
  obtain ⟨_, _, ⟨T17, L17, k17, n17⟩, -, X17, ⟨Lc17, hQ17, l17, y17, z17⟩, st17⟩ := X16.specialBack hx (y := (⟨"com/example/keelstone/keelstone/ledger/Account", "<init>", "(Ljava/lang/String;JJJ)V"⟩ : MethodName)) rfl hown (mvT hZ (hw _ (List.mem_of_getElem? (i := 29) rfl))) (mvT hZ (hw _ (List.mem_of_getElem? (i := 30) rfl))) (mvT hZ (hw _ (List.mem_of_getElem? (i := 31) rfl))) (by decide) (backOf (W := 1) (rm6 l Z a0 hw [] b16 sid (0 : Int64) (0 : Int64) q3 .null (.long (0 : Int64)) (.long (0 : Int64)) (.long (0 : Int64)) h16 n0 (Nat.le_trans Z0 K16.1) A16 F16_id gg16 F16_balance F16_system F16_unreached) hZ (hw _ (List.mem_of_getElem? (i := 31) rfl)) (hw _ (List.mem_of_getElem? (i := 28) rfl)) (by decide) (by decide)) (g := (mkF m 65 #[.val (.long q1), .second, .val (.long q2), .second, .val (.long q3), .second, .val (.long q4), .second, .val (.int p5), .val (.ref sid), .val (.ref b10), .val (.ref b12), .val (.ref b14), .unset, .unset, .unset, .unset, .unset, .unset, .unset, .unset, .unset, .unset, .unset, .unset, .unset, .unset, .unset, .unset, .unset] [(.long q3), (.long (0 : Int64)), (.long (0 : Int64)), (.ref sid), (.ref b16), (.ref b16)])) rfl (by rw [hml]; rfl) (Steps.refl _) (a := b16) (argsL := [(.ref sid), (.long (0 : Int64)), (.long (0 : Int64)), (.long q3)]) (rest := [(.ref b16)]) (lenOf pd_0_1 rfl) rfl (by show 2 * 0 + _ ≤ _; exact Nat.le_of_eq rfl) (hb hby at_65) (fun _ _ => ⟨rfl, e16, (by decide : 6 + 0 ≤ _), (by decide : 21 + 0 ≤ _)⟩)
  dsimp only [Pt.U, Pt.locs, Pt.cells, Pt.slots] at X17 l17 y17 z17 st17 hQ17
  subst l17 y17 z17
  obtain ⟨rfl, N17q, K17c, E17, B17, S17, U17⟩ := hQ17
  have N17 := Fr.app N15 N17q
  have K17 : Keep h0 T17.heap [] := K16.trans K17c (allS (Or.inr sz16) all0)
  have E_b10_17 := (E_b10_15.ext E16).keep K17c
  have B_b10_17 := (B_b10_15.ext E16).keep K17c (ninS neb10_b16 nin0)
  have S_b10_17 := (S_b10_15.ext E16).keep K17c (ninS neb10_b16 nin0)
  have U_b10_17 := (U_b10_15.ext E16).keep K17c (ninS neb10_b16 nin0)
  have E_b12_17 := (E_b12_15.ext E16).keep K17c
  have B_b12_17 := (B_b12_15.ext E16).keep K17c (ninS neb12_b16 nin0)
  have S_b12_17 := (S_b12_15.ext E16).keep K17c (ninS neb12_b16 nin0)
  have U_b12_17 := (U_b12_15.ext E16).keep K17c (ninS neb12_b16 nin0)
  have E_b14_17 := (E15.ext E16).keep K17c
  have B_b14_17 := (B15.ext E16).keep K17c (ninS neb14_b16 nin0)
  have S_b14_17 := (S15.ext E16).keep K17c (ninS neb14_b16 nin0)
  have U_b14_17 := (U15.ext E16).keep K17c (ninS neb14_b16 nin0)
  obtain ⟨T18, h18, X18, e18, E18, A18, D18, -, st18⟩ := newO X17 hx hZ hown (hw _ (List.mem_of_getElem? (i := 26) rfl)) (hw _ (List.mem_of_getElem? (i := 27) rfl)) (hw _ (List.mem_of_getElem? (i := 28) rfl)) rfl (g := (mkF m 70 #[.val (.long q1), .second, .val (.long q2), .second, .val (.long q3), .second, .val (.long q4), .second, .val (.int p5), .val (.ref sid), .val (.ref b10), .val (.ref b12), .val (.ref b14), .val (.ref b16), .unset, .unset, .unset, .unset, .unset, .unset, .unset, .unset, .unset, .unset, .unset, .unset, .unset, .unset, .unset, .unset] [])) rfl (hb hby at_70) (by decide) (by decide)
  obtain ⟨b18, g18⟩ : ∃ z, z = T17.heap.size := ⟨_, rfl⟩
  rw [← g18] at A18 D18 st18
  have F18_id : Fld Z h18 b18 "com/example/keelstone/keelstone/ledger/Account" "id" "Ljava/lang/String;" .null := D18 (Or.inr (hw _ (List.mem_of_getElem? (i := 39) rfl))) (ty := (.object "java/lang/String")) (by decide)
  have F18_balance : Fld Z h18 b18 "com/example/keelstone/keelstone/ledger/Account" "balance" "J" (.long (0 : Int64)) := D18 (Or.inr (hw _ (List.mem_of_getElem? (i := 41) rfl))) (ty := .long) (by decide)
  have F18_system : Fld Z h18 b18 "com/example/keelstone/keelstone/ledger/Account" "system" "J" (.long (0 : Int64)) := D18 (Or.inr (hw _ (List.mem_of_getElem? (i := 43) rfl))) (ty := .long) (by decide)
  have F18_unreached : Fld Z h18 b18 "com/example/keelstone/keelstone/ledger/Account" "unreached" "J" (.long (0 : Int64)) := D18 (Or.inr (hw _ (List.mem_of_getElem? (i := 45) rfl))) (ty := .long) (by decide)
  have sz18 : h0.size ≤ b18 := Nat.le_trans K17.1 (Nat.le_of_eq g18.symm)
  have gg18 : n0 ≤ b18 := Nat.le_trans Z0 sz18
  have K18 : Keep h0 h18 [] := K17.ext E18
  have neb10_b18 : b10 ≠ b18 := fun q => absurd E_b10_17.lt (by rw [q, g18]; exact Nat.lt_irrefl _)
  have neb12_b18 : b12 ≠ b18 := fun q => absurd E_b12_17.lt (by rw [q, g18]; exact Nat.lt_irrefl _)
  have neb14_b18 : b14 ≠ b18 := fun q => absurd E_b14_17.lt (by rw [q, g18]; exact Nat.lt_irrefl _)
  have neb16_b18 : b16 ≠ b18 := fun q => absurd E17.lt (by rw [q, g18]; exact Nat.lt_irrefl _)
  obtain ⟨_, _, ⟨T19, L19, k19, n19⟩, -, X19, ⟨Lc19, hQ19, l19, y19, z19⟩, st19⟩ := X18.specialBack hx (y := (⟨"com/example/keelstone/keelstone/ledger/Account", "<init>", "(Ljava/lang/String;JJJ)V"⟩ : MethodName)) rfl hown (mvT hZ (hw _ (List.mem_of_getElem? (i := 29) rfl))) (mvT hZ (hw _ (List.mem_of_getElem? (i := 30) rfl))) (mvT hZ (hw _ (List.mem_of_getElem? (i := 31) rfl))) (by decide) (backOf (W := 1) (rm6 l Z a0 hw [] b18 sid (q1 + q4) (q2 + q4) q3 .null (.long (0 : Int64)) (.long (0 : Int64)) (.long (0 : Int64)) h18 n0 (Nat.le_trans Z0 K18.1) A18 F18_id gg18 F18_balance F18_system F18_unreached) hZ (hw _ (List.mem_of_getElem? (i := 31) rfl)) (hw _ (List.mem_of_getElem? (i := 28) rfl)) (by decide) (by decide)) (g := (mkF m 86 #[.val (.long q1), .second, .val (.long q2), .second, .val (.long q3), .second, .val (.long q4), .second, .val (.int p5), .val (.ref sid), .val (.ref b10), .val (.ref b12), .val (.ref b14), .val (.ref b16), .unset, .unset, .unset, .unset, .unset, .unset, .unset, .unset, .unset, .unset, .unset, .unset, .unset, .unset, .unset, .unset] [(.long q3), (.long (q2 + q4)), (.long (q1 + q4)), (.ref sid), (.ref b18), (.ref b18)])) rfl (by rw [hml]; rfl) (Steps.refl _) (a := b18) (argsL := [(.ref sid), (.long (q1 + q4)), (.long (q2 + q4)), (.long q3)]) (rest := [(.ref b18)]) (lenOf pd_0_1 rfl) rfl (by show 2 * 0 + _ ≤ _; exact Nat.le_of_eq rfl) (hb hby at_86) (fun _ _ => ⟨rfl, e18, (by decide : 7 + 0 ≤ _), (by decide : 25 + 0 ≤ _)⟩)
  dsimp only [Pt.U, Pt.locs, Pt.cells, Pt.slots] at X19 l19 y19 z19 st19 hQ19
  subst l19 y19 z19
  obtain ⟨rfl, N19q, K19c, E19, B19, S19, U19⟩ := hQ19
  have N19 := Fr.app N17 N19q
  have K19 : Keep h0 T19.heap [] := K18.trans K19c (allS (Or.inr sz18) all0)
  have E_b10_19 := (E_b10_17.ext E18).keep K19c
  have B_b10_19 := (B_b10_17.ext E18).keep K19c (ninS neb10_b18 nin0)
  have S_b10_19 := (S_b10_17.ext E18).keep K19c (ninS neb10_b18 nin0)
  have U_b10_19 := (U_b10_17.ext E18).keep K19c (ninS neb10_b18 nin0)
  have E_b12_19 := (E_b12_17.ext E18).keep K19c
  have B_b12_19 := (B_b12_17.ext E18).keep K19c (ninS neb12_b18 nin0)
  have S_b12_19 := (S_b12_17.ext E18).keep K19c (ninS neb12_b18 nin0)
  have U_b12_19 := (U_b12_17.ext E18).keep K19c (ninS neb12_b18 nin0)
  have E_b14_19 := (E_b14_17.ext E18).keep K19c
  have B_b14_19 := (B_b14_17.ext E18).keep K19c (ninS neb14_b18 nin0)
  have S_b14_19 := (S_b14_17.ext E18).keep K19c (ninS neb14_b18 nin0)
  have U_b14_19 := (U_b14_17.ext E18).keep K19c (ninS neb14_b18 nin0)
  have E_b16_19 := (E17.ext E18).keep K19c
  have B_b16_19 := (B17.ext E18).keep K19c (ninS neb16_b18 nin0)
  have S_b16_19 := (S17.ext E18).keep K19c (ninS neb16_b18 nin0)
  have U_b16_19 := (U17.ext E18).keep K19c (ninS neb16_b18 nin0)
  have ZH : n0 ≤ T19.heap.size := Nat.le_trans Z0 K19.1
  obtain ⟨cq30, kq30, qa30, qb30, qc30⟩ := isOf hZ (rfl : T19.heap = T19.heap) E_b10_19
  obtain ⟨_, _, ⟨T30, L30, k30, n30⟩, -, X30, ⟨Lc30, hQ30, l30, y30, z30⟩, st30⟩ := X19.virtualBack hx (y := (⟨"com/example/keelstone/keelstone/ledger/Account", "available", "()J"⟩ : MethodName)) (z := (⟨"com/example/keelstone/keelstone/ledger/Account", "available", "()J"⟩ : MethodName)) hown (mvT hZ (hw _ (List.mem_of_getElem? (i := 46) rfl))) (mvT hZ (hw _ (List.mem_of_getElem? (i := 47) rfl))) (notFace_of_selects (args := #[]) (mvT hZ (hw _ (List.mem_of_getElem? (i := 49) rfl)))) (mvT hZ (hw _ (List.mem_of_getElem? (i := 49) rfl))) (mvT hZ (hw _ (List.mem_of_getElem? (i := 48) rfl))) (by decide) (backOf (W := 0) (rm8 l Z a0 hw [] b10 q1 q2 q3 T19.heap n0 ZH B_b10_19 S_b10_19 U_b10_19) hZ (hw _ (List.mem_of_getElem? (i := 50) rfl)) (hw _ (List.mem_of_getElem? (i := 28) rfl)) (by decide) (by decide)) qa30 qc30 (g := (mkF m 93 #[.val (.long q1), .second, .val (.long q2), .second, .val (.long q3), .second, .val (.long q4), .second, .val (.int p5), .val (.ref sid), .val (.ref b10), .val (.ref b12), .val (.ref b14), .val (.ref b16), .val (.ref b18), .unset, .unset, .unset, .unset, .unset, .unset, .unset, .unset, .unset, .unset, .unset, .unset, .unset, .unset, .unset] [(.ref b10)])) rfl (by rw [hml]; rfl) (Steps.refl _) (argsL := []) (rest := []) (lenOf pd_0_2 rfl) rfl (by show 2 * 0 + _ ≤ _; exact Nat.le_of_eq rfl) (hb hby at_93) (fun _ _ => ⟨rfl, (rfl : T19.heap = T19.heap), (by decide : 7 + 0 ≤ _), (by decide : 25 + 0 ≤ _)⟩)
  dsimp only [Pt.U, Pt.locs, Pt.cells, Pt.slots] at X30 l30 y30 z30 st30 hQ30
  subst l30 y30 z30
  obtain ⟨rfl, N30q, q30⟩ := hQ30
  have N30 := Fr.app N19 N30q
  obtain ⟨cq31, kq31, qa31, qb31, qc31⟩ := isOf hZ q30 E_b12_19
  obtain ⟨_, _, ⟨T31, L31, k31, n31⟩, -, X31, ⟨Lc31, hQ31, l31, y31, z31⟩, st31⟩ := X30.virtualBack hx (y := (⟨"com/example/keelstone/keelstone/ledger/Account", "available", "()J"⟩ : MethodName)) (z := (⟨"com/example/keelstone/keelstone/ledger/Account", "available", "()J"⟩ : MethodName)) hown (mvT hZ (hw _ (List.mem_of_getElem? (i := 46) rfl))) (mvT hZ (hw _ (List.mem_of_getElem? (i := 47) rfl))) (notFace_of_selects (args := #[]) (mvT hZ (hw _ (List.mem_of_getElem? (i := 49) rfl)))) (mvT hZ (hw _ (List.mem_of_getElem? (i := 49) rfl))) (mvT hZ (hw _ (List.mem_of_getElem? (i := 48) rfl))) (by decide) (backOf (W := 0) (rm8 l Z a0 hw [] b12 q1 (0 : Int64) (0 : Int64) T19.heap n0 ZH B_b12_19 S_b12_19 U_b12_19) hZ (hw _ (List.mem_of_getElem? (i := 50) rfl)) (hw _ (List.mem_of_getElem? (i := 28) rfl)) (by decide) (by decide)) qa31 qc31 (g := (mkF m 100 #[.val (.long q1), .second, .val (.long q2), .second, .val (.long q3), .second, .val (.long q4), .second, .val (.int p5), .val (.ref sid), .val (.ref b10), .val (.ref b12), .val (.ref b14), .val (.ref b16), .val (.ref b18), .val (.long ((q1 - q2) + q3)), .second, .unset, .unset, .unset, .unset, .unset, .unset, .unset, .unset, .unset, .unset, .unset, .unset, .unset] [(.ref b12)])) rfl (by rw [hml]; rfl) (Steps.refl _) (argsL := []) (rest := []) (lenOf pd_0_2 rfl) rfl (by show 2 * 0 + _ ≤ _; exact Nat.le_of_eq rfl) (hb hby at_100) (fun _ _ => ⟨rfl, q30, (by decide : 7 + 0 ≤ _), (by decide : 25 + 0 ≤ _)⟩)
  dsimp only [Pt.U, Pt.locs, Pt.cells, Pt.slots] at X31 l31 y31 z31 st31 hQ31
  subst l31 y31 z31
  obtain ⟨rfl, N31q, q31⟩ := hQ31
  have N31 := Fr.app N30 N31q
  obtain ⟨cq32, kq32, qa32, qb32, qc32⟩ := isOf hZ q31 E_b14_19
  obtain ⟨_, _, ⟨T32, L32, k32, n32⟩, -, X32, ⟨Lc32, hQ32, l32, y32, z32⟩, st32⟩ := X31.virtualBack hx (y := (⟨"com/example/keelstone/keelstone/ledger/Account", "available", "()J"⟩ : MethodName)) (z := (⟨"com/example/keelstone/keelstone/ledger/Account", "available", "()J"⟩ : MethodName)) hown (mvT hZ (hw _ (List.mem_of_getElem? (i := 46) rfl))) (mvT hZ (hw _ (List.mem_of_getElem? (i := 47) rfl))) (notFace_of_selects (args := #[]) (mvT hZ (hw _ (List.mem_of_getElem? (i := 49) rfl)))) (mvT hZ (hw _ (List.mem_of_getElem? (i := 49) rfl))) (mvT hZ (hw _ (List.mem_of_getElem? (i := 48) rfl))) (by decide) (backOf (W := 0) (rm8 l Z a0 hw [] b14 (0 : Int64) q2 (0 : Int64) T19.heap n0 ZH B_b14_19 S_b14_19 U_b14_19) hZ (hw _ (List.mem_of_getElem? (i := 50) rfl)) (hw _ (List.mem_of_getElem? (i := 28) rfl)) (by decide) (by decide)) qa32 qc32 (g := (mkF m 107 #[.val (.long q1), .second, .val (.long q2), .second, .val (.long q3), .second, .val (.long q4), .second, .val (.int p5), .val (.ref sid), .val (.ref b10), .val (.ref b12), .val (.ref b14), .val (.ref b16), .val (.ref b18), .val (.long ((q1 - q2) + q3)), .second, .val (.long ((q1 - (0 : Int64)) + (0 : Int64))), .second, .unset, .unset, .unset, .unset, .unset, .unset, .unset, .unset, .unset, .unset, .unset] [(.ref b14)])) rfl (by rw [hml]; rfl) (Steps.refl _) (argsL := []) (rest := []) (lenOf pd_0_2 rfl) rfl (by show 2 * 0 + _ ≤ _; exact Nat.le_of_eq rfl) (hb hby at_107) (fun _ _ => ⟨rfl, q31, (by decide : 7 + 0 ≤ _), (by decide : 25 + 0 ≤ _)⟩)
  dsimp only [Pt.U, Pt.locs, Pt.cells, Pt.slots] at X32 l32 y32 z32 st32 hQ32
  subst l32 y32 z32
  obtain ⟨rfl, N32q, q32⟩ := hQ32
  have N32 := Fr.app N31 N32q
  obtain ⟨cq33, kq33, qa33, qb33, qc33⟩ := isOf hZ q32 E_b16_19
  obtain ⟨_, _, ⟨T33, L33, k33, n33⟩, -, X33, ⟨Lc33, hQ33, l33, y33, z33⟩, st33⟩ := X32.virtualBack hx (y := (⟨"com/example/keelstone/keelstone/ledger/Account", "available", "()J"⟩ : MethodName)) (z := (⟨"com/example/keelstone/keelstone/ledger/Account", "available", "()J"⟩ : MethodName)) hown (mvT hZ (hw _ (List.mem_of_getElem? (i := 46) rfl))) (mvT hZ (hw _ (List.mem_of_getElem? (i := 47) rfl))) (notFace_of_selects (args := #[]) (mvT hZ (hw _ (List.mem_of_getElem? (i := 49) rfl)))) (mvT hZ (hw _ (List.mem_of_getElem? (i := 49) rfl))) (mvT hZ (hw _ (List.mem_of_getElem? (i := 48) rfl))) (by decide) (backOf (W := 0) (rm8 l Z a0 hw [] b16 (0 : Int64) (0 : Int64) q3 T19.heap n0 ZH B_b16_19 S_b16_19 U_b16_19) hZ (hw _ (List.mem_of_getElem? (i := 50) rfl)) (hw _ (List.mem_of_getElem? (i := 28) rfl)) (by decide) (by decide)) qa33 qc33 (g := (mkF m 114 #[.val (.long q1), .second, .val (.long q2), .second, .val (.long q3), .second, .val (.long q4), .second, .val (.int p5), .val (.ref sid), .val (.ref b10), .val (.ref b12), .val (.ref b14), .val (.ref b16), .val (.ref b18), .val (.long ((q1 - q2) + q3)), .second, .val (.long ((q1 - (0 : Int64)) + (0 : Int64))), .second, .val (.long (((0 : Int64) - q2) + (0 : Int64))), .second, .unset, .unset, .unset, .unset, .unset, .unset, .unset, .unset, .unset] [(.ref b16)])) rfl (by rw [hml]; rfl) (Steps.refl _) (argsL := []) (rest := []) (lenOf pd_0_2 rfl) rfl (by show 2 * 0 + _ ≤ _; exact Nat.le_of_eq rfl) (hb hby at_114) (fun _ _ => ⟨rfl, q32, (by decide : 7 + 0 ≤ _), (by decide : 25 + 0 ≤ _)⟩)
  dsimp only [Pt.U, Pt.locs, Pt.cells, Pt.slots] at X33 l33 y33 z33 st33 hQ33
  subst l33 y33 z33
  obtain ⟨rfl, N33q, q33⟩ := hQ33
  have N33 := Fr.app N32 N33q
  obtain ⟨cq34, kq34, qa34, qb34, qc34⟩ := isOf hZ q33 E19
  obtain ⟨_, _, ⟨T34, L34, k34, n34⟩, -, X34, ⟨Lc34, hQ34, l34, y34, z34⟩, st34⟩ := X33.virtualBack hx (y := (⟨"com/example/keelstone/keelstone/ledger/Account", "available", "()J"⟩ : MethodName)) (z := (⟨"com/example/keelstone/keelstone/ledger/Account", "available", "()J"⟩ : MethodName)) hown (mvT hZ (hw _ (List.mem_of_getElem? (i := 46) rfl))) (mvT hZ (hw _ (List.mem_of_getElem? (i := 47) rfl))) (notFace_of_selects (args := #[]) (mvT hZ (hw _ (List.mem_of_getElem? (i := 49) rfl)))) (mvT hZ (hw _ (List.mem_of_getElem? (i := 49) rfl))) (mvT hZ (hw _ (List.mem_of_getElem? (i := 48) rfl))) (by decide) (backOf (W := 0) (rm8 l Z a0 hw [] b18 (q1 + q4) (q2 + q4) q3 T19.heap n0 ZH B19 S19 U19) hZ (hw _ (List.mem_of_getElem? (i := 50) rfl)) (hw _ (List.mem_of_getElem? (i := 28) rfl)) (by decide) (by decide)) qa34 qc34 (g := (mkF m 121 #[.val (.long q1), .second, .val (.long q2), .second, .val (.long q3), .second, .val (.long q4), .second, .val (.int p5), .val (.ref sid), .val (.ref b10), .val (.ref b12), .val (.ref b14), .val (.ref b16), .val (.ref b18), .val (.long ((q1 - q2) + q3)), .second, .val (.long ((q1 - (0 : Int64)) + (0 : Int64))), .second, .val (.long (((0 : Int64) - q2) + (0 : Int64))), .second, .val (.long (((0 : Int64) - (0 : Int64)) + q3)), .second, .unset, .unset, .unset, .unset, .unset, .unset, .unset] [(.ref b18)])) rfl (by rw [hml]; rfl) (Steps.refl _) (argsL := []) (rest := []) (lenOf pd_0_2 rfl) rfl (by show 2 * 0 + _ ≤ _; exact Nat.le_of_eq rfl) (hb hby at_121) (fun _ _ => ⟨rfl, q33, (by decide : 7 + 0 ≤ _), (by decide : 25 + 0 ≤ _)⟩)
  dsimp only [Pt.U, Pt.locs, Pt.cells, Pt.slots] at X34 l34 y34 z34 st34 hQ34
  subst l34 y34 z34
  obtain ⟨rfl, N34q, q34⟩ := hQ34
  have N34 := Fr.app N33 N34q
  obtain ⟨fs, hr, hrun, hended, hW, hsame⟩ := X34.leave (v := some (.int (1 : Int32))) (fun h => by rw [Bd.returns] at h; cases h)
  refine ⟨_, _, pre0 _ ?_, hrun, hended, _, _, rfl, ?_, ⟨_, rfl⟩, hW, hsame.mono (by decide) (by decide)⟩
  · show Steps p.tables e below (s₁.setTop (mkF m 0 #[.val (.long q1), .second, .val (.long q2), .second, .val (.long q3), .second, .val (.long q4), .second, .val (.int p5), .unset, .unset, .unset, .unset, .unset, .unset, .unset, .unset, .unset, .unset, .unset, .unset, .unset, .unset, .unset, .unset, .unset, .unset, .unset, .unset, .unset] [])) _
    refine XS.iload X0.here hx rfl (hb hby at_0) rfl ?_
    show Steps p.tables e below (s₁.setTop (mkF m 2 #[.val (.long q1), .second, .val (.long q2), .second, .val (.long q3), .second, .val (.long q4), .second, .val (.int p5), .unset, .unset, .unset, .unset, .unset, .unset, .unset, .unset, .unset, .unset, .unset, .unset, .unset, .unset, .unset, .unset, .unset, .unset, .unset, .unset, .unset] [(.int p5)])) _
    refine XS.sipush X0.here hx rfl (hb hby at_2) ?_
    show Steps p.tables e below (s₁.setTop (mkF m 5 #[.val (.long q1), .second, .val (.long q2), .second, .val (.long q3), .second, .val (.long q4), .second, .val (.int p5), .unset, .unset, .unset, .unset, .unset, .unset, .unset, .unset, .unset, .unset, .unset, .unset, .unset, .unset, .unset, .unset, .unset, .unset, .unset, .unset, .unset] [(.int (255 : Int32)), (.int p5)])) _
    refine XS.iand X0.here hx rfl (hb hby at_5) rfl ?_
    show Steps p.tables e below (s₁.setTop (mkF m 6 #[.val (.long q1), .second, .val (.long q2), .second, .val (.long q3), .second, .val (.long q4), .second, .val (.int p5), .unset, .unset, .unset, .unset, .unset, .unset, .unset, .unset, .unset, .unset, .unset, .unset, .unset, .unset, .unset, .unset, .unset, .unset, .unset, .unset, .unset] [(.int (p5 &&& (255 : Int32)))])) _
    refine XS.i2c X0.here hx rfl (hb hby at_6) rfl ?_
    show Steps p.tables e below (s₁.setTop (mkF m 7 #[.val (.long q1), .second, .val (.long q2), .second, .val (.long q3), .second, .val (.long q4), .second, .val (.int p5), .unset, .unset, .unset, .unset, .unset, .unset, .unset, .unset, .unset, .unset, .unset, .unset, .unset, .unset, .unset, .unset, .unset, .unset, .unset, .unset, .unset] [(.int ((p5 &&& (255 : Int32)).toUInt32.toUInt16.toUInt32.toInt32))])) _
    rw [← hch]
    show Steps p.tables e below (s₁.setTop (mkF m 7 #[.val (.long q1), .second, .val (.long q2), .second, .val (.long q3), .second, .val (.long q4), .second, .val (.int p5), .unset, .unset, .unset, .unset, .unset, .unset, .unset, .unset, .unset, .unset, .unset, .unset, .unset, .unset, .unset, .unset, .unset, .unset, .unset, .unset, .unset] [(.int ch)])) _
    refine st1 _ ?_
    show Steps p.tables e below (T1.setTop (mkF m 10 #[.val (.long q1), .second, .val (.long q2), .second, .val (.long q3), .second, .val (.long q4), .second, .val (.int p5), .unset, .unset, .unset, .unset, .unset, .unset, .unset, .unset, .unset, .unset, .unset, .unset, .unset, .unset, .unset, .unset, .unset, .unset, .unset, .unset, .unset] [(.ref sid)])) _
    refine XS.astore X1.here hx rfl (hb hby at_10) rfl rfl (l' := #[.val (.long q1), .second, .val (.long q2), .second, .val (.long q3), .second, .val (.long q4), .second, .val (.int p5), .val (.ref sid), .unset, .unset, .unset, .unset, .unset, .unset, .unset, .unset, .unset, .unset, .unset, .unset, .unset, .unset, .unset, .unset, .unset, .unset, .unset, .unset]) rfl ?_
    show Steps p.tables e below (T1.setTop (mkF m 12 #[.val (.long q1), .second, .val (.long q2), .second, .val (.long q3), .second, .val (.long q4), .second, .val (.int p5), .val (.ref sid), .unset, .unset, .unset, .unset, .unset, .unset, .unset, .unset, .unset, .unset, .unset, .unset, .unset, .unset, .unset, .unset, .unset, .unset, .unset, .unset] [])) _
    refine st10 _ ?_
    show Steps p.tables e below (T10.setTop (mkF m 15 #[.val (.long q1), .second, .val (.long q2), .second, .val (.long q3), .second, .val (.long q4), .second, .val (.int p5), .val (.ref sid), .unset, .unset, .unset, .unset, .unset, .unset, .unset, .unset, .unset, .unset, .unset, .unset, .unset, .unset, .unset, .unset, .unset, .unset, .unset, .unset] [(.ref b10)])) _
    refine XS.dup X10.here hx rfl (hb hby at_15) rfl rfl ?_
    show Steps p.tables e below (T10.setTop (mkF m 16 #[.val (.long q1), .second, .val (.long q2), .second, .val (.long q3), .second, .val (.long q4), .second, .val (.int p5), .val (.ref sid), .unset, .unset, .unset, .unset, .unset, .unset, .unset, .unset, .unset, .unset, .unset, .unset, .unset, .unset, .unset, .unset, .unset, .unset, .unset, .unset] [(.ref b10), (.ref b10)])) _
    refine XS.aload X10.here hx rfl (hb hby at_16) rfl rfl ?_
    show Steps p.tables e below (T10.setTop (mkF m 18 #[.val (.long q1), .second, .val (.long q2), .second, .val (.long q3), .second, .val (.long q4), .second, .val (.int p5), .val (.ref sid), .unset, .unset, .unset, .unset, .unset, .unset, .unset, .unset, .unset, .unset, .unset, .unset, .unset, .unset, .unset, .unset, .unset, .unset, .unset, .unset] [(.ref sid), (.ref b10), (.ref b10)])) _
    refine XS.lloadN X10.here hx rfl (hb hby at_18) rfl ?_
    show Steps p.tables e below (T10.setTop (mkF m 19 #[.val (.long q1), .second, .val (.long q2), .second, .val (.long q3), .second, .val (.long q4), .second, .val (.int p5), .val (.ref sid), .unset, .unset, .unset, .unset, .unset, .unset, .unset, .unset, .unset, .unset, .unset, .unset, .unset, .unset, .unset, .unset, .unset, .unset, .unset, .unset] [(.long q1), (.ref sid), (.ref b10), (.ref b10)])) _
    refine XS.lloadN X10.here hx rfl (hb hby at_19) rfl ?_
    show Steps p.tables e below (T10.setTop (mkF m 20 #[.val (.long q1), .second, .val (.long q2), .second, .val (.long q3), .second, .val (.long q4), .second, .val (.int p5), .val (.ref sid), .unset, .unset, .unset, .unset, .unset, .unset, .unset, .unset, .unset, .unset, .unset, .unset, .unset, .unset, .unset, .unset, .unset, .unset, .unset, .unset] [(.long q2), (.long q1), (.ref sid), (.ref b10), (.ref b10)])) _
    refine XS.lload X10.here hx rfl (hb hby at_20) rfl ?_
    show Steps p.tables e below (T10.setTop (mkF m 22 #[.val (.long q1), .second, .val (.long q2), .second, .val (.long q3), .second, .val (.long q4), .second, .val (.int p5), .val (.ref sid), .unset, .unset, .unset, .unset, .unset, .unset, .unset, .unset, .unset, .unset, .unset, .unset, .unset, .unset, .unset, .unset, .unset, .unset, .unset, .unset] [(.long q3), (.long q2), (.long q1), (.ref sid), (.ref b10), (.ref b10)])) _
    refine st11.trans ?_
    show Steps p.tables e below (T11.setTop (mkF m 25 #[.val (.long q1), .second, .val (.long q2), .second, .val (.long q3), .second, .val (.long q4), .second, .val (.int p5), .val (.ref sid), .unset, .unset, .unset, .unset, .unset, .unset, .unset, .unset, .unset, .unset, .unset, .unset, .unset, .unset, .unset, .unset, .unset, .unset, .unset, .unset] [(.ref b10)])) _
    refine XS.astore X11.here hx rfl (hb hby at_25) rfl rfl (l' := #[.val (.long q1), .second, .val (.long q2), .second, .val (.long q3), .second, .val (.long q4), .second, .val (.int p5), .val (.ref sid), .val (.ref b10), .unset, .unset, .unset, .unset, .unset, .unset, .unset, .unset, .unset, .unset, .unset, .unset, .unset, .unset, .unset, .unset, .unset, .unset, .unset]) rfl ?_
    show Steps p.tables e below (T11.setTop (mkF m 27 #[.val (.long q1), .second, .val (.long q2), .second, .val (.long q3), .second, .val (.long q4), .second, .val (.int p5), .val (.ref sid), .val (.ref b10), .unset, .unset, .unset, .unset, .unset, .unset, .unset, .unset, .unset, .unset, .unset, .unset, .unset, .unset, .unset, .unset, .unset, .unset, .unset] [])) _
    refine st12 _ ?_
    show Steps p.tables e below (T12.setTop (mkF m 30 #[.val (.long q1), .second, .val (.long q2), .second, .val (.long q3), .second, .val (.long q4), .second, .val (.int p5), .val (.ref sid), .val (.ref b10), .unset, .unset, .unset, .unset, .unset, .unset, .unset, .unset, .unset, .unset, .unset, .unset, .unset, .unset, .unset, .unset, .unset, .unset, .unset] [(.ref b12)])) _
    refine XS.dup X12.here hx rfl (hb hby at_30) rfl rfl ?_
    show Steps p.tables e below (T12.setTop (mkF m 31 #[.val (.long q1), .second, .val (.long q2), .second, .val (.long q3), .second, .val (.long q4), .second, .val (.int p5), .val (.ref sid), .val (.ref b10), .unset, .unset, .unset, .unset, .unset, .unset, .unset, .unset, .unset, .unset, .unset, .unset, .unset, .unset, .unset, .unset, .unset, .unset, .unset] [(.ref b12), (.ref b12)])) _
    refine XS.aload X12.here hx rfl (hb hby at_31) rfl rfl ?_
    show Steps p.tables e below (T12.setTop (mkF m 33 #[.val (.long q1), .second, .val (.long q2), .second, .val (.long q3), .second, .val (.long q4), .second, .val (.int p5), .val (.ref sid), .val (.ref b10), .unset, .unset, .unset, .unset, .unset, .unset, .unset, .unset, .unset, .unset, .unset, .unset, .unset, .unset, .unset, .unset, .unset, .unset, .unset] [(.ref sid), (.ref b12), (.ref b12)])) _
    refine XS.lloadN X12.here hx rfl (hb hby at_33) rfl ?_
    show Steps p.tables e below (T12.setTop (mkF m 34 #[.val (.long q1), .second, .val (.long q2), .second, .val (.long q3), .second, .val (.long q4), .second, .val (.int p5), .val (.ref sid), .val (.ref b10), .unset, .unset, .unset, .unset, .unset, .unset, .unset, .unset, .unset, .unset, .unset, .unset, .unset, .unset, .unset, .unset, .unset, .unset, .unset] [(.long q1), (.ref sid), (.ref b12), (.ref b12)])) _
    refine XS.lconst X12.here hx rfl (hb hby at_34) ?_
    show Steps p.tables e below (T12.setTop (mkF m 35 #[.val (.long q1), .second, .val (.long q2), .second, .val (.long q3), .second, .val (.long q4), .second, .val (.int p5), .val (.ref sid), .val (.ref b10), .unset, .unset, .unset, .unset, .unset, .unset, .unset, .unset, .unset, .unset, .unset, .unset, .unset, .unset, .unset, .unset, .unset, .unset, .unset] [(.long (0 : Int64)), (.long q1), (.ref sid), (.ref b12), (.ref b12)])) _
    refine XS.lconst X12.here hx rfl (hb hby at_35) ?_
    show Steps p.tables e below (T12.setTop (mkF m 36 #[.val (.long q1), .second, .val (.long q2), .second, .val (.long q3), .second, .val (.long q4), .second, .val (.int p5), .val (.ref sid), .val (.ref b10), .unset, .unset, .unset, .unset, .unset, .unset, .unset, .unset, .unset, .unset, .unset, .unset, .unset, .unset, .unset, .unset, .unset, .unset, .unset] [(.long (0 : Int64)), (.long (0 : Int64)), (.long q1), (.ref sid), (.ref b12), (.ref b12)])) _
    refine st13.trans ?_
    show Steps p.tables e below (T13.setTop (mkF m 39 #[.val (.long q1), .second, .val (.long q2), .second, .val (.long q3), .second, .val (.long q4), .second, .val (.int p5), .val (.ref sid), .val (.ref b10), .unset, .unset, .unset, .unset, .unset, .unset, .unset, .unset, .unset, .unset, .unset, .unset, .unset, .unset, .unset, .unset, .unset, .unset, .unset] [(.ref b12)])) _
    refine XS.astore X13.here hx rfl (hb hby at_39) rfl rfl (l' := #[.val (.long q1), .second, .val (.long q2), .second, .val (.long q3), .second, .val (.long q4), .second, .val (.int p5), .val (.ref sid), .val (.ref b10), .val (.ref b12), .unset, .unset, .unset, .unset, .unset, .unset, .unset, .unset, .unset, .unset, .unset, .unset, .unset, .unset, .unset, .unset, .unset, .unset]) rfl ?_
    show Steps p.tables e below (T13.setTop (mkF m 41 #[.val (.long q1), .second, .val (.long q2), .second, .val (.long q3), .second, .val (.long q4), .second, .val (.int p5), .val (.ref sid), .val (.ref b10), .val (.ref b12), .unset, .unset, .unset, .unset, .unset, .unset, .unset, .unset, .unset, .unset, .unset, .unset, .unset, .unset, .unset, .unset, .unset, .unset] [])) _
    refine st14 _ ?_
    show Steps p.tables e below (T14.setTop (mkF m 44 #[.val (.long q1), .second, .val (.long q2), .second, .val (.long q3), .second, .val (.long q4), .second, .val (.int p5), .val (.ref sid), .val (.ref b10), .val (.ref b12), .unset, .unset, .unset, .unset, .unset, .unset, .unset, .unset, .unset, .unset, .unset, .unset, .unset, .unset, .unset, .unset, .unset, .unset] [(.ref b14)])) _
    refine XS.dup X14.here hx rfl (hb hby at_44) rfl rfl ?_
    show Steps p.tables e below (T14.setTop (mkF m 45 #[.val (.long q1), .second, .val (.long q2), .second, .val (.long q3), .second, .val (.long q4), .second, .val (.int p5), .val (.ref sid), .val (.ref b10), .val (.ref b12), .unset, .unset, .unset, .unset, .unset, .unset, .unset, .unset, .unset, .unset, .unset, .unset, .unset, .unset, .unset, .unset, .unset, .unset] [(.ref b14), (.ref b14)])) _
    refine XS.aload X14.here hx rfl (hb hby at_45) rfl rfl ?_
    show Steps p.tables e below (T14.setTop (mkF m 47 #[.val (.long q1), .second, .val (.long q2), .second, .val (.long q3), .second, .val (.long q4), .second, .val (.int p5), .val (.ref sid), .val (.ref b10), .val (.ref b12), .unset, .unset, .unset, .unset, .unset, .unset, .unset, .unset, .unset, .unset, .unset, .unset, .unset, .unset, .unset, .unset, .unset, .unset] [(.ref sid), (.ref b14), (.ref b14)])) _
    refine XS.lconst X14.here hx rfl (hb hby at_47) ?_
    show Steps p.tables e below (T14.setTop (mkF m 48 #[.val (.long q1), .second, .val (.long q2), .second, .val (.long q3), .second, .val (.long q4), .second, .val (.int p5), .val (.ref sid), .val (.ref b10), .val (.ref b12), .unset, .unset, .unset, .unset, .unset, .unset, .unset, .unset, .unset, .unset, .unset, .unset, .unset, .unset, .unset, .unset, .unset, .unset] [(.long (0 : Int64)), (.ref sid), (.ref b14), (.ref b14)])) _
    refine XS.lloadN X14.here hx rfl (hb hby at_48) rfl ?_
    show Steps p.tables e below (T14.setTop (mkF m 49 #[.val (.long q1), .second, .val (.long q2), .second, .val (.long q3), .second, .val (.long q4), .second, .val (.int p5), .val (.ref sid), .val (.ref b10), .val (.ref b12), .unset, .unset, .unset, .unset, .unset, .unset, .unset, .unset, .unset, .unset, .unset, .unset, .unset, .unset, .unset, .unset, .unset, .unset] [(.long q2), (.long (0 : Int64)), (.ref sid), (.ref b14), (.ref b14)])) _
    refine XS.lconst X14.here hx rfl (hb hby at_49) ?_
    show Steps p.tables e below (T14.setTop (mkF m 50 #[.val (.long q1), .second, .val (.long q2), .second, .val (.long q3), .second, .val (.long q4), .second, .val (.int p5), .val (.ref sid), .val (.ref b10), .val (.ref b12), .unset, .unset, .unset, .unset, .unset, .unset, .unset, .unset, .unset, .unset, .unset, .unset, .unset, .unset, .unset, .unset, .unset, .unset] [(.long (0 : Int64)), (.long q2), (.long (0 : Int64)), (.ref sid), (.ref b14), (.ref b14)])) _
    refine st15.trans ?_
    show Steps p.tables e below (T15.setTop (mkF m 53 #[.val (.long q1), .second, .val (.long q2), .second, .val (.long q3), .second, .val (.long q4), .second, .val (.int p5), .val (.ref sid), .val (.ref b10), .val (.ref b12), .unset, .unset, .unset, .unset, .unset, .unset, .unset, .unset, .unset, .unset, .unset, .unset, .unset, .unset, .unset, .unset, .unset, .unset] [(.ref b14)])) _
    refine XS.astore X15.here hx rfl (hb hby at_53) rfl rfl (l' := #[.val (.long q1), .second, .val (.long q2), .second, .val (.long q3), .second, .val (.long q4), .second, .val (.int p5), .val (.ref sid), .val (.ref b10), .val (.ref b12), .val (.ref b14), .unset, .unset, .unset, .unset, .unset, .unset, .unset, .unset, .unset, .unset, .unset, .unset, .unset, .unset, .unset, .unset, .unset]) rfl ?_
    show Steps p.tables e below (T15.setTop (mkF m 55 #[.val (.long q1), .second, .val (.long q2), .second, .val (.long q3), .second, .val (.long q4), .second, .val (.int p5), .val (.ref sid), .val (.ref b10), .val (.ref b12), .val (.ref b14), .unset, .unset, .unset, .unset, .unset, .unset, .unset, .unset, .unset, .unset, .unset, .unset, .unset, .unset, .unset, .unset, .unset] [])) _
    refine st16 _ ?_
    show Steps p.tables e below (T16.setTop (mkF m 58 #[.val (.long q1), .second, .val (.long q2), .second, .val (.long q3), .second, .val (.long q4), .second, .val (.int p5), .val (.ref sid), .val (.ref b10), .val (.ref b12), .val (.ref b14), .unset, .unset, .unset, .unset, .unset, .unset, .unset, .unset, .unset, .unset, .unset, .unset, .unset, .unset, .unset, .unset, .unset] [(.ref b16)])) _
    refine XS.dup X16.here hx rfl (hb hby at_58) rfl rfl ?_
    show Steps p.tables e below (T16.setTop (mkF m 59 #[.val (.long q1), .second, .val (.long q2), .second, .val (.long q3), .second, .val (.long q4), .second, .val (.int p5), .val (.ref sid), .val (.ref b10), .val (.ref b12), .val (.ref b14), .unset, .unset, .unset, .unset, .unset, .unset, .unset, .unset, .unset, .unset, .unset, .unset, .unset, .unset, .unset, .unset, .unset] [(.ref b16), (.ref b16)])) _
    refine XS.aload X16.here hx rfl (hb hby at_59) rfl rfl ?_
    show Steps p.tables e below (T16.setTop (mkF m 61 #[.val (.long q1), .second, .val (.long q2), .second, .val (.long q3), .second, .val (.long q4), .second, .val (.int p5), .val (.ref sid), .val (.ref b10), .val (.ref b12), .val (.ref b14), .unset, .unset, .unset, .unset, .unset, .unset, .unset, .unset, .unset, .unset, .unset, .unset, .unset, .unset, .unset, .unset, .unset] [(.ref sid), (.ref b16), (.ref b16)])) _
    refine XS.lconst X16.here hx rfl (hb hby at_61) ?_
    show Steps p.tables e below (T16.setTop (mkF m 62 #[.val (.long q1), .second, .val (.long q2), .second, .val (.long q3), .second, .val (.long q4), .second, .val (.int p5), .val (.ref sid), .val (.ref b10), .val (.ref b12), .val (.ref b14), .unset, .unset, .unset, .unset, .unset, .unset, .unset, .unset, .unset, .unset, .unset, .unset, .unset, .unset, .unset, .unset, .unset] [(.long (0 : Int64)), (.ref sid), (.ref b16), (.ref b16)])) _
    refine XS.lconst X16.here hx rfl (hb hby at_62) ?_
    show Steps p.tables e below (T16.setTop (mkF m 63 #[.val (.long q1), .second, .val (.long q2), .second, .val (.long q3), .second, .val (.long q4), .second, .val (.int p5), .val (.ref sid), .val (.ref b10), .val (.ref b12), .val (.ref b14), .unset, .unset, .unset, .unset, .unset, .unset, .unset, .unset, .unset, .unset, .unset, .unset, .unset, .unset, .unset, .unset, .unset] [(.long (0 : Int64)), (.long (0 : Int64)), (.ref sid), (.ref b16), (.ref b16)])) _
    refine XS.lload X16.here hx rfl (hb hby at_63) rfl ?_
    show Steps p.tables e below (T16.setTop (mkF m 65 #[.val (.long q1), .second, .val (.long q2), .second, .val (.long q3), .second, .val (.long q4), .second, .val (.int p5), .val (.ref sid), .val (.ref b10), .val (.ref b12), .val (.ref b14), .unset, .unset, .unset, .unset, .unset, .unset, .unset, .unset, .unset, .unset, .unset, .unset, .unset, .unset, .unset, .unset, .unset] [(.long q3), (.long (0 : Int64)), (.long (0 : Int64)), (.ref sid), (.ref b16), (.ref b16)])) _
    refine st17.trans ?_
    show Steps p.tables e below (T17.setTop (mkF m 68 #[.val (.long q1), .second, .val (.long q2), .second, .val (.long q3), .second, .val (.long q4), .second, .val (.int p5), .val (.ref sid), .val (.ref b10), .val (.ref b12), .val (.ref b14), .unset, .unset, .unset, .unset, .unset, .unset, .unset, .unset, .unset, .unset, .unset, .unset, .unset, .unset, .unset, .unset, .unset] [(.ref b16)])) _
    refine XS.astore X17.here hx rfl (hb hby at_68) rfl rfl (l' := #[.val (.long q1), .second, .val (.long q2), .second, .val (.long q3), .second, .val (.long q4), .second, .val (.int p5), .val (.ref sid), .val (.ref b10), .val (.ref b12), .val (.ref b14), .val (.ref b16), .unset, .unset, .unset, .unset, .unset, .unset, .unset, .unset, .unset, .unset, .unset, .unset, .unset, .unset, .unset, .unset]) rfl ?_
    show Steps p.tables e below (T17.setTop (mkF m 70 #[.val (.long q1), .second, .val (.long q2), .second, .val (.long q3), .second, .val (.long q4), .second, .val (.int p5), .val (.ref sid), .val (.ref b10), .val (.ref b12), .val (.ref b14), .val (.ref b16), .unset, .unset, .unset, .unset, .unset, .unset, .unset, .unset, .unset, .unset, .unset, .unset, .unset, .unset, .unset, .unset] [])) _
    refine st18 _ ?_
    show Steps p.tables e below (T18.setTop (mkF m 73 #[.val (.long q1), .second, .val (.long q2), .second, .val (.long q3), .second, .val (.long q4), .second, .val (.int p5), .val (.ref sid), .val (.ref b10), .val (.ref b12), .val (.ref b14), .val (.ref b16), .unset, .unset, .unset, .unset, .unset, .unset, .unset, .unset, .unset, .unset, .unset, .unset, .unset, .unset, .unset, .unset] [(.ref b18)])) _
    refine XS.dup X18.here hx rfl (hb hby at_73) rfl rfl ?_
    show Steps p.tables e below (T18.setTop (mkF m 74 #[.val (.long q1), .second, .val (.long q2), .second, .val (.long q3), .second, .val (.long q4), .second, .val (.int p5), .val (.ref sid), .val (.ref b10), .val (.ref b12), .val (.ref b14), .val (.ref b16), .unset, .unset, .unset, .unset, .unset, .unset, .unset, .unset, .unset, .unset, .unset, .unset, .unset, .unset, .unset, .unset] [(.ref b18), (.ref b18)])) _
    refine XS.aload X18.here hx rfl (hb hby at_74) rfl rfl ?_
    show Steps p.tables e below (T18.setTop (mkF m 76 #[.val (.long q1), .second, .val (.long q2), .second, .val (.long q3), .second, .val (.long q4), .second, .val (.int p5), .val (.ref sid), .val (.ref b10), .val (.ref b12), .val (.ref b14), .val (.ref b16), .unset, .unset, .unset, .unset, .unset, .unset, .unset, .unset, .unset, .unset, .unset, .unset, .unset, .unset, .unset, .unset] [(.ref sid), (.ref b18), (.ref b18)])) _
    refine XS.lloadN X18.here hx rfl (hb hby at_76) rfl ?_
    show Steps p.tables e below (T18.setTop (mkF m 77 #[.val (.long q1), .second, .val (.long q2), .second, .val (.long q3), .second, .val (.long q4), .second, .val (.int p5), .val (.ref sid), .val (.ref b10), .val (.ref b12), .val (.ref b14), .val (.ref b16), .unset, .unset, .unset, .unset, .unset, .unset, .unset, .unset, .unset, .unset, .unset, .unset, .unset, .unset, .unset, .unset] [(.long q1), (.ref sid), (.ref b18), (.ref b18)])) _
    refine XS.lload X18.here hx rfl (hb hby at_77) rfl ?_
    show Steps p.tables e below (T18.setTop (mkF m 79 #[.val (.long q1), .second, .val (.long q2), .second, .val (.long q3), .second, .val (.long q4), .second, .val (.int p5), .val (.ref sid), .val (.ref b10), .val (.ref b12), .val (.ref b14), .val (.ref b16), .unset, .unset, .unset, .unset, .unset, .unset, .unset, .unset, .unset, .unset, .unset, .unset, .unset, .unset, .unset, .unset] [(.long q4), (.long q1), (.ref sid), (.ref b18), (.ref b18)])) _
    refine XS.ladd X18.here hx rfl (hb hby at_79) rfl ?_
    show Steps p.tables e below (T18.setTop (mkF m 80 #[.val (.long q1), .second, .val (.long q2), .second, .val (.long q3), .second, .val (.long q4), .second, .val (.int p5), .val (.ref sid), .val (.ref b10), .val (.ref b12), .val (.ref b14), .val (.ref b16), .unset, .unset, .unset, .unset, .unset, .unset, .unset, .unset, .unset, .unset, .unset, .unset, .unset, .unset, .unset, .unset] [(.long (q1 + q4)), (.ref sid), (.ref b18), (.ref b18)])) _
    refine XS.lloadN X18.here hx rfl (hb hby at_80) rfl ?_
    show Steps p.tables e below (T18.setTop (mkF m 81 #[.val (.long q1), .second, .val (.long q2), .second, .val (.long q3), .second, .val (.long q4), .second, .val (.int p5), .val (.ref sid), .val (.ref b10), .val (.ref b12), .val (.ref b14), .val (.ref b16), .unset, .unset, .unset, .unset, .unset, .unset, .unset, .unset, .unset, .unset, .unset, .unset, .unset, .unset, .unset, .unset] [(.long q2), (.long (q1 + q4)), (.ref sid), (.ref b18), (.ref b18)])) _
    refine XS.lload X18.here hx rfl (hb hby at_81) rfl ?_
    show Steps p.tables e below (T18.setTop (mkF m 83 #[.val (.long q1), .second, .val (.long q2), .second, .val (.long q3), .second, .val (.long q4), .second, .val (.int p5), .val (.ref sid), .val (.ref b10), .val (.ref b12), .val (.ref b14), .val (.ref b16), .unset, .unset, .unset, .unset, .unset, .unset, .unset, .unset, .unset, .unset, .unset, .unset, .unset, .unset, .unset, .unset] [(.long q4), (.long q2), (.long (q1 + q4)), (.ref sid), (.ref b18), (.ref b18)])) _
    refine XS.ladd X18.here hx rfl (hb hby at_83) rfl ?_
    show Steps p.tables e below (T18.setTop (mkF m 84 #[.val (.long q1), .second, .val (.long q2), .second, .val (.long q3), .second, .val (.long q4), .second, .val (.int p5), .val (.ref sid), .val (.ref b10), .val (.ref b12), .val (.ref b14), .val (.ref b16), .unset, .unset, .unset, .unset, .unset, .unset, .unset, .unset, .unset, .unset, .unset, .unset, .unset, .unset, .unset, .unset] [(.long (q2 + q4)), (.long (q1 + q4)), (.ref sid), (.ref b18), (.ref b18)])) _
    refine XS.lload X18.here hx rfl (hb hby at_84) rfl ?_
    show Steps p.tables e below (T18.setTop (mkF m 86 #[.val (.long q1), .second, .val (.long q2), .second, .val (.long q3), .second, .val (.long q4), .second, .val (.int p5), .val (.ref sid), .val (.ref b10), .val (.ref b12), .val (.ref b14), .val (.ref b16), .unset, .unset, .unset, .unset, .unset, .unset, .unset, .unset, .unset, .unset, .unset, .unset, .unset, .unset, .unset, .unset] [(.long q3), (.long (q2 + q4)), (.long (q1 + q4)), (.ref sid), (.ref b18), (.ref b18)])) _
    refine st19.trans ?_
    show Steps p.tables e below (T19.setTop (mkF m 89 #[.val (.long q1), .second, .val (.long q2), .second, .val (.long q3), .second, .val (.long q4), .second, .val (.int p5), .val (.ref sid), .val (.ref b10), .val (.ref b12), .val (.ref b14), .val (.ref b16), .unset, .unset, .unset, .unset, .unset, .unset, .unset, .unset, .unset, .unset, .unset, .unset, .unset, .unset, .unset, .unset] [(.ref b18)])) _
    refine XS.astore X19.here hx rfl (hb hby at_89) rfl rfl (l' := #[.val (.long q1), .second, .val (.long q2), .second, .val (.long q3), .second, .val (.long q4), .second, .val (.int p5), .val (.ref sid), .val (.ref b10), .val (.ref b12), .val (.ref b14), .val (.ref b16), .val (.ref b18), .unset, .unset, .unset, .unset, .unset, .unset, .unset, .unset, .unset, .unset, .unset, .unset, .unset, .unset, .unset]) rfl ?_
    show Steps p.tables e below (T19.setTop (mkF m 91 #[.val (.long q1), .second, .val (.long q2), .second, .val (.long q3), .second, .val (.long q4), .second, .val (.int p5), .val (.ref sid), .val (.ref b10), .val (.ref b12), .val (.ref b14), .val (.ref b16), .val (.ref b18), .unset, .unset, .unset, .unset, .unset, .unset, .unset, .unset, .unset, .unset, .unset, .unset, .unset, .unset, .unset] [])) _
    refine XS.aload X19.here hx rfl (hb hby at_91) rfl rfl ?_
    show Steps p.tables e below (T19.setTop (mkF m 93 #[.val (.long q1), .second, .val (.long q2), .second, .val (.long q3), .second, .val (.long q4), .second, .val (.int p5), .val (.ref sid), .val (.ref b10), .val (.ref b12), .val (.ref b14), .val (.ref b16), .val (.ref b18), .unset, .unset, .unset, .unset, .unset, .unset, .unset, .unset, .unset, .unset, .unset, .unset, .unset, .unset, .unset] [(.ref b10)])) _
    refine st30.trans ?_
    show Steps p.tables e below (T30.setTop (mkF m 96 #[.val (.long q1), .second, .val (.long q2), .second, .val (.long q3), .second, .val (.long q4), .second, .val (.int p5), .val (.ref sid), .val (.ref b10), .val (.ref b12), .val (.ref b14), .val (.ref b16), .val (.ref b18), .unset, .unset, .unset, .unset, .unset, .unset, .unset, .unset, .unset, .unset, .unset, .unset, .unset, .unset, .unset] [(.long ((q1 - q2) + q3))])) _
    refine XS.lstore X30.here hx rfl (hb hby at_96) rfl (l' := #[.val (.long q1), .second, .val (.long q2), .second, .val (.long q3), .second, .val (.long q4), .second, .val (.int p5), .val (.ref sid), .val (.ref b10), .val (.ref b12), .val (.ref b14), .val (.ref b16), .val (.ref b18), .val (.long ((q1 - q2) + q3)), .second, .unset, .unset, .unset, .unset, .unset, .unset, .unset, .unset, .unset, .unset, .unset, .unset, .unset]) rfl ?_
    show Steps p.tables e below (T30.setTop (mkF m 98 #[.val (.long q1), .second, .val (.long q2), .second, .val (.long q3), .second, .val (.long q4), .second, .val (.int p5), .val (.ref sid), .val (.ref b10), .val (.ref b12), .val (.ref b14), .val (.ref b16), .val (.ref b18), .val (.long ((q1 - q2) + q3)), .second, .unset, .unset, .unset, .unset, .unset, .unset, .unset, .unset, .unset, .unset, .unset, .unset, .unset] [])) _
    refine XS.aload X30.here hx rfl (hb hby at_98) rfl rfl ?_
    show Steps p.tables e below (T30.setTop (mkF m 100 #[.val (.long q1), .second, .val (.long q2), .second, .val (.long q3), .second, .val (.long q4), .second, .val (.int p5), .val (.ref sid), .val (.ref b10), .val (.ref b12), .val (.ref b14), .val (.ref b16), .val (.ref b18), .val (.long ((q1 - q2) + q3)), .second, .unset, .unset, .unset, .unset, .unset, .unset, .unset, .unset, .unset, .unset, .unset, .unset, .unset] [(.ref b12)])) _
    refine st31.trans ?_
    show Steps p.tables e below (T31.setTop (mkF m 103 #[.val (.long q1), .second, .val (.long q2), .second, .val (.long q3), .second, .val (.long q4), .second, .val (.int p5), .val (.ref sid), .val (.ref b10), .val (.ref b12), .val (.ref b14), .val (.ref b16), .val (.ref b18), .val (.long ((q1 - q2) + q3)), .second, .unset, .unset, .unset, .unset, .unset, .unset, .unset, .unset, .unset, .unset, .unset, .unset, .unset] [(.long ((q1 - (0 : Int64)) + (0 : Int64)))])) _
    refine XS.lstore X31.here hx rfl (hb hby at_103) rfl (l' := #[.val (.long q1), .second, .val (.long q2), .second, .val (.long q3), .second, .val (.long q4), .second, .val (.int p5), .val (.ref sid), .val (.ref b10), .val (.ref b12), .val (.ref b14), .val (.ref b16), .val (.ref b18), .val (.long ((q1 - q2) + q3)), .second, .val (.long ((q1 - (0 : Int64)) + (0 : Int64))), .second, .unset, .unset, .unset, .unset, .unset, .unset, .unset, .unset, .unset, .unset, .unset]) rfl ?_
    show Steps p.tables e below (T31.setTop (mkF m 105 #[.val (.long q1), .second, .val (.long q2), .second, .val (.long q3), .second, .val (.long q4), .second, .val (.int p5), .val (.ref sid), .val (.ref b10), .val (.ref b12), .val (.ref b14), .val (.ref b16), .val (.ref b18), .val (.long ((q1 - q2) + q3)), .second, .val (.long ((q1 - (0 : Int64)) + (0 : Int64))), .second, .unset, .unset, .unset, .unset, .unset, .unset, .unset, .unset, .unset, .unset, .unset] [])) _
    refine XS.aload X31.here hx rfl (hb hby at_105) rfl rfl ?_
    show Steps p.tables e below (T31.setTop (mkF m 107 #[.val (.long q1), .second, .val (.long q2), .second, .val (.long q3), .second, .val (.long q4), .second, .val (.int p5), .val (.ref sid), .val (.ref b10), .val (.ref b12), .val (.ref b14), .val (.ref b16), .val (.ref b18), .val (.long ((q1 - q2) + q3)), .second, .val (.long ((q1 - (0 : Int64)) + (0 : Int64))), .second, .unset, .unset, .unset, .unset, .unset, .unset, .unset, .unset, .unset, .unset, .unset] [(.ref b14)])) _
    refine st32.trans ?_
    show Steps p.tables e below (T32.setTop (mkF m 110 #[.val (.long q1), .second, .val (.long q2), .second, .val (.long q3), .second, .val (.long q4), .second, .val (.int p5), .val (.ref sid), .val (.ref b10), .val (.ref b12), .val (.ref b14), .val (.ref b16), .val (.ref b18), .val (.long ((q1 - q2) + q3)), .second, .val (.long ((q1 - (0 : Int64)) + (0 : Int64))), .second, .unset, .unset, .unset, .unset, .unset, .unset, .unset, .unset, .unset, .unset, .unset] [(.long (((0 : Int64) - q2) + (0 : Int64)))])) _
    refine XS.lstore X32.here hx rfl (hb hby at_110) rfl (l' := #[.val (.long q1), .second, .val (.long q2), .second, .val (.long q3), .second, .val (.long q4), .second, .val (.int p5), .val (.ref sid), .val (.ref b10), .val (.ref b12), .val (.ref b14), .val (.ref b16), .val (.ref b18), .val (.long ((q1 - q2) + q3)), .second, .val (.long ((q1 - (0 : Int64)) + (0 : Int64))), .second, .val (.long (((0 : Int64) - q2) + (0 : Int64))), .second, .unset, .unset, .unset, .unset, .unset, .unset, .unset, .unset, .unset]) rfl ?_
    show Steps p.tables e below (T32.setTop (mkF m 112 #[.val (.long q1), .second, .val (.long q2), .second, .val (.long q3), .second, .val (.long q4), .second, .val (.int p5), .val (.ref sid), .val (.ref b10), .val (.ref b12), .val (.ref b14), .val (.ref b16), .val (.ref b18), .val (.long ((q1 - q2) + q3)), .second, .val (.long ((q1 - (0 : Int64)) + (0 : Int64))), .second, .val (.long (((0 : Int64) - q2) + (0 : Int64))), .second, .unset, .unset, .unset, .unset, .unset, .unset, .unset, .unset, .unset] [])) _
    refine XS.aload X32.here hx rfl (hb hby at_112) rfl rfl ?_
    show Steps p.tables e below (T32.setTop (mkF m 114 #[.val (.long q1), .second, .val (.long q2), .second, .val (.long q3), .second, .val (.long q4), .second, .val (.int p5), .val (.ref sid), .val (.ref b10), .val (.ref b12), .val (.ref b14), .val (.ref b16), .val (.ref b18), .val (.long ((q1 - q2) + q3)), .second, .val (.long ((q1 - (0 : Int64)) + (0 : Int64))), .second, .val (.long (((0 : Int64) - q2) + (0 : Int64))), .second, .unset, .unset, .unset, .unset, .unset, .unset, .unset, .unset, .unset] [(.ref b16)])) _
    refine st33.trans ?_
    show Steps p.tables e below (T33.setTop (mkF m 117 #[.val (.long q1), .second, .val (.long q2), .second, .val (.long q3), .second, .val (.long q4), .second, .val (.int p5), .val (.ref sid), .val (.ref b10), .val (.ref b12), .val (.ref b14), .val (.ref b16), .val (.ref b18), .val (.long ((q1 - q2) + q3)), .second, .val (.long ((q1 - (0 : Int64)) + (0 : Int64))), .second, .val (.long (((0 : Int64) - q2) + (0 : Int64))), .second, .unset, .unset, .unset, .unset, .unset, .unset, .unset, .unset, .unset] [(.long (((0 : Int64) - (0 : Int64)) + q3))])) _
    refine XS.lstore X33.here hx rfl (hb hby at_117) rfl (l' := #[.val (.long q1), .second, .val (.long q2), .second, .val (.long q3), .second, .val (.long q4), .second, .val (.int p5), .val (.ref sid), .val (.ref b10), .val (.ref b12), .val (.ref b14), .val (.ref b16), .val (.ref b18), .val (.long ((q1 - q2) + q3)), .second, .val (.long ((q1 - (0 : Int64)) + (0 : Int64))), .second, .val (.long (((0 : Int64) - q2) + (0 : Int64))), .second, .val (.long (((0 : Int64) - (0 : Int64)) + q3)), .second, .unset, .unset, .unset, .unset, .unset, .unset, .unset]) rfl ?_
    show Steps p.tables e below (T33.setTop (mkF m 119 #[.val (.long q1), .second, .val (.long q2), .second, .val (.long q3), .second, .val (.long q4), .second, .val (.int p5), .val (.ref sid), .val (.ref b10), .val (.ref b12), .val (.ref b14), .val (.ref b16), .val (.ref b18), .val (.long ((q1 - q2) + q3)), .second, .val (.long ((q1 - (0 : Int64)) + (0 : Int64))), .second, .val (.long (((0 : Int64) - q2) + (0 : Int64))), .second, .val (.long (((0 : Int64) - (0 : Int64)) + q3)), .second, .unset, .unset, .unset, .unset, .unset, .unset, .unset] [])) _
    refine XS.aload X33.here hx rfl (hb hby at_119) rfl rfl ?_
    show Steps p.tables e below (T33.setTop (mkF m 121 #[.val (.long q1), .second, .val (.long q2), .second, .val (.long q3), .second, .val (.long q4), .second, .val (.int p5), .val (.ref sid), .val (.ref b10), .val (.ref b12), .val (.ref b14), .val (.ref b16), .val (.ref b18), .val (.long ((q1 - q2) + q3)), .second, .val (.long ((q1 - (0 : Int64)) + (0 : Int64))), .second, .val (.long (((0 : Int64) - q2) + (0 : Int64))), .second, .val (.long (((0 : Int64) - (0 : Int64)) + q3)), .second, .unset, .unset, .unset, .unset, .unset, .unset, .unset] [(.ref b18)])) _
    refine st34.trans ?_
    show Steps p.tables e below (T34.setTop (mkF m 124 #[.val (.long q1), .second, .val (.long q2), .second, .val (.long q3), .second, .val (.long q4), .second, .val (.int p5), .val (.ref sid), .val (.ref b10), .val (.ref b12), .val (.ref b14), .val (.ref b16), .val (.ref b18), .val (.long ((q1 - q2) + q3)), .second, .val (.long ((q1 - (0 : Int64)) + (0 : Int64))), .second, .val (.long (((0 : Int64) - q2) + (0 : Int64))), .second, .val (.long (((0 : Int64) - (0 : Int64)) + q3)), .second, .unset, .unset, .unset, .unset, .unset, .unset, .unset] [(.long (((q1 + q4) - (q2 + q4)) + q3))])) _
    refine XS.lstore X34.here hx rfl (hb hby at_124) rfl (l' := #[.val (.long q1), .second, .val (.long q2), .second, .val (.long q3), .second, .val (.long q4), .second, .val (.int p5), .val (.ref sid), .val (.ref b10), .val (.ref b12), .val (.ref b14), .val (.ref b16), .val (.ref b18), .val (.long ((q1 - q2) + q3)), .second, .val (.long ((q1 - (0 : Int64)) + (0 : Int64))), .second, .val (.long (((0 : Int64) - q2) + (0 : Int64))), .second, .val (.long (((0 : Int64) - (0 : Int64)) + q3)), .second, .val (.long (((q1 + q4) - (q2 + q4)) + q3)), .second, .unset, .unset, .unset, .unset, .unset]) rfl ?_
    show Steps p.tables e below (T34.setTop (mkF m 126 #[.val (.long q1), .second, .val (.long q2), .second, .val (.long q3), .second, .val (.long q4), .second, .val (.int p5), .val (.ref sid), .val (.ref b10), .val (.ref b12), .val (.ref b14), .val (.ref b16), .val (.ref b18), .val (.long ((q1 - q2) + q3)), .second, .val (.long ((q1 - (0 : Int64)) + (0 : Int64))), .second, .val (.long (((0 : Int64) - q2) + (0 : Int64))), .second, .val (.long (((0 : Int64) - (0 : Int64)) + q3)), .second, .val (.long (((q1 + q4) - (q2 + q4)) + q3)), .second, .unset, .unset, .unset, .unset, .unset] [])) _
    refine XS.lload X34.here hx rfl (hb hby at_126) rfl ?_
    show Steps p.tables e below (T34.setTop (mkF m 128 #[.val (.long q1), .second, .val (.long q2), .second, .val (.long q3), .second, .val (.long q4), .second, .val (.int p5), .val (.ref sid), .val (.ref b10), .val (.ref b12), .val (.ref b14), .val (.ref b16), .val (.ref b18), .val (.long ((q1 - q2) + q3)), .second, .val (.long ((q1 - (0 : Int64)) + (0 : Int64))), .second, .val (.long (((0 : Int64) - q2) + (0 : Int64))), .second, .val (.long (((0 : Int64) - (0 : Int64)) + q3)), .second, .val (.long (((q1 + q4) - (q2 + q4)) + q3)), .second, .unset, .unset, .unset, .unset, .unset] [(.long ((q1 - (0 : Int64)) + (0 : Int64)))])) _
    refine XS.lloadN X34.here hx rfl (hb hby at_128) rfl ?_
    show Steps p.tables e below (T34.setTop (mkF m 129 #[.val (.long q1), .second, .val (.long q2), .second, .val (.long q3), .second, .val (.long q4), .second, .val (.int p5), .val (.ref sid), .val (.ref b10), .val (.ref b12), .val (.ref b14), .val (.ref b16), .val (.ref b18), .val (.long ((q1 - q2) + q3)), .second, .val (.long ((q1 - (0 : Int64)) + (0 : Int64))), .second, .val (.long (((0 : Int64) - q2) + (0 : Int64))), .second, .val (.long (((0 : Int64) - (0 : Int64)) + q3)), .second, .val (.long (((q1 + q4) - (q2 + q4)) + q3)), .second, .unset, .unset, .unset, .unset, .unset] [(.long q1), (.long ((q1 - (0 : Int64)) + (0 : Int64)))])) _
    refine XS.lcmp X34.here hx rfl (hb hby at_129) rfl ?_
    show Steps p.tables e below (T34.setTop (mkF m 130 #[.val (.long q1), .second, .val (.long q2), .second, .val (.long q3), .second, .val (.long q4), .second, .val (.int p5), .val (.ref sid), .val (.ref b10), .val (.ref b12), .val (.ref b14), .val (.ref b16), .val (.ref b18), .val (.long ((q1 - q2) + q3)), .second, .val (.long ((q1 - (0 : Int64)) + (0 : Int64))), .second, .val (.long (((0 : Int64) - q2) + (0 : Int64))), .second, .val (.long (((0 : Int64) - (0 : Int64)) + q3)), .second, .val (.long (((q1 + q4) - (q2 + q4)) + q3)), .second, .unset, .unset, .unset, .unset, .unset] [(.int (lcmpW ((q1 - (0 : Int64)) + (0 : Int64)) q1))])) _
    refine XS.ifNo X34.here hx rfl (hb hby at_130) rfl ((if0 _ _).trans (teq ((lw_eq ((q1 - (0 : Int64)) + (0 : Int64)) q1).mpr (own_l1 q1))).2) ?_
    show Steps p.tables e below (T34.setTop (mkF m 133 #[.val (.long q1), .second, .val (.long q2), .second, .val (.long q3), .second, .val (.long q4), .second, .val (.int p5), .val (.ref sid), .val (.ref b10), .val (.ref b12), .val (.ref b14), .val (.ref b16), .val (.ref b18), .val (.long ((q1 - q2) + q3)), .second, .val (.long ((q1 - (0 : Int64)) + (0 : Int64))), .second, .val (.long (((0 : Int64) - q2) + (0 : Int64))), .second, .val (.long (((0 : Int64) - (0 : Int64)) + q3)), .second, .val (.long (((q1 + q4) - (q2 + q4)) + q3)), .second, .unset, .unset, .unset, .unset, .unset] [])) _
    refine XS.iconst X34.here hx rfl (hb hby at_133) ?_
    show Steps p.tables e below (T34.setTop (mkF m 134 #[.val (.long q1), .second, .val (.long q2), .second, .val (.long q3), .second, .val (.long q4), .second, .val (.int p5), .val (.ref sid), .val (.ref b10), .val (.ref b12), .val (.ref b14), .val (.ref b16), .val (.ref b18), .val (.long ((q1 - q2) + q3)), .second, .val (.long ((q1 - (0 : Int64)) + (0 : Int64))), .second, .val (.long (((0 : Int64) - q2) + (0 : Int64))), .second, .val (.long (((0 : Int64) - (0 : Int64)) + q3)), .second, .val (.long (((q1 + q4) - (q2 + q4)) + q3)), .second, .unset, .unset, .unset, .unset, .unset] [(.int (1 : Int32))])) _
    refine XS.goto X34.here hx rfl (pc0 := 134) (pc' := 138) rfl (hb hby at_134) (by decide) (by decide) ?_
    show Steps p.tables e below (T34.setTop (mkF m 138 #[.val (.long q1), .second, .val (.long q2), .second, .val (.long q3), .second, .val (.long q4), .second, .val (.int p5), .val (.ref sid), .val (.ref b10), .val (.ref b12), .val (.ref b14), .val (.ref b16), .val (.ref b18), .val (.long ((q1 - q2) + q3)), .second, .val (.long ((q1 - (0 : Int64)) + (0 : Int64))), .second, .val (.long (((0 : Int64) - q2) + (0 : Int64))), .second, .val (.long (((0 : Int64) - (0 : Int64)) + q3)), .second, .val (.long (((q1 + q4) - (q2 + q4)) + q3)), .second, .unset, .unset, .unset, .unset, .unset] [(.int (1 : Int32))])) _
    refine XS.istore X34.here hx rfl (hb hby at_138) rfl (l' := #[.val (.long q1), .second, .val (.long q2), .second, .val (.long q3), .second, .val (.long q4), .second, .val (.int p5), .val (.ref sid), .val (.ref b10), .val (.ref b12), .val (.ref b14), .val (.ref b16), .val (.ref b18), .val (.long ((q1 - q2) + q3)), .second, .val (.long ((q1 - (0 : Int64)) + (0 : Int64))), .second, .val (.long (((0 : Int64) - q2) + (0 : Int64))), .second, .val (.long (((0 : Int64) - (0 : Int64)) + q3)), .second, .val (.long (((q1 + q4) - (q2 + q4)) + q3)), .second, .val (.int (1 : Int32)), .unset, .unset, .unset, .unset]) rfl ?_
    show Steps p.tables e below (T34.setTop (mkF m 140 #[.val (.long q1), .second, .val (.long q2), .second, .val (.long q3), .second, .val (.long q4), .second, .val (.int p5), .val (.ref sid), .val (.ref b10), .val (.ref b12), .val (.ref b14), .val (.ref b16), .val (.ref b18), .val (.long ((q1 - q2) + q3)), .second, .val (.long ((q1 - (0 : Int64)) + (0 : Int64))), .second, .val (.long (((0 : Int64) - q2) + (0 : Int64))), .second, .val (.long (((0 : Int64) - (0 : Int64)) + q3)), .second, .val (.long (((q1 + q4) - (q2 + q4)) + q3)), .second, .val (.int (1 : Int32)), .unset, .unset, .unset, .unset] [])) _
    refine XS.lload X34.here hx rfl (hb hby at_140) rfl ?_
    show Steps p.tables e below (T34.setTop (mkF m 142 #[.val (.long q1), .second, .val (.long q2), .second, .val (.long q3), .second, .val (.long q4), .second, .val (.int p5), .val (.ref sid), .val (.ref b10), .val (.ref b12), .val (.ref b14), .val (.ref b16), .val (.ref b18), .val (.long ((q1 - q2) + q3)), .second, .val (.long ((q1 - (0 : Int64)) + (0 : Int64))), .second, .val (.long (((0 : Int64) - q2) + (0 : Int64))), .second, .val (.long (((0 : Int64) - (0 : Int64)) + q3)), .second, .val (.long (((q1 + q4) - (q2 + q4)) + q3)), .second, .val (.int (1 : Int32)), .unset, .unset, .unset, .unset] [(.long (((0 : Int64) - q2) + (0 : Int64)))])) _
    refine XS.lloadN X34.here hx rfl (hb hby at_142) rfl ?_
    show Steps p.tables e below (T34.setTop (mkF m 143 #[.val (.long q1), .second, .val (.long q2), .second, .val (.long q3), .second, .val (.long q4), .second, .val (.int p5), .val (.ref sid), .val (.ref b10), .val (.ref b12), .val (.ref b14), .val (.ref b16), .val (.ref b18), .val (.long ((q1 - q2) + q3)), .second, .val (.long ((q1 - (0 : Int64)) + (0 : Int64))), .second, .val (.long (((0 : Int64) - q2) + (0 : Int64))), .second, .val (.long (((0 : Int64) - (0 : Int64)) + q3)), .second, .val (.long (((q1 + q4) - (q2 + q4)) + q3)), .second, .val (.int (1 : Int32)), .unset, .unset, .unset, .unset] [(.long q2), (.long (((0 : Int64) - q2) + (0 : Int64)))])) _
    refine XS.lneg X34.here hx rfl (hb hby at_143) rfl ?_
    show Steps p.tables e below (T34.setTop (mkF m 144 #[.val (.long q1), .second, .val (.long q2), .second, .val (.long q3), .second, .val (.long q4), .second, .val (.int p5), .val (.ref sid), .val (.ref b10), .val (.ref b12), .val (.ref b14), .val (.ref b16), .val (.ref b18), .val (.long ((q1 - q2) + q3)), .second, .val (.long ((q1 - (0 : Int64)) + (0 : Int64))), .second, .val (.long (((0 : Int64) - q2) + (0 : Int64))), .second, .val (.long (((0 : Int64) - (0 : Int64)) + q3)), .second, .val (.long (((q1 + q4) - (q2 + q4)) + q3)), .second, .val (.int (1 : Int32)), .unset, .unset, .unset, .unset] [(.long (-q2)), (.long (((0 : Int64) - q2) + (0 : Int64)))])) _
    refine XS.lcmp X34.here hx rfl (hb hby at_144) rfl ?_
    show Steps p.tables e below (T34.setTop (mkF m 145 #[.val (.long q1), .second, .val (.long q2), .second, .val (.long q3), .second, .val (.long q4), .second, .val (.int p5), .val (.ref sid), .val (.ref b10), .val (.ref b12), .val (.ref b14), .val (.ref b16), .val (.ref b18), .val (.long ((q1 - q2) + q3)), .second, .val (.long ((q1 - (0 : Int64)) + (0 : Int64))), .second, .val (.long (((0 : Int64) - q2) + (0 : Int64))), .second, .val (.long (((0 : Int64) - (0 : Int64)) + q3)), .second, .val (.long (((q1 + q4) - (q2 + q4)) + q3)), .second, .val (.int (1 : Int32)), .unset, .unset, .unset, .unset] [(.int (lcmpW (((0 : Int64) - q2) + (0 : Int64)) (-q2)))])) _
    refine XS.ifNo X34.here hx rfl (hb hby at_145) rfl ((if0 _ _).trans (teq ((lw_eq (((0 : Int64) - q2) + (0 : Int64)) (-q2)).mpr (own_l2 q2))).2) ?_
    show Steps p.tables e below (T34.setTop (mkF m 148 #[.val (.long q1), .second, .val (.long q2), .second, .val (.long q3), .second, .val (.long q4), .second, .val (.int p5), .val (.ref sid), .val (.ref b10), .val (.ref b12), .val (.ref b14), .val (.ref b16), .val (.ref b18), .val (.long ((q1 - q2) + q3)), .second, .val (.long ((q1 - (0 : Int64)) + (0 : Int64))), .second, .val (.long (((0 : Int64) - q2) + (0 : Int64))), .second, .val (.long (((0 : Int64) - (0 : Int64)) + q3)), .second, .val (.long (((q1 + q4) - (q2 + q4)) + q3)), .second, .val (.int (1 : Int32)), .unset, .unset, .unset, .unset] [])) _
    refine XS.iconst X34.here hx rfl (hb hby at_148) ?_
    show Steps p.tables e below (T34.setTop (mkF m 149 #[.val (.long q1), .second, .val (.long q2), .second, .val (.long q3), .second, .val (.long q4), .second, .val (.int p5), .val (.ref sid), .val (.ref b10), .val (.ref b12), .val (.ref b14), .val (.ref b16), .val (.ref b18), .val (.long ((q1 - q2) + q3)), .second, .val (.long ((q1 - (0 : Int64)) + (0 : Int64))), .second, .val (.long (((0 : Int64) - q2) + (0 : Int64))), .second, .val (.long (((0 : Int64) - (0 : Int64)) + q3)), .second, .val (.long (((q1 + q4) - (q2 + q4)) + q3)), .second, .val (.int (1 : Int32)), .unset, .unset, .unset, .unset] [(.int (1 : Int32))])) _
    refine XS.goto X34.here hx rfl (pc0 := 149) (pc' := 153) rfl (hb hby at_149) (by decide) (by decide) ?_
    show Steps p.tables e below (T34.setTop (mkF m 153 #[.val (.long q1), .second, .val (.long q2), .second, .val (.long q3), .second, .val (.long q4), .second, .val (.int p5), .val (.ref sid), .val (.ref b10), .val (.ref b12), .val (.ref b14), .val (.ref b16), .val (.ref b18), .val (.long ((q1 - q2) + q3)), .second, .val (.long ((q1 - (0 : Int64)) + (0 : Int64))), .second, .val (.long (((0 : Int64) - q2) + (0 : Int64))), .second, .val (.long (((0 : Int64) - (0 : Int64)) + q3)), .second, .val (.long (((q1 + q4) - (q2 + q4)) + q3)), .second, .val (.int (1 : Int32)), .unset, .unset, .unset, .unset] [(.int (1 : Int32))])) _
    refine XS.istore X34.here hx rfl (hb hby at_153) rfl (l' := #[.val (.long q1), .second, .val (.long q2), .second, .val (.long q3), .second, .val (.long q4), .second, .val (.int p5), .val (.ref sid), .val (.ref b10), .val (.ref b12), .val (.ref b14), .val (.ref b16), .val (.ref b18), .val (.long ((q1 - q2) + q3)), .second, .val (.long ((q1 - (0 : Int64)) + (0 : Int64))), .second, .val (.long (((0 : Int64) - q2) + (0 : Int64))), .second, .val (.long (((0 : Int64) - (0 : Int64)) + q3)), .second, .val (.long (((q1 + q4) - (q2 + q4)) + q3)), .second, .val (.int (1 : Int32)), .val (.int (1 : Int32)), .unset, .unset, .unset]) rfl ?_
    show Steps p.tables e below (T34.setTop (mkF m 155 #[.val (.long q1), .second, .val (.long q2), .second, .val (.long q3), .second, .val (.long q4), .second, .val (.int p5), .val (.ref sid), .val (.ref b10), .val (.ref b12), .val (.ref b14), .val (.ref b16), .val (.ref b18), .val (.long ((q1 - q2) + q3)), .second, .val (.long ((q1 - (0 : Int64)) + (0 : Int64))), .second, .val (.long (((0 : Int64) - q2) + (0 : Int64))), .second, .val (.long (((0 : Int64) - (0 : Int64)) + q3)), .second, .val (.long (((q1 + q4) - (q2 + q4)) + q3)), .second, .val (.int (1 : Int32)), .val (.int (1 : Int32)), .unset, .unset, .unset] [])) _
    refine XS.lload X34.here hx rfl (hb hby at_155) rfl ?_
    show Steps p.tables e below (T34.setTop (mkF m 157 #[.val (.long q1), .second, .val (.long q2), .second, .val (.long q3), .second, .val (.long q4), .second, .val (.int p5), .val (.ref sid), .val (.ref b10), .val (.ref b12), .val (.ref b14), .val (.ref b16), .val (.ref b18), .val (.long ((q1 - q2) + q3)), .second, .val (.long ((q1 - (0 : Int64)) + (0 : Int64))), .second, .val (.long (((0 : Int64) - q2) + (0 : Int64))), .second, .val (.long (((0 : Int64) - (0 : Int64)) + q3)), .second, .val (.long (((q1 + q4) - (q2 + q4)) + q3)), .second, .val (.int (1 : Int32)), .val (.int (1 : Int32)), .unset, .unset, .unset] [(.long (((0 : Int64) - (0 : Int64)) + q3))])) _
    refine XS.lload X34.here hx rfl (hb hby at_157) rfl ?_
    show Steps p.tables e below (T34.setTop (mkF m 159 #[.val (.long q1), .second, .val (.long q2), .second, .val (.long q3), .second, .val (.long q4), .second, .val (.int p5), .val (.ref sid), .val (.ref b10), .val (.ref b12), .val (.ref b14), .val (.ref b16), .val (.ref b18), .val (.long ((q1 - q2) + q3)), .second, .val (.long ((q1 - (0 : Int64)) + (0 : Int64))), .second, .val (.long (((0 : Int64) - q2) + (0 : Int64))), .second, .val (.long (((0 : Int64) - (0 : Int64)) + q3)), .second, .val (.long (((q1 + q4) - (q2 + q4)) + q3)), .second, .val (.int (1 : Int32)), .val (.int (1 : Int32)), .unset, .unset, .unset] [(.long q3), (.long (((0 : Int64) - (0 : Int64)) + q3))])) _
    refine XS.lcmp X34.here hx rfl (hb hby at_159) rfl ?_
    show Steps p.tables e below (T34.setTop (mkF m 160 #[.val (.long q1), .second, .val (.long q2), .second, .val (.long q3), .second, .val (.long q4), .second, .val (.int p5), .val (.ref sid), .val (.ref b10), .val (.ref b12), .val (.ref b14), .val (.ref b16), .val (.ref b18), .val (.long ((q1 - q2) + q3)), .second, .val (.long ((q1 - (0 : Int64)) + (0 : Int64))), .second, .val (.long (((0 : Int64) - q2) + (0 : Int64))), .second, .val (.long (((0 : Int64) - (0 : Int64)) + q3)), .second, .val (.long (((q1 + q4) - (q2 + q4)) + q3)), .second, .val (.int (1 : Int32)), .val (.int (1 : Int32)), .unset, .unset, .unset] [(.int (lcmpW (((0 : Int64) - (0 : Int64)) + q3) q3))])) _
    refine XS.ifNo X34.here hx rfl (hb hby at_160) rfl ((if0 _ _).trans (teq ((lw_eq (((0 : Int64) - (0 : Int64)) + q3) q3).mpr (own_l3 q3))).2) ?_
    show Steps p.tables e below (T34.setTop (mkF m 163 #[.val (.long q1), .second, .val (.long q2), .second, .val (.long q3), .second, .val (.long q4), .second, .val (.int p5), .val (.ref sid), .val (.ref b10), .val (.ref b12), .val (.ref b14), .val (.ref b16), .val (.ref b18), .val (.long ((q1 - q2) + q3)), .second, .val (.long ((q1 - (0 : Int64)) + (0 : Int64))), .second, .val (.long (((0 : Int64) - q2) + (0 : Int64))), .second, .val (.long (((0 : Int64) - (0 : Int64)) + q3)), .second, .val (.long (((q1 + q4) - (q2 + q4)) + q3)), .second, .val (.int (1 : Int32)), .val (.int (1 : Int32)), .unset, .unset, .unset] [])) _
    refine XS.iconst X34.here hx rfl (hb hby at_163) ?_
    show Steps p.tables e below (T34.setTop (mkF m 164 #[.val (.long q1), .second, .val (.long q2), .second, .val (.long q3), .second, .val (.long q4), .second, .val (.int p5), .val (.ref sid), .val (.ref b10), .val (.ref b12), .val (.ref b14), .val (.ref b16), .val (.ref b18), .val (.long ((q1 - q2) + q3)), .second, .val (.long ((q1 - (0 : Int64)) + (0 : Int64))), .second, .val (.long (((0 : Int64) - q2) + (0 : Int64))), .second, .val (.long (((0 : Int64) - (0 : Int64)) + q3)), .second, .val (.long (((q1 + q4) - (q2 + q4)) + q3)), .second, .val (.int (1 : Int32)), .val (.int (1 : Int32)), .unset, .unset, .unset] [(.int (1 : Int32))])) _
    refine XS.goto X34.here hx rfl (pc0 := 164) (pc' := 168) rfl (hb hby at_164) (by decide) (by decide) ?_
    show Steps p.tables e below (T34.setTop (mkF m 168 #[.val (.long q1), .second, .val (.long q2), .second, .val (.long q3), .second, .val (.long q4), .second, .val (.int p5), .val (.ref sid), .val (.ref b10), .val (.ref b12), .val (.ref b14), .val (.ref b16), .val (.ref b18), .val (.long ((q1 - q2) + q3)), .second, .val (.long ((q1 - (0 : Int64)) + (0 : Int64))), .second, .val (.long (((0 : Int64) - q2) + (0 : Int64))), .second, .val (.long (((0 : Int64) - (0 : Int64)) + q3)), .second, .val (.long (((q1 + q4) - (q2 + q4)) + q3)), .second, .val (.int (1 : Int32)), .val (.int (1 : Int32)), .unset, .unset, .unset] [(.int (1 : Int32))])) _
    refine XS.istore X34.here hx rfl (hb hby at_168) rfl (l' := #[.val (.long q1), .second, .val (.long q2), .second, .val (.long q3), .second, .val (.long q4), .second, .val (.int p5), .val (.ref sid), .val (.ref b10), .val (.ref b12), .val (.ref b14), .val (.ref b16), .val (.ref b18), .val (.long ((q1 - q2) + q3)), .second, .val (.long ((q1 - (0 : Int64)) + (0 : Int64))), .second, .val (.long (((0 : Int64) - q2) + (0 : Int64))), .second, .val (.long (((0 : Int64) - (0 : Int64)) + q3)), .second, .val (.long (((q1 + q4) - (q2 + q4)) + q3)), .second, .val (.int (1 : Int32)), .val (.int (1 : Int32)), .val (.int (1 : Int32)), .unset, .unset]) rfl ?_
    show Steps p.tables e below (T34.setTop (mkF m 170 #[.val (.long q1), .second, .val (.long q2), .second, .val (.long q3), .second, .val (.long q4), .second, .val (.int p5), .val (.ref sid), .val (.ref b10), .val (.ref b12), .val (.ref b14), .val (.ref b16), .val (.ref b18), .val (.long ((q1 - q2) + q3)), .second, .val (.long ((q1 - (0 : Int64)) + (0 : Int64))), .second, .val (.long (((0 : Int64) - q2) + (0 : Int64))), .second, .val (.long (((0 : Int64) - (0 : Int64)) + q3)), .second, .val (.long (((q1 + q4) - (q2 + q4)) + q3)), .second, .val (.int (1 : Int32)), .val (.int (1 : Int32)), .val (.int (1 : Int32)), .unset, .unset] [])) _
    refine XS.lload X34.here hx rfl (hb hby at_170) rfl ?_
    show Steps p.tables e below (T34.setTop (mkF m 172 #[.val (.long q1), .second, .val (.long q2), .second, .val (.long q3), .second, .val (.long q4), .second, .val (.int p5), .val (.ref sid), .val (.ref b10), .val (.ref b12), .val (.ref b14), .val (.ref b16), .val (.ref b18), .val (.long ((q1 - q2) + q3)), .second, .val (.long ((q1 - (0 : Int64)) + (0 : Int64))), .second, .val (.long (((0 : Int64) - q2) + (0 : Int64))), .second, .val (.long (((0 : Int64) - (0 : Int64)) + q3)), .second, .val (.long (((q1 + q4) - (q2 + q4)) + q3)), .second, .val (.int (1 : Int32)), .val (.int (1 : Int32)), .val (.int (1 : Int32)), .unset, .unset] [(.long ((q1 - q2) + q3))])) _
    refine XS.lload X34.here hx rfl (hb hby at_172) rfl ?_
    show Steps p.tables e below (T34.setTop (mkF m 174 #[.val (.long q1), .second, .val (.long q2), .second, .val (.long q3), .second, .val (.long q4), .second, .val (.int p5), .val (.ref sid), .val (.ref b10), .val (.ref b12), .val (.ref b14), .val (.ref b16), .val (.ref b18), .val (.long ((q1 - q2) + q3)), .second, .val (.long ((q1 - (0 : Int64)) + (0 : Int64))), .second, .val (.long (((0 : Int64) - q2) + (0 : Int64))), .second, .val (.long (((0 : Int64) - (0 : Int64)) + q3)), .second, .val (.long (((q1 + q4) - (q2 + q4)) + q3)), .second, .val (.int (1 : Int32)), .val (.int (1 : Int32)), .val (.int (1 : Int32)), .unset, .unset] [(.long ((q1 - (0 : Int64)) + (0 : Int64))), (.long ((q1 - q2) + q3))])) _
    refine XS.lload X34.here hx rfl (hb hby at_174) rfl ?_
    show Steps p.tables e below (T34.setTop (mkF m 176 #[.val (.long q1), .second, .val (.long q2), .second, .val (.long q3), .second, .val (.long q4), .second, .val (.int p5), .val (.ref sid), .val (.ref b10), .val (.ref b12), .val (.ref b14), .val (.ref b16), .val (.ref b18), .val (.long ((q1 - q2) + q3)), .second, .val (.long ((q1 - (0 : Int64)) + (0 : Int64))), .second, .val (.long (((0 : Int64) - q2) + (0 : Int64))), .second, .val (.long (((0 : Int64) - (0 : Int64)) + q3)), .second, .val (.long (((q1 + q4) - (q2 + q4)) + q3)), .second, .val (.int (1 : Int32)), .val (.int (1 : Int32)), .val (.int (1 : Int32)), .unset, .unset] [(.long (((0 : Int64) - q2) + (0 : Int64))), (.long ((q1 - (0 : Int64)) + (0 : Int64))), (.long ((q1 - q2) + q3))])) _
    refine XS.ladd X34.here hx rfl (hb hby at_176) rfl ?_
    show Steps p.tables e below (T34.setTop (mkF m 177 #[.val (.long q1), .second, .val (.long q2), .second, .val (.long q3), .second, .val (.long q4), .second, .val (.int p5), .val (.ref sid), .val (.ref b10), .val (.ref b12), .val (.ref b14), .val (.ref b16), .val (.ref b18), .val (.long ((q1 - q2) + q3)), .second, .val (.long ((q1 - (0 : Int64)) + (0 : Int64))), .second, .val (.long (((0 : Int64) - q2) + (0 : Int64))), .second, .val (.long (((0 : Int64) - (0 : Int64)) + q3)), .second, .val (.long (((q1 + q4) - (q2 + q4)) + q3)), .second, .val (.int (1 : Int32)), .val (.int (1 : Int32)), .val (.int (1 : Int32)), .unset, .unset] [(.long (((q1 - (0 : Int64)) + (0 : Int64)) + (((0 : Int64) - q2) + (0 : Int64)))), (.long ((q1 - q2) + q3))])) _
    refine XS.lload X34.here hx rfl (hb hby at_177) rfl ?_
    show Steps p.tables e below (T34.setTop (mkF m 179 #[.val (.long q1), .second, .val (.long q2), .second, .val (.long q3), .second, .val (.long q4), .second, .val (.int p5), .val (.ref sid), .val (.ref b10), .val (.ref b12), .val (.ref b14), .val (.ref b16), .val (.ref b18), .val (.long ((q1 - q2) + q3)), .second, .val (.long ((q1 - (0 : Int64)) + (0 : Int64))), .second, .val (.long (((0 : Int64) - q2) + (0 : Int64))), .second, .val (.long (((0 : Int64) - (0 : Int64)) + q3)), .second, .val (.long (((q1 + q4) - (q2 + q4)) + q3)), .second, .val (.int (1 : Int32)), .val (.int (1 : Int32)), .val (.int (1 : Int32)), .unset, .unset] [(.long (((0 : Int64) - (0 : Int64)) + q3)), (.long (((q1 - (0 : Int64)) + (0 : Int64)) + (((0 : Int64) - q2) + (0 : Int64)))), (.long ((q1 - q2) + q3))])) _
    refine XS.ladd X34.here hx rfl (hb hby at_179) rfl ?_
    show Steps p.tables e below (T34.setTop (mkF m 180 #[.val (.long q1), .second, .val (.long q2), .second, .val (.long q3), .second, .val (.long q4), .second, .val (.int p5), .val (.ref sid), .val (.ref b10), .val (.ref b12), .val (.ref b14), .val (.ref b16), .val (.ref b18), .val (.long ((q1 - q2) + q3)), .second, .val (.long ((q1 - (0 : Int64)) + (0 : Int64))), .second, .val (.long (((0 : Int64) - q2) + (0 : Int64))), .second, .val (.long (((0 : Int64) - (0 : Int64)) + q3)), .second, .val (.long (((q1 + q4) - (q2 + q4)) + q3)), .second, .val (.int (1 : Int32)), .val (.int (1 : Int32)), .val (.int (1 : Int32)), .unset, .unset] [(.long ((((q1 - (0 : Int64)) + (0 : Int64)) + (((0 : Int64) - q2) + (0 : Int64))) + (((0 : Int64) - (0 : Int64)) + q3))), (.long ((q1 - q2) + q3))])) _
    refine XS.lcmp X34.here hx rfl (hb hby at_180) rfl ?_
    show Steps p.tables e below (T34.setTop (mkF m 181 #[.val (.long q1), .second, .val (.long q2), .second, .val (.long q3), .second, .val (.long q4), .second, .val (.int p5), .val (.ref sid), .val (.ref b10), .val (.ref b12), .val (.ref b14), .val (.ref b16), .val (.ref b18), .val (.long ((q1 - q2) + q3)), .second, .val (.long ((q1 - (0 : Int64)) + (0 : Int64))), .second, .val (.long (((0 : Int64) - q2) + (0 : Int64))), .second, .val (.long (((0 : Int64) - (0 : Int64)) + q3)), .second, .val (.long (((q1 + q4) - (q2 + q4)) + q3)), .second, .val (.int (1 : Int32)), .val (.int (1 : Int32)), .val (.int (1 : Int32)), .unset, .unset] [(.int (lcmpW ((q1 - q2) + q3) ((((q1 - (0 : Int64)) + (0 : Int64)) + (((0 : Int64) - q2) + (0 : Int64))) + (((0 : Int64) - (0 : Int64)) + q3))))])) _
    refine XS.ifNo X34.here hx rfl (hb hby at_181) rfl ((if0 _ _).trans (teq ((lw_eq ((q1 - q2) + q3) ((((q1 - (0 : Int64)) + (0 : Int64)) + (((0 : Int64) - q2) + (0 : Int64))) + (((0 : Int64) - (0 : Int64)) + q3))).mpr (own_l4 q1 q2 q3))).2) ?_
    show Steps p.tables e below (T34.setTop (mkF m 184 #[.val (.long q1), .second, .val (.long q2), .second, .val (.long q3), .second, .val (.long q4), .second, .val (.int p5), .val (.ref sid), .val (.ref b10), .val (.ref b12), .val (.ref b14), .val (.ref b16), .val (.ref b18), .val (.long ((q1 - q2) + q3)), .second, .val (.long ((q1 - (0 : Int64)) + (0 : Int64))), .second, .val (.long (((0 : Int64) - q2) + (0 : Int64))), .second, .val (.long (((0 : Int64) - (0 : Int64)) + q3)), .second, .val (.long (((q1 + q4) - (q2 + q4)) + q3)), .second, .val (.int (1 : Int32)), .val (.int (1 : Int32)), .val (.int (1 : Int32)), .unset, .unset] [])) _
    refine XS.iconst X34.here hx rfl (hb hby at_184) ?_
    show Steps p.tables e below (T34.setTop (mkF m 185 #[.val (.long q1), .second, .val (.long q2), .second, .val (.long q3), .second, .val (.long q4), .second, .val (.int p5), .val (.ref sid), .val (.ref b10), .val (.ref b12), .val (.ref b14), .val (.ref b16), .val (.ref b18), .val (.long ((q1 - q2) + q3)), .second, .val (.long ((q1 - (0 : Int64)) + (0 : Int64))), .second, .val (.long (((0 : Int64) - q2) + (0 : Int64))), .second, .val (.long (((0 : Int64) - (0 : Int64)) + q3)), .second, .val (.long (((q1 + q4) - (q2 + q4)) + q3)), .second, .val (.int (1 : Int32)), .val (.int (1 : Int32)), .val (.int (1 : Int32)), .unset, .unset] [(.int (1 : Int32))])) _
    refine XS.goto X34.here hx rfl (pc0 := 185) (pc' := 189) rfl (hb hby at_185) (by decide) (by decide) ?_
    show Steps p.tables e below (T34.setTop (mkF m 189 #[.val (.long q1), .second, .val (.long q2), .second, .val (.long q3), .second, .val (.long q4), .second, .val (.int p5), .val (.ref sid), .val (.ref b10), .val (.ref b12), .val (.ref b14), .val (.ref b16), .val (.ref b18), .val (.long ((q1 - q2) + q3)), .second, .val (.long ((q1 - (0 : Int64)) + (0 : Int64))), .second, .val (.long (((0 : Int64) - q2) + (0 : Int64))), .second, .val (.long (((0 : Int64) - (0 : Int64)) + q3)), .second, .val (.long (((q1 + q4) - (q2 + q4)) + q3)), .second, .val (.int (1 : Int32)), .val (.int (1 : Int32)), .val (.int (1 : Int32)), .unset, .unset] [(.int (1 : Int32))])) _
    refine XS.istore X34.here hx rfl (hb hby at_189) rfl (l' := #[.val (.long q1), .second, .val (.long q2), .second, .val (.long q3), .second, .val (.long q4), .second, .val (.int p5), .val (.ref sid), .val (.ref b10), .val (.ref b12), .val (.ref b14), .val (.ref b16), .val (.ref b18), .val (.long ((q1 - q2) + q3)), .second, .val (.long ((q1 - (0 : Int64)) + (0 : Int64))), .second, .val (.long (((0 : Int64) - q2) + (0 : Int64))), .second, .val (.long (((0 : Int64) - (0 : Int64)) + q3)), .second, .val (.long (((q1 + q4) - (q2 + q4)) + q3)), .second, .val (.int (1 : Int32)), .val (.int (1 : Int32)), .val (.int (1 : Int32)), .val (.int (1 : Int32)), .unset]) rfl ?_
    show Steps p.tables e below (T34.setTop (mkF m 191 #[.val (.long q1), .second, .val (.long q2), .second, .val (.long q3), .second, .val (.long q4), .second, .val (.int p5), .val (.ref sid), .val (.ref b10), .val (.ref b12), .val (.ref b14), .val (.ref b16), .val (.ref b18), .val (.long ((q1 - q2) + q3)), .second, .val (.long ((q1 - (0 : Int64)) + (0 : Int64))), .second, .val (.long (((0 : Int64) - q2) + (0 : Int64))), .second, .val (.long (((0 : Int64) - (0 : Int64)) + q3)), .second, .val (.long (((q1 + q4) - (q2 + q4)) + q3)), .second, .val (.int (1 : Int32)), .val (.int (1 : Int32)), .val (.int (1 : Int32)), .val (.int (1 : Int32)), .unset] [])) _
    refine XS.lload X34.here hx rfl (hb hby at_191) rfl ?_
    show Steps p.tables e below (T34.setTop (mkF m 193 #[.val (.long q1), .second, .val (.long q2), .second, .val (.long q3), .second, .val (.long q4), .second, .val (.int p5), .val (.ref sid), .val (.ref b10), .val (.ref b12), .val (.ref b14), .val (.ref b16), .val (.ref b18), .val (.long ((q1 - q2) + q3)), .second, .val (.long ((q1 - (0 : Int64)) + (0 : Int64))), .second, .val (.long (((0 : Int64) - q2) + (0 : Int64))), .second, .val (.long (((0 : Int64) - (0 : Int64)) + q3)), .second, .val (.long (((q1 + q4) - (q2 + q4)) + q3)), .second, .val (.int (1 : Int32)), .val (.int (1 : Int32)), .val (.int (1 : Int32)), .val (.int (1 : Int32)), .unset] [(.long (((q1 + q4) - (q2 + q4)) + q3))])) _
    refine XS.lload X34.here hx rfl (hb hby at_193) rfl ?_
    show Steps p.tables e below (T34.setTop (mkF m 195 #[.val (.long q1), .second, .val (.long q2), .second, .val (.long q3), .second, .val (.long q4), .second, .val (.int p5), .val (.ref sid), .val (.ref b10), .val (.ref b12), .val (.ref b14), .val (.ref b16), .val (.ref b18), .val (.long ((q1 - q2) + q3)), .second, .val (.long ((q1 - (0 : Int64)) + (0 : Int64))), .second, .val (.long (((0 : Int64) - q2) + (0 : Int64))), .second, .val (.long (((0 : Int64) - (0 : Int64)) + q3)), .second, .val (.long (((q1 + q4) - (q2 + q4)) + q3)), .second, .val (.int (1 : Int32)), .val (.int (1 : Int32)), .val (.int (1 : Int32)), .val (.int (1 : Int32)), .unset] [(.long ((q1 - q2) + q3)), (.long (((q1 + q4) - (q2 + q4)) + q3))])) _
    refine XS.lcmp X34.here hx rfl (hb hby at_195) rfl ?_
    show Steps p.tables e below (T34.setTop (mkF m 196 #[.val (.long q1), .second, .val (.long q2), .second, .val (.long q3), .second, .val (.long q4), .second, .val (.int p5), .val (.ref sid), .val (.ref b10), .val (.ref b12), .val (.ref b14), .val (.ref b16), .val (.ref b18), .val (.long ((q1 - q2) + q3)), .second, .val (.long ((q1 - (0 : Int64)) + (0 : Int64))), .second, .val (.long (((0 : Int64) - q2) + (0 : Int64))), .second, .val (.long (((0 : Int64) - (0 : Int64)) + q3)), .second, .val (.long (((q1 + q4) - (q2 + q4)) + q3)), .second, .val (.int (1 : Int32)), .val (.int (1 : Int32)), .val (.int (1 : Int32)), .val (.int (1 : Int32)), .unset] [(.int (lcmpW (((q1 + q4) - (q2 + q4)) + q3) ((q1 - q2) + q3)))])) _
    refine XS.ifNo X34.here hx rfl (hb hby at_196) rfl ((if0 _ _).trans (teq ((lw_eq (((q1 + q4) - (q2 + q4)) + q3) ((q1 - q2) + q3)).mpr (own_l5 q1 q2 q3 q4))).2) ?_
    show Steps p.tables e below (T34.setTop (mkF m 199 #[.val (.long q1), .second, .val (.long q2), .second, .val (.long q3), .second, .val (.long q4), .second, .val (.int p5), .val (.ref sid), .val (.ref b10), .val (.ref b12), .val (.ref b14), .val (.ref b16), .val (.ref b18), .val (.long ((q1 - q2) + q3)), .second, .val (.long ((q1 - (0 : Int64)) + (0 : Int64))), .second, .val (.long (((0 : Int64) - q2) + (0 : Int64))), .second, .val (.long (((0 : Int64) - (0 : Int64)) + q3)), .second, .val (.long (((q1 + q4) - (q2 + q4)) + q3)), .second, .val (.int (1 : Int32)), .val (.int (1 : Int32)), .val (.int (1 : Int32)), .val (.int (1 : Int32)), .unset] [])) _
    refine XS.iconst X34.here hx rfl (hb hby at_199) ?_
    show Steps p.tables e below (T34.setTop (mkF m 200 #[.val (.long q1), .second, .val (.long q2), .second, .val (.long q3), .second, .val (.long q4), .second, .val (.int p5), .val (.ref sid), .val (.ref b10), .val (.ref b12), .val (.ref b14), .val (.ref b16), .val (.ref b18), .val (.long ((q1 - q2) + q3)), .second, .val (.long ((q1 - (0 : Int64)) + (0 : Int64))), .second, .val (.long (((0 : Int64) - q2) + (0 : Int64))), .second, .val (.long (((0 : Int64) - (0 : Int64)) + q3)), .second, .val (.long (((q1 + q4) - (q2 + q4)) + q3)), .second, .val (.int (1 : Int32)), .val (.int (1 : Int32)), .val (.int (1 : Int32)), .val (.int (1 : Int32)), .unset] [(.int (1 : Int32))])) _
    refine XS.goto X34.here hx rfl (pc0 := 200) (pc' := 204) rfl (hb hby at_200) (by decide) (by decide) ?_
    show Steps p.tables e below (T34.setTop (mkF m 204 #[.val (.long q1), .second, .val (.long q2), .second, .val (.long q3), .second, .val (.long q4), .second, .val (.int p5), .val (.ref sid), .val (.ref b10), .val (.ref b12), .val (.ref b14), .val (.ref b16), .val (.ref b18), .val (.long ((q1 - q2) + q3)), .second, .val (.long ((q1 - (0 : Int64)) + (0 : Int64))), .second, .val (.long (((0 : Int64) - q2) + (0 : Int64))), .second, .val (.long (((0 : Int64) - (0 : Int64)) + q3)), .second, .val (.long (((q1 + q4) - (q2 + q4)) + q3)), .second, .val (.int (1 : Int32)), .val (.int (1 : Int32)), .val (.int (1 : Int32)), .val (.int (1 : Int32)), .unset] [(.int (1 : Int32))])) _
    refine XS.istore X34.here hx rfl (hb hby at_204) rfl (l' := #[.val (.long q1), .second, .val (.long q2), .second, .val (.long q3), .second, .val (.long q4), .second, .val (.int p5), .val (.ref sid), .val (.ref b10), .val (.ref b12), .val (.ref b14), .val (.ref b16), .val (.ref b18), .val (.long ((q1 - q2) + q3)), .second, .val (.long ((q1 - (0 : Int64)) + (0 : Int64))), .second, .val (.long (((0 : Int64) - q2) + (0 : Int64))), .second, .val (.long (((0 : Int64) - (0 : Int64)) + q3)), .second, .val (.long (((q1 + q4) - (q2 + q4)) + q3)), .second, .val (.int (1 : Int32)), .val (.int (1 : Int32)), .val (.int (1 : Int32)), .val (.int (1 : Int32)), .val (.int (1 : Int32))]) rfl ?_
    show Steps p.tables e below (T34.setTop (mkF m 206 #[.val (.long q1), .second, .val (.long q2), .second, .val (.long q3), .second, .val (.long q4), .second, .val (.int p5), .val (.ref sid), .val (.ref b10), .val (.ref b12), .val (.ref b14), .val (.ref b16), .val (.ref b18), .val (.long ((q1 - q2) + q3)), .second, .val (.long ((q1 - (0 : Int64)) + (0 : Int64))), .second, .val (.long (((0 : Int64) - q2) + (0 : Int64))), .second, .val (.long (((0 : Int64) - (0 : Int64)) + q3)), .second, .val (.long (((q1 + q4) - (q2 + q4)) + q3)), .second, .val (.int (1 : Int32)), .val (.int (1 : Int32)), .val (.int (1 : Int32)), .val (.int (1 : Int32)), .val (.int (1 : Int32))] [])) _
    refine XS.iload X34.here hx rfl (hb hby at_206) rfl ?_
    show Steps p.tables e below (T34.setTop (mkF m 208 #[.val (.long q1), .second, .val (.long q2), .second, .val (.long q3), .second, .val (.long q4), .second, .val (.int p5), .val (.ref sid), .val (.ref b10), .val (.ref b12), .val (.ref b14), .val (.ref b16), .val (.ref b18), .val (.long ((q1 - q2) + q3)), .second, .val (.long ((q1 - (0 : Int64)) + (0 : Int64))), .second, .val (.long (((0 : Int64) - q2) + (0 : Int64))), .second, .val (.long (((0 : Int64) - (0 : Int64)) + q3)), .second, .val (.long (((q1 + q4) - (q2 + q4)) + q3)), .second, .val (.int (1 : Int32)), .val (.int (1 : Int32)), .val (.int (1 : Int32)), .val (.int (1 : Int32)), .val (.int (1 : Int32))] [(.int (1 : Int32))])) _
    refine XS.ifNo X34.here hx rfl (hb hby at_208) rfl ((if0 _ _).trans (feq (show ¬ ((1 : Int32) = (0 : Int32)) from by decide)).1) ?_
    show Steps p.tables e below (T34.setTop (mkF m 211 #[.val (.long q1), .second, .val (.long q2), .second, .val (.long q3), .second, .val (.long q4), .second, .val (.int p5), .val (.ref sid), .val (.ref b10), .val (.ref b12), .val (.ref b14), .val (.ref b16), .val (.ref b18), .val (.long ((q1 - q2) + q3)), .second, .val (.long ((q1 - (0 : Int64)) + (0 : Int64))), .second, .val (.long (((0 : Int64) - q2) + (0 : Int64))), .second, .val (.long (((0 : Int64) - (0 : Int64)) + q3)), .second, .val (.long (((q1 + q4) - (q2 + q4)) + q3)), .second, .val (.int (1 : Int32)), .val (.int (1 : Int32)), .val (.int (1 : Int32)), .val (.int (1 : Int32)), .val (.int (1 : Int32))] [])) _
    refine XS.iload X34.here hx rfl (hb hby at_211) rfl ?_
    show Steps p.tables e below (T34.setTop (mkF m 213 #[.val (.long q1), .second, .val (.long q2), .second, .val (.long q3), .second, .val (.long q4), .second, .val (.int p5), .val (.ref sid), .val (.ref b10), .val (.ref b12), .val (.ref b14), .val (.ref b16), .val (.ref b18), .val (.long ((q1 - q2) + q3)), .second, .val (.long ((q1 - (0 : Int64)) + (0 : Int64))), .second, .val (.long (((0 : Int64) - q2) + (0 : Int64))), .second, .val (.long (((0 : Int64) - (0 : Int64)) + q3)), .second, .val (.long (((q1 + q4) - (q2 + q4)) + q3)), .second, .val (.int (1 : Int32)), .val (.int (1 : Int32)), .val (.int (1 : Int32)), .val (.int (1 : Int32)), .val (.int (1 : Int32))] [(.int (1 : Int32))])) _
    refine XS.ifNo X34.here hx rfl (hb hby at_213) rfl ((if0 _ _).trans (feq (show ¬ ((1 : Int32) = (0 : Int32)) from by decide)).1) ?_
    show Steps p.tables e below (T34.setTop (mkF m 216 #[.val (.long q1), .second, .val (.long q2), .second, .val (.long q3), .second, .val (.long q4), .second, .val (.int p5), .val (.ref sid), .val (.ref b10), .val (.ref b12), .val (.ref b14), .val (.ref b16), .val (.ref b18), .val (.long ((q1 - q2) + q3)), .second, .val (.long ((q1 - (0 : Int64)) + (0 : Int64))), .second, .val (.long (((0 : Int64) - q2) + (0 : Int64))), .second, .val (.long (((0 : Int64) - (0 : Int64)) + q3)), .second, .val (.long (((q1 + q4) - (q2 + q4)) + q3)), .second, .val (.int (1 : Int32)), .val (.int (1 : Int32)), .val (.int (1 : Int32)), .val (.int (1 : Int32)), .val (.int (1 : Int32))] [])) _
    refine XS.iload X34.here hx rfl (hb hby at_216) rfl ?_
    show Steps p.tables e below (T34.setTop (mkF m 218 #[.val (.long q1), .second, .val (.long q2), .second, .val (.long q3), .second, .val (.long q4), .second, .val (.int p5), .val (.ref sid), .val (.ref b10), .val (.ref b12), .val (.ref b14), .val (.ref b16), .val (.ref b18), .val (.long ((q1 - q2) + q3)), .second, .val (.long ((q1 - (0 : Int64)) + (0 : Int64))), .second, .val (.long (((0 : Int64) - q2) + (0 : Int64))), .second, .val (.long (((0 : Int64) - (0 : Int64)) + q3)), .second, .val (.long (((q1 + q4) - (q2 + q4)) + q3)), .second, .val (.int (1 : Int32)), .val (.int (1 : Int32)), .val (.int (1 : Int32)), .val (.int (1 : Int32)), .val (.int (1 : Int32))] [(.int (1 : Int32))])) _
    refine XS.ifNo X34.here hx rfl (hb hby at_218) rfl ((if0 _ _).trans (feq (show ¬ ((1 : Int32) = (0 : Int32)) from by decide)).1) ?_
    show Steps p.tables e below (T34.setTop (mkF m 221 #[.val (.long q1), .second, .val (.long q2), .second, .val (.long q3), .second, .val (.long q4), .second, .val (.int p5), .val (.ref sid), .val (.ref b10), .val (.ref b12), .val (.ref b14), .val (.ref b16), .val (.ref b18), .val (.long ((q1 - q2) + q3)), .second, .val (.long ((q1 - (0 : Int64)) + (0 : Int64))), .second, .val (.long (((0 : Int64) - q2) + (0 : Int64))), .second, .val (.long (((0 : Int64) - (0 : Int64)) + q3)), .second, .val (.long (((q1 + q4) - (q2 + q4)) + q3)), .second, .val (.int (1 : Int32)), .val (.int (1 : Int32)), .val (.int (1 : Int32)), .val (.int (1 : Int32)), .val (.int (1 : Int32))] [])) _
    refine XS.iload X34.here hx rfl (hb hby at_221) rfl ?_
    show Steps p.tables e below (T34.setTop (mkF m 223 #[.val (.long q1), .second, .val (.long q2), .second, .val (.long q3), .second, .val (.long q4), .second, .val (.int p5), .val (.ref sid), .val (.ref b10), .val (.ref b12), .val (.ref b14), .val (.ref b16), .val (.ref b18), .val (.long ((q1 - q2) + q3)), .second, .val (.long ((q1 - (0 : Int64)) + (0 : Int64))), .second, .val (.long (((0 : Int64) - q2) + (0 : Int64))), .second, .val (.long (((0 : Int64) - (0 : Int64)) + q3)), .second, .val (.long (((q1 + q4) - (q2 + q4)) + q3)), .second, .val (.int (1 : Int32)), .val (.int (1 : Int32)), .val (.int (1 : Int32)), .val (.int (1 : Int32)), .val (.int (1 : Int32))] [(.int (1 : Int32))])) _
    refine XS.ifNo X34.here hx rfl (hb hby at_223) rfl ((if0 _ _).trans (feq (show ¬ ((1 : Int32) = (0 : Int32)) from by decide)).1) ?_
    show Steps p.tables e below (T34.setTop (mkF m 226 #[.val (.long q1), .second, .val (.long q2), .second, .val (.long q3), .second, .val (.long q4), .second, .val (.int p5), .val (.ref sid), .val (.ref b10), .val (.ref b12), .val (.ref b14), .val (.ref b16), .val (.ref b18), .val (.long ((q1 - q2) + q3)), .second, .val (.long ((q1 - (0 : Int64)) + (0 : Int64))), .second, .val (.long (((0 : Int64) - q2) + (0 : Int64))), .second, .val (.long (((0 : Int64) - (0 : Int64)) + q3)), .second, .val (.long (((q1 + q4) - (q2 + q4)) + q3)), .second, .val (.int (1 : Int32)), .val (.int (1 : Int32)), .val (.int (1 : Int32)), .val (.int (1 : Int32)), .val (.int (1 : Int32))] [])) _
    refine XS.iload X34.here hx rfl (hb hby at_226) rfl ?_
    show Steps p.tables e below (T34.setTop (mkF m 228 #[.val (.long q1), .second, .val (.long q2), .second, .val (.long q3), .second, .val (.long q4), .second, .val (.int p5), .val (.ref sid), .val (.ref b10), .val (.ref b12), .val (.ref b14), .val (.ref b16), .val (.ref b18), .val (.long ((q1 - q2) + q3)), .second, .val (.long ((q1 - (0 : Int64)) + (0 : Int64))), .second, .val (.long (((0 : Int64) - q2) + (0 : Int64))), .second, .val (.long (((0 : Int64) - (0 : Int64)) + q3)), .second, .val (.long (((q1 + q4) - (q2 + q4)) + q3)), .second, .val (.int (1 : Int32)), .val (.int (1 : Int32)), .val (.int (1 : Int32)), .val (.int (1 : Int32)), .val (.int (1 : Int32))] [(.int (1 : Int32))])) _
    refine XS.ifNo X34.here hx rfl (hb hby at_228) rfl ((if0 _ _).trans (feq (show ¬ ((1 : Int32) = (0 : Int32)) from by decide)).1) ?_
    show Steps p.tables e below (T34.setTop (mkF m 231 #[.val (.long q1), .second, .val (.long q2), .second, .val (.long q3), .second, .val (.long q4), .second, .val (.int p5), .val (.ref sid), .val (.ref b10), .val (.ref b12), .val (.ref b14), .val (.ref b16), .val (.ref b18), .val (.long ((q1 - q2) + q3)), .second, .val (.long ((q1 - (0 : Int64)) + (0 : Int64))), .second, .val (.long (((0 : Int64) - q2) + (0 : Int64))), .second, .val (.long (((0 : Int64) - (0 : Int64)) + q3)), .second, .val (.long (((q1 + q4) - (q2 + q4)) + q3)), .second, .val (.int (1 : Int32)), .val (.int (1 : Int32)), .val (.int (1 : Int32)), .val (.int (1 : Int32)), .val (.int (1 : Int32))] [])) _
    refine XS.iconst X34.here hx rfl (hb hby at_231) ?_
    show Steps p.tables e below (T34.setTop (mkF m 232 #[.val (.long q1), .second, .val (.long q2), .second, .val (.long q3), .second, .val (.long q4), .second, .val (.int p5), .val (.ref sid), .val (.ref b10), .val (.ref b12), .val (.ref b14), .val (.ref b16), .val (.ref b18), .val (.long ((q1 - q2) + q3)), .second, .val (.long ((q1 - (0 : Int64)) + (0 : Int64))), .second, .val (.long (((0 : Int64) - q2) + (0 : Int64))), .second, .val (.long (((0 : Int64) - (0 : Int64)) + q3)), .second, .val (.long (((q1 + q4) - (q2 + q4)) + q3)), .second, .val (.int (1 : Int32)), .val (.int (1 : Int32)), .val (.int (1 : Int32)), .val (.int (1 : Int32)), .val (.int (1 : Int32))] [(.int (1 : Int32))])) _
    refine XS.goto X34.here hx rfl (pc0 := 232) (pc' := 236) rfl (hb hby at_232) (by decide) (by decide) ?_
    show Steps p.tables e below (T34.setTop (mkF m 236 #[.val (.long q1), .second, .val (.long q2), .second, .val (.long q3), .second, .val (.long q4), .second, .val (.int p5), .val (.ref sid), .val (.ref b10), .val (.ref b12), .val (.ref b14), .val (.ref b16), .val (.ref b18), .val (.long ((q1 - q2) + q3)), .second, .val (.long ((q1 - (0 : Int64)) + (0 : Int64))), .second, .val (.long (((0 : Int64) - q2) + (0 : Int64))), .second, .val (.long (((0 : Int64) - (0 : Int64)) + q3)), .second, .val (.long (((q1 + q4) - (q2 + q4)) + q3)), .second, .val (.int (1 : Int32)), .val (.int (1 : Int32)), .val (.int (1 : Int32)), .val (.int (1 : Int32)), .val (.int (1 : Int32))] [(.int (1 : Int32))])) _
    exact retN X34 hx (t := .boolean) Bd.returns (by simp) (hb hby at_236) hr
  · show Q0 Z q1 q2 q3 q4 p5 h0 n0 _ T34.heap _
    exact ⟨rfl, N34⟩
set_option maxRecDepth 65536 in
set_option maxHeartbeats 40000000 in
theorem comes_1 {Post : Tables → Env → Array Value → State → Outcome → State → Prop} (hpost : ∀ tb e args s v u, (limb_1_1.after args s (.returned v) u = true ∧ limb_1_2.after args s (.returned v) u = true ∧ True) → FrameEnd s (.returned v) u (Jvm.fieldLocs frame_1_writes args s ++ Jvm.arrayLocs frame_1_arrays args s ++ Jvm.staticLocs frame_1_statics s) 24 128 → Post tb e args s (.returned v) u) :
    ArmFor flags0 classFile x code maxLocals ret World_1 tables_1 room_1 Calls_1 rest_1 Pre_1 Post := by
  intro l hfl _ _ p e ha hc hk s m args below hf hA hF happ hP
  obtain ⟨hcalls, hrest, hpre⟩ := hP
  obtain ⟨-, -, -, hnamed, -, -, -, hat⟩ := (Spec.applies_iff hf).mp happ
  obtain ⟨hg, hn⟩ := and_e (Cond.before_iff.mp (show (Jvm.Cond.and given_1 narrow_1).before args s = true from hpre))
  obtain ⟨gc, r0⟩ := and_e hg
  obtain ⟨k0, r1⟩ := and_e r0
  obtain ⟨k1, r2⟩ := and_e r1
  obtain ⟨k2, r3⟩ := and_e r2
  obtain ⟨k3, r4⟩ := and_e r3
  obtain ⟨w0, w1, w2, w3, w4, rfl⟩ : ∃ w0 w1 w2 w3 w4 : Value, args = #[w0, w1, w2, w3, w4] := by
    have hs : args.size = 5 := by simpa [Cond.value, given_1] using gc
    obtain ⟨L⟩ := args
    match L, hs with
    | [w0, w1, w2, w3, w4], _ => exact ⟨w0, w1, w2, w3, w4, rfl⟩
  have hw := fun d (hd : d ∈ tables_1) => atoms_spec (ws := Jvm.Cond.code x code maxLocals ret :: tables_1) hat d (List.mem_cons_of_mem _ hd)
  obtain ⟨i0, ei0⟩ := isL_v k0
  obtain rfl : w0 = (.long i0) := Option.some.inj ei0
  obtain ⟨i1, ei1⟩ := isL_v k1
  obtain rfl : w1 = (.long i1) := Option.some.inj ei1
  obtain ⟨i2, ei2⟩ := isL_v k2
  obtain rfl : w2 = (.long i2) := Option.some.inj ei2
  obtain ⟨i3, ei3⟩ := isL_v k3
  obtain rfl : w3 = (.long i3) := Option.some.inj ei3
  obtain ⟨i4, ei4⟩ := is_v r4
  obtain rfl : w4 = (.int i4) := Option.some.inj ei4
  obtain ⟨hsets, hown0⟩ := atoms_of _ (rest_1_c_eq ▸ (show rest_1_c.before _ s = true from hrest))
  have n3 := not_v (Cond.before_iff.mp (hsets _ (List.mem_of_getElem? (i := 2) rfl)))
  obtain ⟨i7, e6⟩ := is_v (Cond.before_iff.mp (hsets _ (List.mem_of_getElem? (i := 1) rfl)))
  have S8 : Sta s s.heap "java/lang/String" "COMPACT_STRINGS" "Z" (.int i7) := Sta.start e6 (Or.inl (hsets _ (List.mem_of_getElem? (i := 0) rfl)))
  have c9 : ¬ (i7 = (0 : Int32)) := gotF (Cond.eq_ints e6 (Term.int_eval (0))) n3
  obtain ⟨n, o, h1, h2, h3, _, L, rfl, ⟨rfl, N⟩, hq⟩ := rm0 l s _ hw tables_1 i0 i1 i2 i3 i4 i7 s.heap s.heap.size (Nat.le_refl _) S8 c9 p e ha hc hk s m _ below hf ((Spec.applies_iff_loose hf).mp happ).1 ⟨rfl, State.Warmed39.refl s, rfl⟩ trivial
  refine ⟨n, _, h1, h2, h3, hpost _ _ _ _ _ _ ⟨Cond.after_iff.mpr rfl, Cond.after_iff.mpr (eq_i res_at (Term.int_eval (1)) rfl), trivial⟩ ⟨hq.1, hq.2.1, (hq.2.2.sift fun y hy => Or.inr (N y hy)).mono (by decide) (by decide)⟩⟩
theorem main_1_1 : Claimed_1_1 := comes_1 fun _ _ _ _ _ _ h hF => ⟨h.1, hF⟩
theorem main_1_2 : Claimed_1_2 := comes_1 fun _ _ _ _ _ _ h hF => ⟨h.2.1, hF⟩
end Jvm.Pilot.@@N@@
namespace Jvm.Pilot.@@N@@
open Jvm Jvm.ClassFile Sem Op Lib Jvm.Free Jvm.Stand Jvm.Pilot.@@N@@.Jvm.D
/-! MADE BY PROGRAM (witnessworld.py) out of the Statement's table words and the real class files: 16 classes; the members and pool entries that the words name. The judged class is class 1, her method 1. -/
namespace start1
open Jvm.ClassFile
def u (s : String) : CpInfo := .utf8 (stringToUtf16 s)
/-- a pool by its gaps: so many unusable entries, then the entry; so many at the end -/
def gap : Nat → List CpInfo → List CpInfo
  | 0, r => r
  | n + 1, r => .unusable :: gap n r
def poolList (es : List (Nat × CpInfo)) (last : Nat) : List CpInfo := es.foldr (fun e r => gap e.1 (e.2 :: r)) (gap last [])
def pool (es : List (Nat × CpInfo)) (last : Nat) : Array CpInfo := ⟨poolList es last⟩
def fileOf (pool : Array CpInfo) (this : Nat) (attrs : Array Attribute := #[]) (ms : Array MethodInfo := #[]) (fl : Nat := 33) (sup : Nat := 0) (ifs : Array Nat := #[]) (fds : Array FieldInfo := #[]) : ClassFile where
  minorVersion := 0
  majorVersion := 65
  constantPool := pool
  accessFlags := fl
  thisClass := this
  superClass := sup
  interfaces := ifs
  fields := fds
  methods := ms
  attributes := attrs
def plain (name : String) (sup : Option ClassId) : Class where
  name := name
  kind := .ordinary
  loader := none
  accessFlags := 33
  super := sup
  interfaces := #[]
  cf := none
  fields := #[]
  methods := #[]
  instanceTypes := #[]
  staticTypes := #[]
  resolved := #[]
  callSites := []
  init := .initialized
  statics := none
  mirror := none

def pool0 : Array CpInfo := pool [(5, u "<init>"), (0, u "()V"), (1, .class_ 10), (1, u "java/lang/Object")] 113

def k0c0 : Code := { maxStack := 0, maxLocals := 1, code := object_method_1_code, exceptionTable := #[], attributes := #[] }
def k0m0 : Method := { name := "<init>", desc := "()V", sig := { parameters := [], returnType := none }, accessFlags := 1, code := some k0c0 }
/-- java/lang/Object -/
def k0 : Class := { plain "java/lang/Object" none with
  accessFlags := 33
  interfaces := #[]
  cf := some (fileOf pool0 8 #[] #[{ accessFlags := 1, nameIndex := 5, descriptorIndex := 6, attributes := #[] }] 33 0 #[] #[])
  fields := #[]
  methods := #[k0m0]
  instanceTypes := #[]
  staticTypes := #[]
  resolved := Array.replicate 124 none
  statics := none }

def pool1 : Array CpInfo := pool [(2, .class_ 4), (1, u "java/lang/Object"), (0, u "<init>"), (0, u "()V"), (0, .methodref 8 9), (0, .class_ 10), (0, .nameAndType 11 12), (0, u "java/lang/String"), (0, u "valueOf"), (0, u "(C)Ljava/lang/String;"), (0, .class_ 14), (0, u "com/example/keelstone/keelstone/ledger/Account"), (0, .methodref 13 16), (0, .nameAndType 5 17), (0, u "(Ljava/lang/String;JJJ)V"), (0, .methodref 13 19), (0, .nameAndType 20 21), (0, u "available"), (0, u "()J"), (0, .class_ 23), (0, u "com/example/keelstone/keelstone/ledger/AccountAvailablePinLaw"), (2, u "law"), (0, u "(JJJJI)Z")] 3

def k1m0 : Method := { name := "<init>", desc := "()V", sig := { parameters := [], returnType := none }, accessFlags := 1, code := none }
def k1c1 : Code := { maxStack := 9, maxLocals := 30, code := code, exceptionTable := #[], attributes := #[] }
def k1m1 : Method := { name := "law", desc := "(JJJJI)Z", sig := { parameters := [.long, .long, .long, .long, .int], returnType := some .boolean }, accessFlags := 9, code := some k1c1 }
/-- com/example/keelstone/keelstone/ledger/AccountAvailablePinLaw -/
def k1 : Class := { plain "com/example/keelstone/keelstone/ledger/AccountAvailablePinLaw" (some 0) with
  accessFlags := 49
  interfaces := #[]
  cf := some (fileOf pool1 22 #[] #[{ accessFlags := 1, nameIndex := 5, descriptorIndex := 6, attributes := #[] }, { accessFlags := 9, nameIndex := 26, descriptorIndex := 27, attributes := #[] }] 49 2 #[] #[])
  fields := #[]
  methods := #[k1m0, k1m1]
  instanceTypes := #[]
  staticTypes := #[]
  resolved := Array.replicate 31 none
  statics := none }

def pool2 : Array CpInfo := pool [(1, .class_ 2), (0, u "java/io/Serializable"), (0, .class_ 4), (0, u "java/lang/Object")] 2

/-- java/io/Serializable -/
def k2 : Class := { plain "java/io/Serializable" (some 0) with
  accessFlags := 1537
  interfaces := #[]
  cf := some (fileOf pool2 1 #[] #[] 1537 3 #[] #[])
  fields := #[]
  methods := #[]
  instanceTypes := #[]
  staticTypes := #[]
  resolved := Array.replicate 7 none
  statics := none }

def pool3 : Array CpInfo := pool [(1, .class_ 2), (0, u "java/lang/Comparable"), (0, .class_ 4), (0, u "java/lang/Object")] 7

/-- java/lang/Comparable -/
def k3 : Class := { plain "java/lang/Comparable" (some 0) with
  accessFlags := 1537
  interfaces := #[]
  cf := some (fileOf pool3 1 #[] #[] 1537 3 #[] #[])
  fields := #[]
  methods := #[]
  instanceTypes := #[]
  staticTypes := #[]
  resolved := Array.replicate 12 none
  statics := none }

def pool4 : Array CpInfo := pool [(2, .class_ 4), (1, u "java/lang/CharSequence"), (42, .class_ 48), (0, u "java/lang/CharSequence$1CodePointIterator"), (10, .class_ 60), (0, u "java/lang/CharSequence$1CharIterator"), (5, .class_ 67), (0, u "java/lang/Object")] 63

/-- java/lang/CharSequence -/
def k4 : Class := { plain "java/lang/CharSequence" (some 0) with
  accessFlags := 1537
  interfaces := #[]
  cf := some (fileOf pool4 2 #[.nestMembers #[47, 59]] #[] 1537 66 #[] #[])
  fields := #[]
  methods := #[]
  instanceTypes := #[]
  staticTypes := #[]
  resolved := Array.replicate 131 none
  statics := none }

def pool5 : Array CpInfo := pool [(1, .class_ 2), (0, u "java/lang/constant/Constable"), (0, .class_ 4), (0, u "java/lang/Object")] 6

/-- java/lang/constant/Constable -/
def k5 : Class := { plain "java/lang/constant/Constable" (some 0) with
  accessFlags := 1537
  interfaces := #[]
  cf := some (fileOf pool5 1 #[] #[] 1537 3 #[] #[])
  fields := #[]
  methods := #[]
  instanceTypes := #[]
  staticTypes := #[]
  resolved := Array.replicate 11 none
  statics := none }

def pool6 : Array CpInfo := pool [(1, .class_ 2), (0, u "java/lang/constant/ConstantDesc"), (0, .class_ 4), (0, u "java/lang/Object")] 32

/-- java/lang/constant/ConstantDesc -/
def k6 : Class := { plain "java/lang/constant/ConstantDesc" (some 0) with
  accessFlags := 1537
  interfaces := #[]
  cf := some (fileOf pool6 1 #[] #[] 1537 3 #[] #[])
  fields := #[]
  methods := #[]
  instanceTypes := #[]
  staticTypes := #[]
  resolved := Array.replicate 37 none
  statics := none }

def pool7 : Array CpInfo := pool [(1, .methodref 2 3), (0, .class_ 4), (0, .nameAndType 5 6), (0, u "java/lang/Object"), (0, u "<init>"), (0, u "()V"), (2, .fieldref 10 11), (0, .class_ 12), (0, .nameAndType 13 14), (0, u "java/lang/String"), (0, u "value"), (0, u "[B"), (0, .fieldref 10 16), (0, .nameAndType 17 18), (0, u "coder"), (0, u "B"), (2, u "hash"), (0, u "I"), (2, u "hashIsZero"), (0, u "Z"), (11, .fieldref 10 39), (0, .nameAndType 40 26), (0, u "COMPACT_STRINGS"), (12, u "toBytes"), (53, .class_ 109), (1, u "java/lang/StringLatin1"), (99, .methodref 10 210), (0, .nameAndType 5 211), (0, u "([BB)V"), (157, u "(C)Z"), (205, .class_ 576), (0, u "java/lang/CharSequence"), (22, u "CASE_INSENSITIVE_ORDER"), (0, u "Ljava/util/Comparator;"), (181, u "valueOf"), (0, u "(C)Ljava/lang/String;"), (231, .methodref 107 1016), (0, .nameAndType 1017 369), (0, u "canEncode"), (0, .methodref 107 1019), (0, .nameAndType 53 1020), (0, u "(C)[B"), (80, u "serialPersistentFields"), (0, u "[Ljava/io/ObjectStreamField;"), (0, .class_ 1104), (0, u "java/lang/String$CaseInsensitiveComparator"), (1, .class_ 1107), (0, u "java/io/Serializable"), (0, .class_ 1109), (0, u "java/lang/Comparable"), (0, .class_ 1111), (0, u "java/lang/constant/Constable"), (0, .class_ 1113), (0, u "java/lang/constant/ConstantDesc"), (2, u "serialVersionUID"), (0, u "J"), (3, u "REPL"), (0, u "C"), (2, u "LATIN1"), (1, u "UTF16")] 323

def k7m0 : Method := { name := "<init>", desc := "()V", sig := { parameters := [], returnType := none }, accessFlags := 1, code := none }
def k7c1 : Code := { maxStack := 4, maxLocals := 1, code := jdk_42_method_139_code, exceptionTable := #[], attributes := #[] }
def k7m1 : Method := { name := "valueOf", desc := "(C)Ljava/lang/String;", sig := { parameters := [.char], returnType := some (.object "java/lang/String") }, accessFlags := 9, code := some k7c1 }
def k7c2 : Code := { maxStack := 2, maxLocals := 3, code := jdk_42_method_151_code, exceptionTable := #[], attributes := #[] }
def k7m2 : Method := { name := "<init>", desc := "([BB)V", sig := { parameters := [(.array .byte), .byte], returnType := none }, accessFlags := 0, code := some k7c2 }
/-- java/lang/String -/
def k7 : Class := { plain "java/lang/String" (some 0) with
  accessFlags := 49
  interfaces := #[2, 3, 4, 5, 6]
  cf := some (fileOf pool7 10 #[.nestMembers #[1103]] #[{ accessFlags := 1, nameIndex := 5, descriptorIndex := 6, attributes := #[] }, { accessFlags := 9, nameIndex := 782, descriptorIndex := 783, attributes := #[] }, { accessFlags := 0, nameIndex := 5, descriptorIndex := 211, attributes := #[] }] 49 2 #[1106, 1108, 575, 1110, 1112] #[{ accessFlags := 18, nameIndex := 13, descriptorIndex := 14, attributes := #[] }, { accessFlags := 18, nameIndex := 17, descriptorIndex := 18, attributes := #[] }, { accessFlags := 2, nameIndex := 21, descriptorIndex := 22, attributes := #[] }, { accessFlags := 2, nameIndex := 25, descriptorIndex := 26, attributes := #[] }, { accessFlags := 26, nameIndex := 1116, descriptorIndex := 1117, attributes := #[] }, { accessFlags := 24, nameIndex := 40, descriptorIndex := 26, attributes := #[] }, { accessFlags := 26, nameIndex := 1101, descriptorIndex := 1102, attributes := #[] }, { accessFlags := 26, nameIndex := 1121, descriptorIndex := 1122, attributes := #[] }, { accessFlags := 25, nameIndex := 599, descriptorIndex := 600, attributes := #[] }, { accessFlags := 24, nameIndex := 1125, descriptorIndex := 18, attributes := #[] }, { accessFlags := 24, nameIndex := 1127, descriptorIndex := 18, attributes := #[] }])
  fields := #[{ name := "value", type := (.array .byte), accessFlags := 18, slot := 0, constantValue := 0 }, { name := "coder", type := .byte, accessFlags := 18, slot := 1, constantValue := 0 }, { name := "hash", type := .int, accessFlags := 2, slot := 2, constantValue := 0 }, { name := "hashIsZero", type := .boolean, accessFlags := 2, slot := 3, constantValue := 0 }, { name := "serialVersionUID", type := .long, accessFlags := 26, slot := 0, constantValue := 0 }, { name := "COMPACT_STRINGS", type := .boolean, accessFlags := 24, slot := 1, constantValue := 0 }, { name := "serialPersistentFields", type := (.array (.object "java/io/ObjectStreamField")), accessFlags := 26, slot := 2, constantValue := 0 }, { name := "REPL", type := .char, accessFlags := 26, slot := 3, constantValue := 0 }, { name := "CASE_INSENSITIVE_ORDER", type := (.object "java/util/Comparator"), accessFlags := 25, slot := 4, constantValue := 0 }, { name := "LATIN1", type := .byte, accessFlags := 24, slot := 5, constantValue := 0 }, { name := "UTF16", type := .byte, accessFlags := 24, slot := 6, constantValue := 0 }]
  methods := #[k7m0, k7m1, k7m2]
  instanceTypes := #[(.array .byte), .byte, .int, .boolean]
  staticTypes := #[.long, .boolean, (.array (.object "java/io/ObjectStreamField")), .char, (.object "java/util/Comparator"), .byte, .byte]
  resolved := Array.replicate 1451 none
  statics := some 0 }

def pool8 : Array CpInfo := pool [(4, .class_ 6), (1, u "java/lang/Object"), (0, u "<init>"), (0, u "()V"), (5, .class_ 16), (1, u "java/lang/StringLatin1"), (73, u "canEncode"), (14, u "(C)Z"), (15, u "$assertionsDisabled"), (0, u "Z"), (98, .class_ 223), (1, u "java/lang/StringLatin1$LinesSpliterator"), (156, u "toBytes"), (1, u "(C)[B"), (7, .class_ 391), (0, u "java/lang/StringLatin1$CharsSpliterator")] 3

def k8m0 : Method := { name := "<init>", desc := "()V", sig := { parameters := [], returnType := none }, accessFlags := 0, code := none }
def k8c1 : Code := { maxStack := 2, maxLocals := 1, code := jdk_43_method_3_code, exceptionTable := #[], attributes := #[] }
def k8m1 : Method := { name := "canEncode", desc := "(C)Z", sig := { parameters := [.char], returnType := some .boolean }, accessFlags := 9, code := some k8c1 }
def k8c2 : Code := { maxStack := 4, maxLocals := 1, code := jdk_43_method_46_code, exceptionTable := #[], attributes := #[] }
def k8m2 : Method := { name := "toBytes", desc := "(C)[B", sig := { parameters := [.char], returnType := some (.array .byte) }, accessFlags := 9, code := some k8c2 }
/-- java/lang/StringLatin1 -/
def k8 : Class := { plain "java/lang/StringLatin1" (some 0) with
  accessFlags := 48
  interfaces := #[]
  cf := some (fileOf pool8 14 #[.nestMembers #[390, 221]] #[{ accessFlags := 0, nameIndex := 7, descriptorIndex := 8, attributes := #[] }, { accessFlags := 9, nameIndex := 90, descriptorIndex := 105, attributes := #[] }, { accessFlags := 9, nameIndex := 380, descriptorIndex := 382, attributes := #[] }] 48 4 #[] #[{ accessFlags := 4120, nameIndex := 121, descriptorIndex := 122, attributes := #[] }])
  fields := #[{ name := "$assertionsDisabled", type := .boolean, accessFlags := 4120, slot := 0, constantValue := 0 }]
  methods := #[k8m0, k8m1, k8m2]
  instanceTypes := #[]
  staticTypes := #[.boolean]
  resolved := Array.replicate 395 none
  statics := none }

def pool9 : Array CpInfo := pool [(1, .methodref 2 3), (0, .class_ 4), (0, .nameAndType 5 6), (0, u "java/lang/Object"), (0, u "<init>"), (0, u "()V"), (0, .class_ 8), (0, u "java/lang/Record")] 13

def k9c0 : Code := { maxStack := 1, maxLocals := 1, code := jdk_30_method_1_code, exceptionTable := #[], attributes := #[] }
def k9m0 : Method := { name := "<init>", desc := "()V", sig := { parameters := [], returnType := none }, accessFlags := 4, code := some k9c0 }
/-- java/lang/Record -/
def k9 : Class := { plain "java/lang/Record" (some 0) with
  accessFlags := 1057
  interfaces := #[]
  cf := some (fileOf pool9 7 #[] #[{ accessFlags := 4, nameIndex := 5, descriptorIndex := 6, attributes := #[] }] 1057 2 #[] #[])
  fields := #[]
  methods := #[k9m0]
  instanceTypes := #[]
  staticTypes := #[]
  resolved := Array.replicate 22 none
  statics := none }

def pool10 : Array CpInfo := pool [(1, .methodref 2 3), (0, .class_ 4), (0, .nameAndType 5 6), (0, u "java/lang/Record"), (0, u "<init>"), (0, u "()V"), (0, .fieldref 8 9), (0, .class_ 10), (0, .nameAndType 11 12), (0, u "com/example/keelstone/keelstone/ledger/Account"), (0, u "id"), (0, u "Ljava/lang/String;"), (0, .fieldref 8 14), (0, .nameAndType 15 16), (0, u "balance"), (0, u "J"), (0, .fieldref 8 18), (0, .nameAndType 19 16), (0, u "system"), (0, .fieldref 8 21), (0, .nameAndType 22 16), (0, u "unreached"), (22, u "ID"), (0, u "Ljava/util/regex/Pattern;"), (0, u "(Ljava/lang/String;JJJ)V"), (3, u "available"), (0, u "()J")] 27

def k10c0 : Code := { maxStack := 3, maxLocals := 8, code := prog_130_method_1_code, exceptionTable := #[], attributes := #[] }
def k10m0 : Method := { name := "<init>", desc := "(Ljava/lang/String;JJJ)V", sig := { parameters := [(.object "java/lang/String"), .long, .long, .long], returnType := none }, accessFlags := 1, code := some k10c0 }
def k10c1 : Code := { maxStack := 4, maxLocals := 1, code := prog_130_method_2_code, exceptionTable := #[], attributes := #[] }
def k10m1 : Method := { name := "available", desc := "()J", sig := { parameters := [], returnType := some .long }, accessFlags := 1, code := some k10c1 }
/-- com/example/keelstone/keelstone/ledger/Account -/
def k10 : Class := { plain "com/example/keelstone/keelstone/ledger/Account" (some 9) with
  accessFlags := 49
  interfaces := #[]
  cf := some (fileOf pool10 8 #[] #[{ accessFlags := 1, nameIndex := 5, descriptorIndex := 47, attributes := #[] }, { accessFlags := 1, nameIndex := 51, descriptorIndex := 52, attributes := #[] }] 49 2 #[] #[{ accessFlags := 18, nameIndex := 11, descriptorIndex := 12, attributes := #[] }, { accessFlags := 18, nameIndex := 15, descriptorIndex := 16, attributes := #[] }, { accessFlags := 18, nameIndex := 19, descriptorIndex := 16, attributes := #[] }, { accessFlags := 18, nameIndex := 22, descriptorIndex := 16, attributes := #[] }, { accessFlags := 25, nameIndex := 45, descriptorIndex := 46, attributes := #[] }])
  fields := #[{ name := "id", type := (.object "java/lang/String"), accessFlags := 18, slot := 0, constantValue := 0 }, { name := "balance", type := .long, accessFlags := 18, slot := 1, constantValue := 0 }, { name := "system", type := .long, accessFlags := 18, slot := 2, constantValue := 0 }, { name := "unreached", type := .long, accessFlags := 18, slot := 3, constantValue := 0 }, { name := "ID", type := (.object "java/util/regex/Pattern"), accessFlags := 25, slot := 0, constantValue := 0 }]
  methods := #[k10m0, k10m1]
  instanceTypes := #[(.object "java/lang/String"), .long, .long, .long]
  staticTypes := #[(.object "java/util/regex/Pattern")]
  resolved := Array.replicate 80 none
  statics := none }

def pool11 : Array CpInfo := pool [(2, .class_ 4), (1, u "java/lang/Object"), (0, u "<init>"), (0, u "()V"), (17, .class_ 26), (1, u "jdk/internal/util/Preconditions"), (28, .class_ 56), (0, u "jdk/internal/util/Preconditions$4"), (57, .class_ 115), (0, u "jdk/internal/util/Preconditions$1"), (7, u "SIOOBE_FORMATTER"), (0, u "Ljava/util/function/BiFunction;"), (0, .class_ 126), (0, u "jdk/internal/util/Preconditions$2"), (3, u "AIOOBE_FORMATTER"), (0, .class_ 132), (0, u "jdk/internal/util/Preconditions$3"), (3, u "IOOBE_FORMATTER")] 57

def k11m0 : Method := { name := "<init>", desc := "()V", sig := { parameters := [], returnType := none }, accessFlags := 1, code := none }
/-- jdk/internal/util/Preconditions -/
def k11 : Class := { plain "jdk/internal/util/Preconditions" (some 0) with
  accessFlags := 33
  interfaces := #[]
  cf := some (fileOf pool11 24 #[.nestMembers #[55, 131, 125, 114]] #[{ accessFlags := 1, nameIndex := 5, descriptorIndex := 6, attributes := #[] }] 33 2 #[] #[{ accessFlags := 25, nameIndex := 123, descriptorIndex := 124, attributes := #[] }, { accessFlags := 25, nameIndex := 130, descriptorIndex := 124, attributes := #[] }, { accessFlags := 25, nameIndex := 136, descriptorIndex := 124, attributes := #[] }])
  fields := #[{ name := "SIOOBE_FORMATTER", type := (.object "java/util/function/BiFunction"), accessFlags := 25, slot := 0, constantValue := 0 }, { name := "AIOOBE_FORMATTER", type := (.object "java/util/function/BiFunction"), accessFlags := 25, slot := 1, constantValue := 0 }, { name := "IOOBE_FORMATTER", type := (.object "java/util/function/BiFunction"), accessFlags := 25, slot := 2, constantValue := 0 }]
  methods := #[k11m0]
  instanceTypes := #[]
  staticTypes := #[(.object "java/util/function/BiFunction"), (.object "java/util/function/BiFunction"), (.object "java/util/function/BiFunction")]
  resolved := Array.replicate 194 none
  statics := some 1 }

def pool12 : Array CpInfo := pool [(9, u "<init>"), (6, .class_ 18), (1, u "java/lang/Object"), (0, u "()V"), (1, .class_ 23), (1, u "jdk/internal/util/ArraysSupport"), (0, u "LOG2_ARRAY_LONG_INDEX_SCALE"), (0, u "I"), (2, u "U"), (0, u "Ljdk/internal/misc/Unsafe;"), (8, u "BIG_ENDIAN"), (0, u "Z"), (8, u "LOG2_BYTE_BIT_SIZE"), (4, u "LOG2_ARRAY_INT_INDEX_SCALE"), (54, u "JLA"), (0, u "Ljdk/internal/access/JavaLangAccess;"), (11, u "LOG2_ARRAY_BOOLEAN_INDEX_SCALE"), (9, u "LOG2_ARRAY_BYTE_INDEX_SCALE"), (5, u "LOG2_ARRAY_CHAR_INDEX_SCALE"), (5, u "LOG2_ARRAY_SHORT_INDEX_SCALE"), (18, u "LOG2_ARRAY_FLOAT_INDEX_SCALE"), (24, u "LOG2_ARRAY_DOUBLE_INDEX_SCALE"), (89, u "T_BOOLEAN"), (2, u "T_CHAR"), (1, u "T_FLOAT"), (1, u "T_DOUBLE"), (1, u "T_BYTE"), (1, u "T_SHORT"), (1, u "T_INT"), (1, u "T_LONG"), (1, u "SOFT_MAX_ARRAY_LENGTH")] 83

def k12m0 : Method := { name := "<init>", desc := "()V", sig := { parameters := [], returnType := none }, accessFlags := 2, code := none }
/-- jdk/internal/util/ArraysSupport -/
def k12 : Class := { plain "jdk/internal/util/ArraysSupport" (some 0) with
  accessFlags := 33
  interfaces := #[]
  cf := some (fileOf pool12 21 #[] #[{ accessFlags := 2, nameIndex := 9, descriptorIndex := 19, attributes := #[] }] 33 16 #[] #[{ accessFlags := 24, nameIndex := 28, descriptorIndex := 29, attributes := #[] }, { accessFlags := 26, nameIndex := 38, descriptorIndex := 39, attributes := #[] }, { accessFlags := 25, nameIndex := 121, descriptorIndex := 25, attributes := #[] }, { accessFlags := 25, nameIndex := 131, descriptorIndex := 25, attributes := #[] }, { accessFlags := 25, nameIndex := 137, descriptorIndex := 25, attributes := #[] }, { accessFlags := 25, nameIndex := 143, descriptorIndex := 25, attributes := #[] }, { accessFlags := 25, nameIndex := 53, descriptorIndex := 25, attributes := #[] }, { accessFlags := 25, nameIndex := 24, descriptorIndex := 25, attributes := #[] }, { accessFlags := 25, nameIndex := 162, descriptorIndex := 25, attributes := #[] }, { accessFlags := 25, nameIndex := 187, descriptorIndex := 25, attributes := #[] }, { accessFlags := 26, nameIndex := 48, descriptorIndex := 25, attributes := #[] }, { accessFlags := 25, nameIndex := 277, descriptorIndex := 25, attributes := #[] }, { accessFlags := 25, nameIndex := 280, descriptorIndex := 25, attributes := #[] }, { accessFlags := 25, nameIndex := 282, descriptorIndex := 25, attributes := #[] }, { accessFlags := 25, nameIndex := 284, descriptorIndex := 25, attributes := #[] }, { accessFlags := 25, nameIndex := 286, descriptorIndex := 25, attributes := #[] }, { accessFlags := 25, nameIndex := 288, descriptorIndex := 25, attributes := #[] }, { accessFlags := 25, nameIndex := 290, descriptorIndex := 25, attributes := #[] }, { accessFlags := 25, nameIndex := 292, descriptorIndex := 25, attributes := #[] }, { accessFlags := 26, nameIndex := 108, descriptorIndex := 109, attributes := #[] }, { accessFlags := 25, nameIndex := 294, descriptorIndex := 25, attributes := #[] }])
  fields := #[{ name := "U", type := (.object "jdk/internal/misc/Unsafe"), accessFlags := 24, slot := 0, constantValue := 0 }, { name := "BIG_ENDIAN", type := .boolean, accessFlags := 26, slot := 1, constantValue := 0 }, { name := "LOG2_ARRAY_BOOLEAN_INDEX_SCALE", type := .int, accessFlags := 25, slot := 2, constantValue := 0 }, { name := "LOG2_ARRAY_BYTE_INDEX_SCALE", type := .int, accessFlags := 25, slot := 3, constantValue := 0 }, { name := "LOG2_ARRAY_CHAR_INDEX_SCALE", type := .int, accessFlags := 25, slot := 4, constantValue := 0 }, { name := "LOG2_ARRAY_SHORT_INDEX_SCALE", type := .int, accessFlags := 25, slot := 5, constantValue := 0 }, { name := "LOG2_ARRAY_INT_INDEX_SCALE", type := .int, accessFlags := 25, slot := 6, constantValue := 0 }, { name := "LOG2_ARRAY_LONG_INDEX_SCALE", type := .int, accessFlags := 25, slot := 7, constantValue := 0 }, { name := "LOG2_ARRAY_FLOAT_INDEX_SCALE", type := .int, accessFlags := 25, slot := 8, constantValue := 0 }, { name := "LOG2_ARRAY_DOUBLE_INDEX_SCALE", type := .int, accessFlags := 25, slot := 9, constantValue := 0 }, { name := "LOG2_BYTE_BIT_SIZE", type := .int, accessFlags := 26, slot := 10, constantValue := 0 }, { name := "T_BOOLEAN", type := .int, accessFlags := 25, slot := 11, constantValue := 0 }, { name := "T_CHAR", type := .int, accessFlags := 25, slot := 12, constantValue := 0 }, { name := "T_FLOAT", type := .int, accessFlags := 25, slot := 13, constantValue := 0 }, { name := "T_DOUBLE", type := .int, accessFlags := 25, slot := 14, constantValue := 0 }, { name := "T_BYTE", type := .int, accessFlags := 25, slot := 15, constantValue := 0 }, { name := "T_SHORT", type := .int, accessFlags := 25, slot := 16, constantValue := 0 }, { name := "T_INT", type := .int, accessFlags := 25, slot := 17, constantValue := 0 }, { name := "T_LONG", type := .int, accessFlags := 25, slot := 18, constantValue := 0 }, { name := "JLA", type := (.object "jdk/internal/access/JavaLangAccess"), accessFlags := 26, slot := 19, constantValue := 0 }, { name := "SOFT_MAX_ARRAY_LENGTH", type := .int, accessFlags := 25, slot := 20, constantValue := 0 }]
  methods := #[k12m0]
  instanceTypes := #[]
  staticTypes := #[(.object "jdk/internal/misc/Unsafe"), .boolean, .int, .int, .int, .int, .int, .int, .int, .int, .int, .int, .int, .int, .int, .int, .int, .int, .int, (.object "jdk/internal/access/JavaLangAccess"), .int]
  resolved := Array.replicate 378 none
  statics := none }

def pool13 : Array CpInfo := pool [(1, u "java/lang/Cloneable"), (0, .class_ 1), (0, u "java/lang/Object"), (0, .class_ 3)] 3

/-- java/lang/Cloneable -/
def k13 : Class := { plain "java/lang/Cloneable" (some 0) with
  accessFlags := 1537
  interfaces := #[]
  cf := some (fileOf pool13 2 #[] #[] 1537 4 #[] #[])
  fields := #[]
  methods := #[]
  instanceTypes := #[]
  staticTypes := #[]
  resolved := Array.replicate 8 none
  statics := none }

/-- the primitive byte -/
def k14 : Class := { plain "byte" none with kind := .primitive 'B', accessFlags := 0x411 }
/-- [B -/
def k15 : Class := { plain "[B" (some 0) with kind := .array 14 .byte, interfaces := #[13, 2], accessFlags := 1041 }

def heap : Heap := #[{ cls := 7, slots := #[.long 0, .int 1, .null, .int 0, .null, .int 0, .int 0], vm := .statics 7 },
  { cls := 11, slots := #[.null, .null, .null], vm := .statics 11 }]
def classes : Array Class := #[k0, k1, k2, k3, k4, k5, k6, k7, k8, k9, k10, k11, k12, k13, k14, k15]
def interned : List (Array UInt16 × Addr) := []
def slotsUsed : Nat := 10
def theMethod : MethodId := ⟨1, 1⟩
def args0 : Array Value := #[.long 5, .long 3, .long 2, .long 1, .int 65]
def aboutOver (below : List Frame) : State where
  vm := { classes := classes, interned := interned.toArray }
  heap := heap
  slotsUsed := slotsUsed
  threads := #[{ frames := .invoking theMethod args0 :: below }]
def below0 : List Frame := [.native { method := ⟨0, 0⟩, args := #[] }]
def about1 : State := aboutOver below0
def p0 : Program := .bare "" "" ""
def e0 : Env := launch0.env 0 0 0
theorem w_frames : about1.frames = Frame.invoking theMethod args0 :: below0 := rfl
set_option maxRecDepth 65536 in
theorem w_args : argsFit about1.vm theMethod args0 = true := by decide +kernel
set_option maxRecDepth 65536 in
theorem w_heap : heapFits about1 = true := by decide +kernel
set_option maxRecDepth 65536 in
theorem w_runnable : about1.curStatus? = some .runnable := by decide +kernel
set_option maxRecDepth 65536 in
theorem w_alone : about1.alone = true := by decide +kernel
set_option maxRecDepth 65536 in
theorem w_named : about1.methodNamed? x = some theMethod := by decide +kernel
set_option maxRecDepth 65536 in
theorem w_hears : about1.hears theMethod below0 = true := by decide +kernel
set_option maxRecDepth 65536 in
theorem w_ripe : about1.ripe theMethod args0 below0 = true := by decide +kernel
theorem w_running : about1.status = .running := rfl
set_option maxRecDepth 65536 in
theorem w_room : about1.hasRoom e0.platform room_1 = true :=
  launch0.hasRoom_least _ room_1 (by decide +kernel) (by decide +kernel) (by decide +kernel) (by decide +kernel) (by decide +kernel) (by decide +kernel)
theorem allAtoms_all (ts : List Jvm.Cond) (a : Array Jvm.Value) (st : Jvm.State) : (allAtoms ts).before a st = ts.all (fun c => c.before a st) := by
  induction ts with
  | nil => rfl
  | cons c t ih =>
    show (Jvm.Cond.and c (allAtoms t)).before a st = _
    rw [Jvm.Cond.before_and, ih, List.all_cons]
def words1 : List Jvm.Cond := Jvm.Cond.code x code maxLocals ret :: tables_1
/-- a 'code' word, met by the world's own term for the bytes: nothing is compared byte by byte -/
theorem code_word {y : MethodName} {bytes : ByteArray} {mx : Nat} {rt : Option FieldType} {a : Array Value} {s : State} {m : MethodId} {meth : Method} {c : Code} (h1 : s.methodNamed? y = some m) (h2 : s.vm.method? m = some meth) (h3 : meth.code = some c) (h4 : c.code = bytes)
    (h5 : (c.maxLocals == mx && c.exceptionTable.isEmpty && decide (c.maxStack ≤ mostOperands) && decide (meth.sig.returnType = rt) && !meth.locks && decide (parseMethodDescriptor y.desc = some meth.sig)) = true) : (Jvm.Cond.code y bytes mx rt).before a s = true := by
  simp only [Bool.and_eq_true, beq_iff_eq, Bool.not_eq_true', decide_eq_true_eq] at h5
  obtain ⟨⟨⟨⟨⟨g1, g2⟩, g3⟩, g4⟩, g5⟩, g6⟩ := h5
  simp [Cond.before, Cond.holds, Cond.value, h1, h2, h3, h4, g1, g2, g3, g4, g5, g6]
def isCode : Jvm.Cond → Bool
  | .code _ _ _ _ => true
  | _ => false
theorem all_split {L : List Jvm.Cond} {P : Jvm.Cond → Bool} (h1 : L.all (fun c => isCode c || P c) = true) (h2 : ∀ c ∈ L.filter isCode, P c = true) : L.all P = true := by
  refine List.all_eq_true.mpr fun c hc => ?_
  have h := List.all_eq_true.mp h1 c hc
  rcases Bool.eq_false_or_eq_true (isCode c) with hi | hi
  · exact h2 c (List.mem_filter.mpr ⟨hc, hi⟩)
  · simpa [hi] using h
set_option maxRecDepth 65536 in
theorem w_c0 : (Jvm.Cond.code x code maxLocals ret).before args0 about1 = true := code_word (m := ⟨1, 1⟩) (meth := k1m1) (c := k1c1) (by decide +kernel) rfl rfl rfl (by decide +kernel)
set_option maxRecDepth 65536 in
theorem w_c1 : (Jvm.Cond.code ({ cls := "java/lang/String", name := "valueOf", desc := "(C)Ljava/lang/String;" } : Jvm.MethodName) jdk_42_method_139_code (1 : Nat) (Option.some (Jvm.ClassFile.FieldType.object "java/lang/String"))).before args0 about1 = true := code_word (m := ⟨7, 1⟩) (meth := k7m1) (c := k7c1) (by decide +kernel) rfl rfl rfl (by decide +kernel)
set_option maxRecDepth 65536 in
theorem w_c2 : (Jvm.Cond.code ({ cls := "java/lang/StringLatin1", name := "canEncode", desc := "(C)Z" } : Jvm.MethodName) jdk_43_method_3_code (1 : Nat) (Option.some Jvm.ClassFile.FieldType.boolean)).before args0 about1 = true := code_word (m := ⟨8, 1⟩) (meth := k8m1) (c := k8c1) (by decide +kernel) rfl rfl rfl (by decide +kernel)
set_option maxRecDepth 65536 in
theorem w_c3 : (Jvm.Cond.code ({ cls := "java/lang/StringLatin1", name := "toBytes", desc := "(C)[B" } : Jvm.MethodName) jdk_43_method_46_code (1 : Nat) (Option.some (Jvm.ClassFile.FieldType.array Jvm.ClassFile.FieldType.byte))).before args0 about1 = true := code_word (m := ⟨8, 2⟩) (meth := k8m2) (c := k8c2) (by decide +kernel) rfl rfl rfl (by decide +kernel)
set_option maxRecDepth 65536 in
theorem w_c4 : (Jvm.Cond.code ({ cls := "java/lang/String", name := "<init>", desc := "([BB)V" } : Jvm.MethodName) jdk_42_method_151_code (3 : Nat) (Option.none : Option Jvm.ClassFile.FieldType)).before args0 about1 = true := code_word (m := ⟨7, 2⟩) (meth := k7m2) (c := k7c2) (by decide +kernel) rfl rfl rfl (by decide +kernel)
set_option maxRecDepth 65536 in
theorem w_c5 : (Jvm.Cond.code ({ cls := "java/lang/Object", name := "<init>", desc := "()V" } : Jvm.MethodName) object_method_1_code (1 : Nat) (Option.none : Option Jvm.ClassFile.FieldType)).before args0 about1 = true := code_word (m := ⟨0, 0⟩) (meth := k0m0) (c := k0c0) (by decide +kernel) rfl rfl rfl (by decide +kernel)
set_option maxRecDepth 65536 in
theorem w_c6 : (Jvm.Cond.code ({ cls := "com/example/keelstone/keelstone/ledger/Account", name := "<init>", desc := "(Ljava/lang/String;JJJ)V" } : Jvm.MethodName) prog_130_method_1_code (8 : Nat) (Option.none : Option Jvm.ClassFile.FieldType)).before args0 about1 = true := code_word (m := ⟨10, 0⟩) (meth := k10m0) (c := k10c0) (by decide +kernel) rfl rfl rfl (by decide +kernel)
set_option maxRecDepth 65536 in
theorem w_c7 : (Jvm.Cond.code ({ cls := "java/lang/Record", name := "<init>", desc := "()V" } : Jvm.MethodName) jdk_30_method_1_code (1 : Nat) (Option.none : Option Jvm.ClassFile.FieldType)).before args0 about1 = true := code_word (m := ⟨9, 0⟩) (meth := k9m0) (c := k9c0) (by decide +kernel) rfl rfl rfl (by decide +kernel)
set_option maxRecDepth 65536 in
theorem w_c8 : (Jvm.Cond.code ({ cls := "com/example/keelstone/keelstone/ledger/Account", name := "available", desc := "()J" } : Jvm.MethodName) prog_130_method_2_code (1 : Nat) (Option.some Jvm.ClassFile.FieldType.long)).before args0 about1 = true := code_word (m := ⟨10, 1⟩) (meth := k10m1) (c := k10c1) (by decide +kernel) rfl rfl rfl (by decide +kernel)
def codes1 : List Jvm.Cond := [Jvm.Cond.code x code maxLocals ret, Jvm.Cond.code ({ cls := "java/lang/String", name := "valueOf", desc := "(C)Ljava/lang/String;" } : Jvm.MethodName) jdk_42_method_139_code (1 : Nat) (Option.some (Jvm.ClassFile.FieldType.object "java/lang/String")), Jvm.Cond.code ({ cls := "java/lang/StringLatin1", name := "canEncode", desc := "(C)Z" } : Jvm.MethodName) jdk_43_method_3_code (1 : Nat) (Option.some Jvm.ClassFile.FieldType.boolean), Jvm.Cond.code ({ cls := "java/lang/StringLatin1", name := "toBytes", desc := "(C)[B" } : Jvm.MethodName) jdk_43_method_46_code (1 : Nat) (Option.some (Jvm.ClassFile.FieldType.array Jvm.ClassFile.FieldType.byte)), Jvm.Cond.code ({ cls := "java/lang/String", name := "<init>", desc := "([BB)V" } : Jvm.MethodName) jdk_42_method_151_code (3 : Nat) (Option.none : Option Jvm.ClassFile.FieldType), Jvm.Cond.code ({ cls := "java/lang/Object", name := "<init>", desc := "()V" } : Jvm.MethodName) object_method_1_code (1 : Nat) (Option.none : Option Jvm.ClassFile.FieldType), Jvm.Cond.code ({ cls := "com/example/keelstone/keelstone/ledger/Account", name := "<init>", desc := "(Ljava/lang/String;JJJ)V" } : Jvm.MethodName) prog_130_method_1_code (8 : Nat) (Option.none : Option Jvm.ClassFile.FieldType), Jvm.Cond.code ({ cls := "java/lang/Record", name := "<init>", desc := "()V" } : Jvm.MethodName) jdk_30_method_1_code (1 : Nat) (Option.none : Option Jvm.ClassFile.FieldType), Jvm.Cond.code ({ cls := "com/example/keelstone/keelstone/ledger/Account", name := "available", desc := "()J" } : Jvm.MethodName) prog_130_method_2_code (1 : Nat) (Option.some Jvm.ClassFile.FieldType.long)]
set_option maxRecDepth 65536 in
theorem codes_eq : words1.filter isCode = codes1 := rfl
theorem w_codes : ∀ c ∈ words1.filter isCode, c.before args0 about1 = true := by
  rw [codes_eq]
  intro c hc
  simp only [codes1, List.mem_cons, List.not_mem_nil, or_false] at hc
  rcases hc with rfl | rfl | rfl | rfl | rfl | rfl | rfl | rfl | rfl
  · exact w_c0
  · exact w_c1
  · exact w_c2
  · exact w_c3
  · exact w_c4
  · exact w_c5
  · exact w_c6
  · exact w_c7
  · exact w_c8
set_option maxRecDepth 65536 in
theorem w_t1 : (words1.take 24).all (fun c => isCode c || c.before args0 about1) = true := by decide +kernel
set_option maxRecDepth 65536 in
theorem w_t2 : ((words1.drop 24).take 24).all (fun c => isCode c || c.before args0 about1) = true := by decide +kernel
set_option maxRecDepth 65536 in
theorem w_t3 : ((words1.drop 24).drop 24).all (fun c => isCode c || c.before args0 about1) = true := by decide +kernel
theorem w_tables : (allAtoms (Jvm.Cond.code x code maxLocals ret :: tables_1)).before args0 about1 = true := by
  rw [allAtoms_all]
  show words1.all (fun c => c.before args0 about1) = true
  refine all_split ?_ w_codes
  rw [← List.take_append_drop 24 words1, List.all_append, w_t1, ← List.take_append_drop 24 (words1.drop 24), List.all_append, w_t2, w_t3]
  rfl
set_option maxRecDepth 65536 in
theorem w_rest : rest_1_c.before args0 about1 = true := by decide +kernel
set_option maxRecDepth 65536 in
theorem w_case : (Jvm.Cond.and given_1 narrow_1).before args0 about1 = true := by decide +kernel
theorem w_applies : (headSpec (Jvm.Cond.code x code maxLocals ret :: tables_1) room_1).applies x e0.platform about1 = true :=
  (Spec.applies_iff w_frames).mpr ⟨w_running, w_runnable, w_alone, w_named, w_hears, w_ripe, w_room, w_tables⟩
theorem atStart : AtStart classFile x code maxLocals ret World_1 tables_1 room_1 Calls_1 rest_1 Pre_1 launch0 p0 e0 about1 theMethod args0 below0 :=
  ⟨lists_1, trivial, launch0.admits_env _ _ _, launch0.least_env, fairChoices_fair.cas, fairChoices_fair.clock, w_frames, w_args, w_heap, w_applies, trivial, w_rest, w_case⟩
end start1
theorem witness_1 : WitnessClaimed_1 := ⟨start1.p0, start1.e0, start1.about1, start1.theMethod, start1.args0, start1.below0, start1.atStart⟩
end Jvm.Pilot.@@N@@
