import JvmDerived
import JvmDerived.Pilot.@@N@@Statement
import JvmDerived.Pilot.@@N@@Code
set_option linter.unusedVariables false
set_option linter.unusedSimpArgs false
namespace Jvm.RoadKit
open Sem ClassFile Op Lib Jvm.Stand Jvm.Free Jvm.LawKit
section New
variable {p : Program} {l : Launch} {e : Env} {R : Room} {s : State} {m : MethodId} {args : Array Value} {below : List Frame} {meth : Method} {c : Code} {T : State} {locs : List Loc} {cells slots : Nat}
theorem retI (X : Stand p l e R s m args below meth c T locs cells slots) (hx : p.tables.exec = Jvm.exec) {pc : Nat} {Ls : Array Slot} {z : Int32} {rest : List Value} (hret : meth.sig.returnType = some .int) (hd : decode c.code pc = .ok (.ireturn, 1)) {fs : List Frame}
    (hl : ∀ (f : JFrame) (acts : List Action), f.method = m → f.locked = none → f.entered = [] → (doReturn e (T.setTop f) acts (some (.int z))).1 = T.setFrames fs) : Steps p.tables e below (T.setTop (mkF m pc Ls (.int z :: rest))) (T.setFrames fs) := by
  have hm' : T.vm.method? m = some meth := X.method'
  have hn : narrow .int (.int z) = .int z := rfl
  show Steps p.tables e below (T.setTop { method := m, pc := pc, locals := Ls, stack := _ :: rest, locked := none }) _
  jvm_step X.here [X.here.top, hx, hd, hm', hret, hn]
  first | (intro acts; rw [hl _ acts rfl rfl rfl]) | rw [hl _ _ rfl rfl rfl]
  exact Steps.refl _
end New
end Jvm.RoadKit
namespace Jvm.Pilot.@@N@@
open Jvm Jvm.ClassFile Sem Op Lib Jvm.Free Jvm.Stand Jvm.LawKit Jvm.RoadKit Bundle Jvm.Pilot.@@N@@.Jvm.D
theorem d2_0 : decode prog_50_method_1_code 0 = .ok (.aload_n 0, 1) := by decide +kernel
theorem d2_1 : decode prog_50_method_1_code 1 = .ok (.invokespecial 1, 3) := by decide +kernel
theorem d2_4 : decode prog_50_method_1_code 4 = .ok (.aload_n 0, 1) := by decide +kernel
theorem d2_5 : decode prog_50_method_1_code 5 = .ok (.aload_n 1, 1) := by decide +kernel
theorem d2_6 : decode prog_50_method_1_code 6 = .ok (.putfield 7, 3) := by decide +kernel
theorem d2_9 : decode prog_50_method_1_code 9 = .ok (.return_, 1) := by decide +kernel
theorem pn_2 : plainName "com/example/strict_access/strictaccess/ObjectId" = true := by first | (simp [plainName, overriddenIn]; done) | decide +kernel
theorem ef_2 (m : MethodId) (x0 : Addr) (x1 : Addr) : entryFrame m #[(.ref x0), (.ref x1)] 2 = mkF m 0 #[.val (.ref x0), .val (.ref x1)] [] := by first | (simp [entryFrame, mkF, argsToLocals, Value.category]; done) | rfl
def Q2 (Z : State) (a1 : Addr) (a2 : Addr) (u_bytes_a1 : Value) (h0 : Heap) (n0 : Nat) (v : Option Value) (h : Heap) (L : List Loc) : Prop := v = none ∧ Fr n0 L ∧ Keep h0 h [a1] ∧ Exa Z h a1 "com/example/strict_access/strictaccess/ObjectId" ∧ Fld Z h a1 "com/example/strict_access/strictaccess/ObjectId" "bytes" "[B" (.ref a2)
set_option maxRecDepth 65536 in
set_option maxHeartbeats 40000000 in
theorem rm2 (l : Launch) (Z : State) (a0 : Array Value) (hw : ∀ d ∈ tables_1, d.before a0 Z = true) (ws : List Jvm.Cond) (a1 : Addr) (a2 : Addr) (u_bytes_a1 : Value) (h0 : Heap) (n0 : Nat) (Z0 : n0 ≤ h0.size) (E_a1 : Exa Z h0 a1 "com/example/strict_access/strictaccess/ObjectId") (F_bytes_a1 : Fld Z h0 a1 "com/example/strict_access/strictaccess/ObjectId" "bytes" "[B" u_bytes_a1) (g_a1 : n0 ≤ a1) :
    MetFree l (⟨"com/example/strict_access/strictaccess/ObjectId", "<init>", "([B)V"⟩ : MethodName) (head1 (Jvm.Cond.code (⟨"com/example/strict_access/strictaccess/ObjectId", "<init>", "([B)V"⟩ : MethodName) prog_50_method_1_code 2 none :: ws) ({ frames := 1, cells := 0, slots := 0, locals := 12 } : Room)) (fun a U => a = #[(.ref a1), (.ref a2)] ∧ Z.Warmed39 U.vm ∧ U.heap = h0) (fun _ _ _ _ _ => True) (fun _ U o U' => ∃ v L, o = .returned v ∧ Q2 Z a1 a2 u_bytes_a1 h0 n0 v U'.heap L ∧ FrameEnd U o U' L ({ frames := 1, cells := 0, slots := 0, locals := 12 } : Room).cells ({ frames := 1, cells := 0, slots := 0, locals := 12 } : Room).slots) := by
  refine MetFree.of_bodySF (plainFor_of_name pn_2) hisR ?_
  intro p e s m args below meth c s₁ Bd hml0 hP hK
  obtain ⟨rfl, hZ, hh⟩ := hP
  have hx := Bd.exec
  have hby := Bd.bytes
  have hml : c.maxLocals = 2 := hml0
  have hown : s.vm.findClass "com/example/strict_access/strictaccess/ObjectId" = some m.cls := findClass_of_methodNamed Bd.named
  have hnm := (name_of_methodNamed Bd.named Bd.method).1
  have X0 : Stand p l e ({ frames := 1, cells := 0, slots := 0, locals := 12 } : Room) s m #[(.ref a1), (.ref a2)] below meth c s₁ [] 0 0 := Stand.of_body Bd
  have e0 : s₁.heap = h0 := by rw [← hh, Bd.state]; rfl
  have N0 := Fr.nil n0
  have pre0 : ∀ t, Steps p.tables e below (s₁.setTop (mkF m 0 #[.val (.ref a1), .val (.ref a2)] [])) t → Steps p.tables e below (s₁.setTop (entryFrame m #[(.ref a1), (.ref a2)] 2)) t := fun t k => castTop (ef_2 m a1 a2) k
  obtain ⟨T3, X3, e3, st3⟩ := initO X0 hx hZ hown (hw _ (List.mem_of_getElem? (i := 19) rfl)) (hw _ (List.mem_of_getElem? (i := 20) rfl)) (hw _ (List.mem_of_getElem? (i := 21) rfl)) e0 (g := (mkF m 1 #[.val (.ref a1), .val (.ref a2)] [(.ref a1)])) rfl (by rw [hml]; rfl) rfl (hb hby d2_1) (by decide) (W := 0) (by show 2 * 0 + _ ≤ _; exact Nat.le_of_eq rfl) (by decide)
  obtain ⟨T4, h4, X4, e4, W4, st4⟩ := putF X3 hx hZ hown (host := "") (Or.inl (hw _ (List.mem_of_getElem? (i := 22) rfl))) Via.refl e3 F_bytes_a1 E_a1 (Or.inr ⟨(hw _ (List.mem_of_getElem? (i := 23) rfl)), rfl, hnm⟩) (hw _ (List.mem_of_getElem? (i := 6) rfl)) (ty := (.array .byte)) (by decide) rfl rfl (g := (mkF m 6 #[.val (.ref a1), .val (.ref a2)] [(.ref a2), (.ref a1)])) rfl rfl (hb hby d2_6)
  have Fw4 := F_bytes_a1.same W4
  have K4 : Keep h0 h4 [a1] := (Keep.refl h0 [a1]).wr W4 (Or.inl (List.mem_of_getElem? (i := 0) rfl))
  have N4 := Fr.snoc X4 N0 g_a1
  obtain ⟨fs, hr, hrun, hended, hW, hsame⟩ := X4.leave (v := none) (fun _ => rfl)
  refine ⟨_, _, pre0 _ ?_, hrun, hended, _, _, rfl, ?_, ⟨_, rfl⟩, hW, hsame.mono (by decide) (by decide)⟩
  · show Steps p.tables e below (s₁.setTop (mkF m 0 #[.val (.ref a1), .val (.ref a2)] [])) _
    refine XS.aloadN X0.here hx rfl (hb hby d2_0) rfl rfl ?_
    show Steps p.tables e below (s₁.setTop (mkF m 1 #[.val (.ref a1), .val (.ref a2)] [(.ref a1)])) _
    refine st3 _ ?_
    show Steps p.tables e below (T3.setTop (mkF m 4 #[.val (.ref a1), .val (.ref a2)] [])) _
    refine XS.aloadN X3.here hx rfl (hb hby d2_4) rfl rfl ?_
    show Steps p.tables e below (T3.setTop (mkF m 5 #[.val (.ref a1), .val (.ref a2)] [(.ref a1)])) _
    refine XS.aloadN X3.here hx rfl (hb hby d2_5) rfl rfl ?_
    show Steps p.tables e below (T3.setTop (mkF m 6 #[.val (.ref a1), .val (.ref a2)] [(.ref a2), (.ref a1)])) _
    refine st4 _ ?_
    show Steps p.tables e below (T4.setTop (mkF m 9 #[.val (.ref a1), .val (.ref a2)] [])) _
    exact X4.returnOut hx Bd.returns (hb hby d2_9) hr
  · show Q2 Z a1 a2 u_bytes_a1 h0 n0 _ T4.heap _
    rw [e4]
    exact ⟨rfl, N4, K4, (E_a1.wr W4), Fw4⟩
theorem d1_0 : decode prog_50_method_2_code 0 = .ok (.new 8, 3) := by decide +kernel
theorem d1_3 : decode prog_50_method_2_code 3 = .ok (.dup, 1) := by decide +kernel
theorem d1_4 : decode prog_50_method_2_code 4 = .ok (.aload_n 0, 1) := by decide +kernel
theorem d1_5 : decode prog_50_method_2_code 5 = .ok (.invokevirtual 13, 3) := by decide +kernel
theorem d1_8 : decode prog_50_method_2_code 8 = .ok (.checkcast 14, 3) := by decide +kernel
theorem d1_11 : decode prog_50_method_2_code 11 = .ok (.invokespecial 18, 3) := by decide +kernel
theorem d1_14 : decode prog_50_method_2_code 14 = .ok (.areturn, 1) := by decide +kernel
theorem pd_1_2 : parseMethodDescriptor "([B)V" = some ⟨[(.array .byte)], none⟩ := by decide +kernel
theorem pn_1 : plainName "com/example/strict_access/strictaccess/ObjectId" = true := by first | (simp [plainName, overriddenIn]; done) | decide +kernel
theorem ef_1 (m : MethodId) (a1 : Addr) : entryFrame m #[(.ref a1)] 1 = (mkF m 0 #[.val (.ref a1)] []) := by first | (simp [entryFrame, mkF, argsToLocals, Value.category]; done) | rfl
def Q1 (Z : State) (a1 : Addr) (kA : ClassId) (z : Int32) (vs : List Value) (dv : Value) (h0 : Heap) (n0 : Nat) (v : Option Value) (h : Heap) (L : List Loc) : Prop := v = some (.ref (h0.size)) ∧ Fr n0 L ∧ Keep h0 h [] ∧ Exa Z h h0.size "com/example/strict_access/strictaccess/ObjectId" ∧ ∃ cc : Addr, h0.size ≤ cc ∧ Fld Z h h0.size "com/example/strict_access/strictaccess/ObjectId" "bytes" "[B" (.ref cc) ∧ Arv Z h cc kA .byte z vs dv ∧ Exa Z h cc "[B"
set_option maxRecDepth 65536 in
set_option maxHeartbeats 40000000 in
theorem rm1 (l : Launch) (Z : State) (a0 : Array Value) (hw : ∀ d ∈ tables_1, d.before a0 Z = true) (ws : List Jvm.Cond) (a1 : Addr) (kA : ClassId) (z : Int32) (vs : List Value) (dv : Value) (h0 : Heap) (n0 : Nat) (Z0 : n0 ≤ h0.size) (V_a1 : Arv Z h0 a1 kA .byte z vs dv) (E_a1 : Exa Z h0 a1 "[B") (hz : z.toNatClampNeg ≤ 3) :
    MetFree l (⟨"com/example/strict_access/strictaccess/ObjectId", "of", "([B)Lcom/example/strict_access/strictaccess/ObjectId;"⟩ : MethodName) (head1 (Jvm.Cond.code (⟨"com/example/strict_access/strictaccess/ObjectId", "of", "([B)Lcom/example/strict_access/strictaccess/ObjectId;"⟩ : MethodName) prog_50_method_2_code 1 (some (.object "com/example/strict_access/strictaccess/ObjectId")) :: ws) ({ frames := 2, cells := 2, slots := 4, locals := 26 } : Room)) (fun a U => a = #[(.ref a1)] ∧ Z.Warmed39 U.vm ∧ U.heap = h0) (fun _ _ _ _ _ => True) (fun _ U o U' => ∃ v L, o = .returned v ∧ Q1 Z a1 kA z vs dv h0 n0 v U'.heap L ∧ FrameEnd U o U' L ({ frames := 2, cells := 2, slots := 4, locals := 26 } : Room).cells ({ frames := 2, cells := 2, slots := 4, locals := 26 } : Room).slots) := by
  refine MetFree.of_bodySF (plainFor_of_name pn_1) hisR ?_
  intro p e s m args below meth c s₁ Bd hml0 hP hK
  obtain ⟨rfl, hZ, hh⟩ := hP
  have hx := Bd.exec
  have hby := Bd.bytes
  have hml : c.maxLocals = 1 := hml0
  have hown : s.vm.findClass "com/example/strict_access/strictaccess/ObjectId" = some m.cls := findClass_of_methodNamed Bd.named
  have hnm := (name_of_methodNamed Bd.named Bd.method).1
  have X0 : Stand p l e ({ frames := 2, cells := 2, slots := 4, locals := 26 } : Room) s m #[(.ref a1)] below meth c s₁ [] 0 0 := Stand.of_body Bd
  have e0 : s₁.heap = h0 := by rw [← hh, Bd.state]; rfl
  have N0 := Fr.nil n0
  have pre0 : ∀ t, Steps p.tables e below (s₁.setTop (mkF m 0 #[.val (.ref a1)] [])) t → Steps p.tables e below (s₁.setTop (entryFrame m #[(.ref a1)] 1)) t := fun t k => castTop (ef_1 m a1) k
  obtain ⟨T2, h2, X2, e2, E2, A2, D2, -, st2⟩ := newO X0 hx hZ hown (hw _ (List.mem_of_getElem? (i := 5) rfl)) (hw _ (List.mem_of_getElem? (i := 6) rfl)) (hw _ (List.mem_of_getElem? (i := 3) rfl)) e0 (g := (mkF m 0 #[.val (.ref a1)] [])) rfl (hb hby d1_0) (by decide) (by decide)
  obtain ⟨b2, g2⟩ : ∃ z, z = h0.size := ⟨_, rfl⟩
  rw [← g2] at A2 D2 st2
  have F_b2 : Fld Z h2 b2 "com/example/strict_access/strictaccess/ObjectId" "bytes" "[B" .null := D2 (Or.inr (hw _ (List.mem_of_getElem? (i := 23) rfl))) (ty := (.array .byte)) (by decide)
  have g_b2 : n0 ≤ b2 := Nat.le_trans Z0 (Nat.le_of_eq g2.symm)
  have sz_b2 : h0.size ≤ b2 := Nat.le_of_eq g2.symm
  have K2 : Keep h0 h2 [] := (Keep.refl h0 []).ext E2
  obtain ⟨T3, h3, X3, e3, E3, V3, Ex3, st3⟩ := cloneH X2 hx hZ hown (hw _ (List.mem_of_getElem? (i := 7) rfl)) (hw _ (List.mem_of_getElem? (i := 8) rfl)) (hw _ (List.mem_of_getElem? (i := 12) rfl)) (hw _ (List.mem_of_getElem? (i := 10) rfl)) (hw _ (List.mem_of_getElem? (i := 11) rfl)) (hw _ (List.mem_of_getElem? (i := 13) rfl)) e2 (V_a1.ext E2).arh (E_a1.ext E2) (g := (mkF m 5 #[.val (.ref a1)] [(.ref a1), (.ref b2), (.ref b2)])) rfl (by rw [hml]; rfl) (rest := [(.ref b2), (.ref b2)]) rfl (hb hby d1_5) (by decide) (W := 2) (cap := 3) (by show 2 * 0 + _ ≤ _; exact Nat.le_of_eq rfl) (by decide) hz (by decide) (by decide)
  obtain ⟨c3, g3⟩ : ∃ z, z = h2.size := ⟨_, rfl⟩
  rw [← g3] at V3 Ex3 st3
  have V3' : Arv Z h3 c3 kA .byte z vs dv := V3
  have ne32 : c3 ≠ b2 := fun q => absurd A2.lt (by rw [← q, g3]; exact Nat.lt_irrefl _)
  have sz_c3 : h0.size ≤ c3 := by rw [g3]; exact E2.1
  have K3 : Keep h0 h3 [] := K2.ext E3
  obtain ⟨T4, X4, e4, st4⟩ := castY X3 hx hZ hown (hw _ (List.mem_of_getElem? (i := 14) rfl)) e3 (Ins.self Ex3) (g := (mkF m 8 #[.val (.ref a1)] [(.ref c3), (.ref b2), (.ref b2)])) rfl rfl (hb hby d1_8)
  have Z3 : n0 ≤ h3.size := Nat.le_trans Z0 K3.1
  obtain ⟨_, _, ⟨T5, L5, k5, n5⟩, -, X5, ⟨Lc5, hQ5, l5, y5, z5⟩, st5⟩ := X4.specialBack hx (y := (⟨"com/example/strict_access/strictaccess/ObjectId", "<init>", "([B)V"⟩ : MethodName)) rfl hown (mvT hZ (hw _ (List.mem_of_getElem? (i := 16) rfl))) (mvT hZ (hw _ (List.mem_of_getElem? (i := 17) rfl))) (mvT hZ (hw _ (List.mem_of_getElem? (i := 18) rfl))) (by decide) (backOf (W := 1) (rm2 l Z a0 hw [] b2 c3 .null h3 n0 Z3 (A2.ext E3) (F_b2.ext E3) g_b2) hZ (hw _ (List.mem_of_getElem? (i := 18) rfl)) (hw _ (List.mem_of_getElem? (i := 3) rfl)) (by decide) (by decide)) (g := (mkF m 11 #[.val (.ref a1)] [(.ref c3), (.ref b2), (.ref b2)])) rfl (by rw [hml]; rfl) (Steps.refl _) (a := b2) (argsL := [(.ref c3)]) (rest := [(.ref b2)]) (lenOf pd_1_2 rfl) rfl (by show 2 * 0 + _ ≤ _; exact Nat.le_of_eq rfl) (hb hby d1_11) (fun _ _ => ⟨rfl, e4, (by decide : 2 + 0 ≤ _), (by decide : 4 + 0 ≤ _)⟩)
  dsimp only [Pt.U, Pt.locs, Pt.cells, Pt.slots] at X5 l5 y5 z5 st5 hQ5
  subst l5 y5 z5
  obtain ⟨rfl, N5q, K5, E5, F5⟩ := hQ5
  have N5 := Fr.app N0 N5q
  have K5' : Keep h0 T5.heap [] := K3.trans K5 (allS (Or.inr sz_b2) all0)
  obtain ⟨fs, hr, hrun, hended, hW, hsame⟩ := X5.leave (v := some (.ref b2)) (fun h => by rw [Bd.returns] at h; cases h)
  refine ⟨_, _, pre0 _ ?_, hrun, hended, _, _, rfl, ?_, ⟨_, rfl⟩, hW, hsame.mono (by decide) (by decide)⟩
  · show Steps p.tables e below (s₁.setTop (mkF m 0 #[.val (.ref a1)] [])) _
    refine st2 _ ?_
    show Steps p.tables e below (T2.setTop (mkF m 3 #[.val (.ref a1)] [(.ref b2)])) _
    refine XS.dup X2.here hx rfl (hb hby d1_3) rfl rfl ?_
    show Steps p.tables e below (T2.setTop (mkF m 4 #[.val (.ref a1)] [(.ref b2), (.ref b2)])) _
    refine XS.aloadN X2.here hx rfl (hb hby d1_4) rfl rfl ?_
    show Steps p.tables e below (T2.setTop (mkF m 5 #[.val (.ref a1)] [(.ref a1), (.ref b2), (.ref b2)])) _
    refine st3 _ ?_
    show Steps p.tables e below (T3.setTop (mkF m 8 #[.val (.ref a1)] [(.ref c3), (.ref b2), (.ref b2)])) _
    refine st4 _ ?_
    show Steps p.tables e below (T4.setTop (mkF m 11 #[.val (.ref a1)] [(.ref c3), (.ref b2), (.ref b2)])) _
    refine st5.trans ?_
    show Steps p.tables e below (T5.setTop (mkF m 14 #[.val (.ref a1)] [(.ref b2)])) _
    jvm_step X5.here [X5.here.top, hx, (hb hby d1_14), X5.method', Bd.returns, Value.isRef, FieldType.isReference]
    first | (intro acts; rw [hr _ acts rfl rfl rfl]) | rw [hr _ _ rfl rfl rfl]
    exact Steps.refl _
  · show Q1 Z a1 kA z vs dv h0 n0 _ T5.heap _
    rw [g2] at E5 F5
    exact ⟨by rw [g2], N5, K5', E5, c3, sz_c3, F5, V3'.keep K5 (ninS ne32 nin0), Ex3.keep K5⟩
theorem d4_0 : decode prog_50_method_5_code 0 = .ok (.aload_n 0, 1) := by decide +kernel
theorem d4_1 : decode prog_50_method_5_code 1 = .ok (.getfield 7, 3) := by decide +kernel
theorem d4_4 : decode prog_50_method_5_code 4 = .ok (.invokevirtual 13, 3) := by decide +kernel
theorem d4_7 : decode prog_50_method_5_code 7 = .ok (.checkcast 14, 3) := by decide +kernel
theorem d4_10 : decode prog_50_method_5_code 10 = .ok (.areturn, 1) := by decide +kernel
theorem pn_4 : plainName "com/example/strict_access/strictaccess/ObjectId" = true := by first | (simp [plainName, overriddenIn]; done) | decide +kernel
theorem ef_4 (m : MethodId) (a1 : Addr) : entryFrame m #[(.ref a1)] 1 = (mkF m 0 #[.val (.ref a1)] []) := by first | (simp [entryFrame, mkF, argsToLocals, Value.category]; done) | rfl
def Q4 (Z : State) (a1 : Addr) (w2 : Addr) (kA : ClassId) (z : Int32) (vs : List Value) (dv : Value) (h0 : Heap) (n0 : Nat) (v : Option Value) (h : Heap) (L : List Loc) : Prop := v = some (.ref (h0.size)) ∧ Fr n0 L ∧ Keep h0 h [] ∧ Arv Z h h0.size kA .byte z vs dv
set_option maxRecDepth 65536 in
set_option maxHeartbeats 40000000 in
theorem rm4 (l : Launch) (Z : State) (a0 : Array Value) (hw : ∀ d ∈ tables_1, d.before a0 Z = true) (ws : List Jvm.Cond) (a1 : Addr) (w2 : Addr) (kA : ClassId) (z : Int32) (vs : List Value) (dv : Value) (h0 : Heap) (n0 : Nat) (Z0 : n0 ≤ h0.size) (F_a1 : Fld Z h0 a1 "com/example/strict_access/strictaccess/ObjectId" "bytes" "[B" (.ref w2)) (V_w2 : Arv Z h0 w2 kA .byte z vs dv) (E_w2 : Exa Z h0 w2 "[B") (hz : z.toNatClampNeg ≤ 3) :
    MetFree l (⟨"com/example/strict_access/strictaccess/ObjectId", "bytes", "()[B"⟩ : MethodName) (head1 (Jvm.Cond.code (⟨"com/example/strict_access/strictaccess/ObjectId", "bytes", "()[B"⟩ : MethodName) prog_50_method_5_code 1 (some (.array .byte)) :: ws) ({ frames := 1, cells := 1, slots := 3, locals := 14 } : Room)) (fun a U => a = #[(.ref a1)] ∧ Z.Warmed39 U.vm ∧ U.heap = h0) (fun _ _ _ _ _ => True) (fun _ U o U' => ∃ v L, o = .returned v ∧ Q4 Z a1 w2 kA z vs dv h0 n0 v U'.heap L ∧ FrameEnd U o U' L ({ frames := 1, cells := 1, slots := 3, locals := 14 } : Room).cells ({ frames := 1, cells := 1, slots := 3, locals := 14 } : Room).slots) := by
  refine MetFree.of_bodySF (plainFor_of_name pn_4) hisR ?_
  intro p e s m args below meth c s₁ Bd hml0 hP hK
  obtain ⟨rfl, hZ, hh⟩ := hP
  have hx := Bd.exec
  have hby := Bd.bytes
  have hml : c.maxLocals = 1 := hml0
  have hown : s.vm.findClass "com/example/strict_access/strictaccess/ObjectId" = some m.cls := findClass_of_methodNamed Bd.named
  have hnm := (name_of_methodNamed Bd.named Bd.method).1
  have X0 : Stand p l e ({ frames := 1, cells := 1, slots := 3, locals := 14 } : Room) s m #[(.ref a1)] below meth c s₁ [] 0 0 := Stand.of_body Bd
  have e0 : s₁.heap = h0 := by rw [← hh, Bd.state]; rfl
  have N0 := Fr.nil n0
  have pre0 : ∀ t, Steps p.tables e below (s₁.setTop (mkF m 0 #[.val (.ref a1)] [])) t → Steps p.tables e below (s₁.setTop (entryFrame m #[(.ref a1)] 1)) t := fun t k => castTop (ef_4 m a1) k
  obtain ⟨T3, X3, e3, st3⟩ := getF X0 hx hZ hown (host := "") (Or.inl (hw _ (List.mem_of_getElem? (i := 22) rfl))) Via.refl e0 F_a1 (g := (mkF m 1 #[.val (.ref a1)] [(.ref a1)])) rfl rfl (hb hby d4_1)
  obtain ⟨T4, h4, X4, e4, E4, V4, Ex4, st4⟩ := cloneH X3 hx hZ hown (hw _ (List.mem_of_getElem? (i := 7) rfl)) (hw _ (List.mem_of_getElem? (i := 8) rfl)) (hw _ (List.mem_of_getElem? (i := 12) rfl)) (hw _ (List.mem_of_getElem? (i := 10) rfl)) (hw _ (List.mem_of_getElem? (i := 11) rfl)) (hw _ (List.mem_of_getElem? (i := 13) rfl)) e3 V_w2.arh E_w2 (g := (mkF m 4 #[.val (.ref a1)] [(.ref w2)])) rfl (by rw [hml]; rfl) (rest := []) rfl (hb hby d4_4) (by decide) (W := 0) (cap := 3) (by show 2 * 0 + _ ≤ _; exact Nat.le_of_eq rfl) (by decide) hz (by decide) (by decide)
  obtain ⟨T5, X5, e5, st5⟩ := castY X4 hx hZ hown (hw _ (List.mem_of_getElem? (i := 14) rfl)) e4 (Ins.self Ex4) (g := (mkF m 7 #[.val (.ref a1)] [(.ref h0.size)])) rfl rfl (hb hby d4_7)
  obtain ⟨fs, hr, hrun, hended, hW, hsame⟩ := X5.leave (v := some (.ref h0.size)) (fun h => by rw [Bd.returns] at h; cases h)
  refine ⟨_, _, pre0 _ ?_, hrun, hended, _, _, rfl, ?_, ⟨_, rfl⟩, hW, hsame.mono (by decide) (by decide)⟩
  · show Steps p.tables e below (s₁.setTop (mkF m 0 #[.val (.ref a1)] [])) _
    refine XS.aloadN X0.here hx rfl (hb hby d4_0) rfl rfl ?_
    show Steps p.tables e below (s₁.setTop (mkF m 1 #[.val (.ref a1)] [(.ref a1)])) _
    refine st3 _ ?_
    show Steps p.tables e below (T3.setTop (mkF m 4 #[.val (.ref a1)] [(.ref w2)])) _
    refine st4 _ ?_
    show Steps p.tables e below (T4.setTop (mkF m 7 #[.val (.ref a1)] [(.ref h0.size)])) _
    refine st5 _ ?_
    show Steps p.tables e below (T5.setTop (mkF m 10 #[.val (.ref a1)] [(.ref h0.size)])) _
    jvm_step X5.here [X5.here.top, hx, (hb hby d4_10), X5.method', Bd.returns, Value.isRef, FieldType.isReference]
    first | (intro acts; rw [hr _ acts rfl rfl rfl]) | rw [hr _ _ rfl rfl rfl]
    exact Steps.refl _
  · show Q4 Z a1 w2 kA z vs dv h0 n0 _ T5.heap _
    rw [e5]
    exact ⟨rfl, N0, (Keep.refl h0 []).ext E4, V4⟩
theorem own_four (a : Int32) : (a &&& (3 : Int32)) = 0 ∨ (a &&& (3 : Int32)) = 1 ∨ (a &&& (3 : Int32)) = 2 ∨ (a &&& (3 : Int32)) = 3 := by
  have e : (a &&& (3 : Int32)).toInt = a.toInt % 4 := c_mask a 3 2 (by decide) (by decide)
  have h : (a &&& (3 : Int32)).toInt = 0 ∨ (a &&& (3 : Int32)).toInt = 1 ∨ (a &&& (3 : Int32)).toInt = 2 ∨ (a &&& (3 : Int32)).toInt = 3 := by rw [e]; omega
  rcases h with h | h | h | h
  · exact Or.inl (Int32.toInt_inj.mp (show _ = (0 : Int32).toInt from h))
  · exact Or.inr (Or.inl (Int32.toInt_inj.mp (show _ = (1 : Int32).toInt from h)))
  · exact Or.inr (Or.inr (Or.inl (Int32.toInt_inj.mp (show _ = (2 : Int32).toInt from h))))
  · exact Or.inr (Or.inr (Or.inr (Int32.toInt_inj.mp (show _ = (3 : Int32).toInt from h))))
theorem own_byte (x : Int32) : x.toInt8.toInt32.toInt8.toInt32 = x.toInt8.toInt32 := by rw [Int8.toInt8_toInt32]
theorem pn_0 : plainName "com/example/strict_access/strictaccess/ObjectIdOfPinLaw" = true := by first | (simp [plainName, overriddenIn]; done) | decide +kernel
theorem pd_0_0 : parseMethodDescriptor "([B)Lcom/example/strict_access/strictaccess/ObjectId;" = some ⟨[(.array .byte)], some (.object "com/example/strict_access/strictaccess/ObjectId")⟩ := by decide +kernel
theorem pd_0_4 : parseMethodDescriptor "()[B" = some ⟨[], some (.array .byte)⟩ := by decide +kernel
theorem ef_0 (m : MethodId) (p1 : Int32) (p2 : Int32) : entryFrame m #[(.int p1), (.int p2)] maxLocals = (mkF m 0 #[.val (.int p1), .val (.int p2), .unset, .unset, .unset, .unset, .unset, .unset, .unset] []) := by first | (simp [entryFrame, mkF, argsToLocals, Value.category, maxLocals]; done) | rfl
def Q0 (Z : State) (p1 : Int32) (p2 : Int32) (h0 : Heap) (n0 : Nat) (v : Option Value) (h : Heap) (L : List Loc) : Prop := v = some (.int (1 : Int32)) ∧ Fr n0 L
set_option maxRecDepth 65536 in
set_option maxHeartbeats 40000000 in
theorem rm0 (l : Launch) (Z : State) (a0 : Array Value) (hw : ∀ d ∈ tables_1, d.before a0 Z = true) (ws : List Jvm.Cond) (p1 : Int32) (p2 : Int32) (h0 : Heap) (n0 : Nat) (Z0 : n0 ≤ h0.size) :
    MetFree l x (head1 (Jvm.Cond.code x code maxLocals ret :: ws) room_1) (fun a U => a = #[(.int p1), (.int p2)] ∧ Z.Warmed39 U.vm ∧ U.heap = h0) (fun _ _ _ _ _ => True) (fun _ U o U' => ∃ v L, o = .returned v ∧ Q0 Z p1 p2 h0 n0 v U'.heap L ∧ FrameEnd U o U' L 16 128) := by
  refine MetFree.of_bodySF (plainFor_of_name pn_0) hisR ?_
  intro p e s m args below meth c s₁ Bd hml0 hP hK
  obtain ⟨rfl, hZ, hh⟩ := hP
  have hx := Bd.exec
  have hby := Bd.bytes
  have hml : c.maxLocals = 9 := hml0
  have hown : s.vm.findClass "com/example/strict_access/strictaccess/ObjectIdOfPinLaw" = some m.cls := findClass_of_methodNamed Bd.named
  have hnm := (name_of_methodNamed Bd.named Bd.method).1
  have X0 : Stand p l e room_1 s m #[(.int p1), (.int p2)] below meth c s₁ [] 0 0 := Stand.of_body Bd
  have e0 : s₁.heap = h0 := by rw [← hh, Bd.state]; rfl
  have N0 := Fr.nil n0
  have pre0 : ∀ t, Steps p.tables e below (s₁.setTop (mkF m 0 #[.val (.int p1), .val (.int p2), .unset, .unset, .unset, .unset, .unset, .unset, .unset] [])) t → Steps p.tables e below (s₁.setTop (entryFrame m #[(.int p1), (.int p2)] maxLocals)) t := fun t k => castTop (ef_0 m p1 p2) k
  obtain ⟨K, hK⟩ : ∃ z, z = (p1 &&& (3 : Int32)) := ⟨_, rfl⟩
  obtain ⟨E0, hE0⟩ : ∃ z, z = (p2.toInt8.toInt32) := ⟨_, rfl⟩
  have bE0 : E0.toInt8.toInt32 = E0 := by rw [hE0]; exact own_byte _
  obtain ⟨E1, hE1⟩ : ∃ z, z = (((p2.toUInt32 >>> ((8 : Int32) &&& 31).toUInt32).toInt32).toInt8.toInt32) := ⟨_, rfl⟩
  have bE1 : E1.toInt8.toInt32 = E1 := by rw [hE1]; exact own_byte _
  obtain ⟨E2, hE2⟩ : ∃ z, z = (((p2.toUInt32 >>> ((16 : Int32) &&& 31).toUInt32).toInt32).toInt8.toInt32) := ⟨_, rfl⟩
  have bE2 : E2.toInt8.toInt32 = E2 := by rw [hE2]; exact own_byte _
  have sg : ∀ target, Steps p.tables e below (s₁.setTop (mkF m 21 #[.val (.int p1), .val (.int p2), .val (.int K), .val (.int E0), .val (.int E1), .val (.int E2), .unset, .unset, .unset] [])) target → Steps p.tables e below (s₁.setTop (mkF m 0 #[.val (.int p1), .val (.int p2), .unset, .unset, .unset, .unset, .unset, .unset, .unset] [])) target := by
    intro target kt
    show Steps p.tables e below (s₁.setTop (mkF m 0 #[.val (.int p1), .val (.int p2), .unset, .unset, .unset, .unset, .unset, .unset, .unset] [])) _
    refine XS.iloadN X0.here hx rfl (hb hby at_0) rfl ?_
    show Steps p.tables e below (s₁.setTop (mkF m 1 #[.val (.int p1), .val (.int p2), .unset, .unset, .unset, .unset, .unset, .unset, .unset] [(.int p1)])) _
    refine XS.iconst X0.here hx rfl (hb hby at_1) ?_
    show Steps p.tables e below (s₁.setTop (mkF m 2 #[.val (.int p1), .val (.int p2), .unset, .unset, .unset, .unset, .unset, .unset, .unset] [(.int (3 : Int32)), (.int p1)])) _
    refine XS.iand X0.here hx rfl (hb hby at_2) rfl ?_
    show Steps p.tables e below (s₁.setTop (mkF m 3 #[.val (.int p1), .val (.int p2), .unset, .unset, .unset, .unset, .unset, .unset, .unset] [(.int (p1 &&& (3 : Int32)))])) _
    refine XS.istoreN X0.here hx rfl (hb hby at_3) rfl (l' := #[.val (.int p1), .val (.int p2), .val (.int (p1 &&& (3 : Int32))), .unset, .unset, .unset, .unset, .unset, .unset]) rfl ?_
    show Steps p.tables e below (s₁.setTop (mkF m 4 #[.val (.int p1), .val (.int p2), .val (.int (p1 &&& (3 : Int32))), .unset, .unset, .unset, .unset, .unset, .unset] [])) _
    refine XS.iloadN X0.here hx rfl (hb hby at_4) rfl ?_
    show Steps p.tables e below (s₁.setTop (mkF m 5 #[.val (.int p1), .val (.int p2), .val (.int (p1 &&& (3 : Int32))), .unset, .unset, .unset, .unset, .unset, .unset] [(.int p2)])) _
    refine XS.i2b X0.here hx rfl (hb hby at_5) rfl ?_
    show Steps p.tables e below (s₁.setTop (mkF m 6 #[.val (.int p1), .val (.int p2), .val (.int (p1 &&& (3 : Int32))), .unset, .unset, .unset, .unset, .unset, .unset] [(.int (p2.toInt8.toInt32))])) _
    refine XS.istoreN X0.here hx rfl (hb hby at_6) rfl (l' := #[.val (.int p1), .val (.int p2), .val (.int (p1 &&& (3 : Int32))), .val (.int (p2.toInt8.toInt32)), .unset, .unset, .unset, .unset, .unset]) rfl ?_
    show Steps p.tables e below (s₁.setTop (mkF m 7 #[.val (.int p1), .val (.int p2), .val (.int (p1 &&& (3 : Int32))), .val (.int (p2.toInt8.toInt32)), .unset, .unset, .unset, .unset, .unset] [])) _
    refine XS.iloadN X0.here hx rfl (hb hby at_7) rfl ?_
    show Steps p.tables e below (s₁.setTop (mkF m 8 #[.val (.int p1), .val (.int p2), .val (.int (p1 &&& (3 : Int32))), .val (.int (p2.toInt8.toInt32)), .unset, .unset, .unset, .unset, .unset] [(.int p2)])) _
    refine XS.bipush X0.here hx rfl (hb hby at_8) ?_
    show Steps p.tables e below (s₁.setTop (mkF m 10 #[.val (.int p1), .val (.int p2), .val (.int (p1 &&& (3 : Int32))), .val (.int (p2.toInt8.toInt32)), .unset, .unset, .unset, .unset, .unset] [(.int (8 : Int32)), (.int p2)])) _
    refine XS.iushr X0.here hx rfl (hb hby at_10) rfl ?_
    show Steps p.tables e below (s₁.setTop (mkF m 11 #[.val (.int p1), .val (.int p2), .val (.int (p1 &&& (3 : Int32))), .val (.int (p2.toInt8.toInt32)), .unset, .unset, .unset, .unset, .unset] [(.int ((p2.toUInt32 >>> ((8 : Int32) &&& 31).toUInt32).toInt32))])) _
    refine XS.i2b X0.here hx rfl (hb hby at_11) rfl ?_
    show Steps p.tables e below (s₁.setTop (mkF m 12 #[.val (.int p1), .val (.int p2), .val (.int (p1 &&& (3 : Int32))), .val (.int (p2.toInt8.toInt32)), .unset, .unset, .unset, .unset, .unset] [(.int (((p2.toUInt32 >>> ((8 : Int32) &&& 31).toUInt32).toInt32).toInt8.toInt32))])) _
    refine XS.istore X0.here hx rfl (hb hby at_12) rfl (l' := #[.val (.int p1), .val (.int p2), .val (.int (p1 &&& (3 : Int32))), .val (.int (p2.toInt8.toInt32)), .val (.int (((p2.toUInt32 >>> ((8 : Int32) &&& 31).toUInt32).toInt32).toInt8.toInt32)), .unset, .unset, .unset, .unset]) rfl ?_
    show Steps p.tables e below (s₁.setTop (mkF m 14 #[.val (.int p1), .val (.int p2), .val (.int (p1 &&& (3 : Int32))), .val (.int (p2.toInt8.toInt32)), .val (.int (((p2.toUInt32 >>> ((8 : Int32) &&& 31).toUInt32).toInt32).toInt8.toInt32)), .unset, .unset, .unset, .unset] [])) _
    refine XS.iloadN X0.here hx rfl (hb hby at_14) rfl ?_
    show Steps p.tables e below (s₁.setTop (mkF m 15 #[.val (.int p1), .val (.int p2), .val (.int (p1 &&& (3 : Int32))), .val (.int (p2.toInt8.toInt32)), .val (.int (((p2.toUInt32 >>> ((8 : Int32) &&& 31).toUInt32).toInt32).toInt8.toInt32)), .unset, .unset, .unset, .unset] [(.int p2)])) _
    refine XS.bipush X0.here hx rfl (hb hby at_15) ?_
    show Steps p.tables e below (s₁.setTop (mkF m 17 #[.val (.int p1), .val (.int p2), .val (.int (p1 &&& (3 : Int32))), .val (.int (p2.toInt8.toInt32)), .val (.int (((p2.toUInt32 >>> ((8 : Int32) &&& 31).toUInt32).toInt32).toInt8.toInt32)), .unset, .unset, .unset, .unset] [(.int (16 : Int32)), (.int p2)])) _
    refine XS.iushr X0.here hx rfl (hb hby at_17) rfl ?_
    show Steps p.tables e below (s₁.setTop (mkF m 18 #[.val (.int p1), .val (.int p2), .val (.int (p1 &&& (3 : Int32))), .val (.int (p2.toInt8.toInt32)), .val (.int (((p2.toUInt32 >>> ((8 : Int32) &&& 31).toUInt32).toInt32).toInt8.toInt32)), .unset, .unset, .unset, .unset] [(.int ((p2.toUInt32 >>> ((16 : Int32) &&& 31).toUInt32).toInt32))])) _
    refine XS.i2b X0.here hx rfl (hb hby at_18) rfl ?_
    show Steps p.tables e below (s₁.setTop (mkF m 19 #[.val (.int p1), .val (.int p2), .val (.int (p1 &&& (3 : Int32))), .val (.int (p2.toInt8.toInt32)), .val (.int (((p2.toUInt32 >>> ((8 : Int32) &&& 31).toUInt32).toInt32).toInt8.toInt32)), .unset, .unset, .unset, .unset] [(.int (((p2.toUInt32 >>> ((16 : Int32) &&& 31).toUInt32).toInt32).toInt8.toInt32))])) _
    refine XS.istore X0.here hx rfl (hb hby at_19) rfl (l' := #[.val (.int p1), .val (.int p2), .val (.int (p1 &&& (3 : Int32))), .val (.int (p2.toInt8.toInt32)), .val (.int (((p2.toUInt32 >>> ((8 : Int32) &&& 31).toUInt32).toInt32).toInt8.toInt32)), .val (.int (((p2.toUInt32 >>> ((16 : Int32) &&& 31).toUInt32).toInt32).toInt8.toInt32)), .unset, .unset, .unset]) rfl ?_
    rw [hK, hE0, hE1, hE2] at kt
    exact kt
  have hc : K = 0 ∨ K = 1 ∨ K = 2 ∨ K = 3 := by rw [hK]; exact own_four p1
  rcases hc with rfl | rfl | rfl | rfl
  · obtain ⟨T3, h3, k3, X3, e3, E3, A3, Ex3, st3⟩ := newPE X0 hx hZ (hw _ (List.mem_of_getElem? (i := 0) rfl)) e0 (g := (mkF m 22 #[.val (.int p1), .val (.int p2), .val (.int (0 : Int32)), .val (.int E0), .val (.int E1), .val (.int E2), .unset, .unset, .unset] [(.int (0 : Int32))])) rfl (hb hby at_22) rfl (by decide) (cap := 3) (by decide) (by decide) (by decide) (by decide) (ad := "[B") rfl
    obtain ⟨b3, g3⟩ : ∃ z, z = h0.size := ⟨_, rfl⟩
    rw [← g3] at A3 Ex3 st3
    have V3 : Arv Z h3 b3 k3 .byte (0 : Int32) [] (.int (0 : Int32)) := (Arv.new A3 (by decide)).pad (pad_rep [] (.int (0 : Int32)) 0)
    have g_b3 : n0 ≤ b3 := Nat.le_trans Z0 (Nat.le_of_eq g3.symm)
    have sz_b3 : h0.size ≤ b3 := Nat.le_of_eq g3.symm
    have K3 : Keep h0 h3 [] := (Keep.refl h0 []).ext E3
    have Zc : n0 ≤ h3.size := Nat.le_trans Z0 K3.1
    have Vc := V3
    have Ec : Exa Z h3 b3 "[B" := Ex3
    obtain ⟨_, _, ⟨T10, L10, k10, n10⟩, -, X10, ⟨Lc10, hQ10, l10, y10, z10⟩, st10⟩ := Jvm.LawKit.callS X3 hx (y := (⟨"com/example/strict_access/strictaccess/ObjectId", "of", "([B)Lcom/example/strict_access/strictaccess/ObjectId;"⟩ : MethodName)) hown (mvT hZ (hw _ (List.mem_of_getElem? (i := 1) rfl))) (mvT hZ (hw _ (List.mem_of_getElem? (i := 2) rfl))) (mvT hZ (hw _ (List.mem_of_getElem? (i := 3) rfl))) (mvT hZ (hw _ (List.mem_of_getElem? (i := 4) rfl))) (by decide) (backOf (W := 0) (rm1 l Z a0 hw [] b3 k3 (0 : Int32) [] (.int (0 : Int32)) h3 n0 Zc Vc Ec (by decide)) hZ (hw _ (List.mem_of_getElem? (i := 4) rfl)) (hw _ (List.mem_of_getElem? (i := 3) rfl)) (by decide) (by decide)) (g := (mkF m 59 #[.val (.int p1), .val (.int p2), .val (.int (0 : Int32)), .val (.int E0), .val (.int E1), .val (.int E2), .val (.ref b3), .unset, .unset] [(.ref b3)])) rfl (by rw [hml]; rfl) (argsL := [(.ref b3)]) (rest := []) (lenOf pd_0_0 rfl) rfl (by show 2 * 0 + _ ≤ _; exact Nat.le_of_eq rfl) (hb hby at_59) (fun _ _ => ⟨rfl, e3, (by decide : 1 + 2 ≤ _), (by decide : 3 + 4 ≤ _)⟩)
    dsimp only [Pt.U, Pt.locs, Pt.cells, Pt.slots] at X10 l10 y10 z10 st10 hQ10
    subst l10 y10 z10
    obtain ⟨rfl, N10q, K10c, E10, cc, szc, F10, Vcc, Ecc⟩ := hQ10
    have N10 := Fr.app N0 N10q
    obtain ⟨ob, gob⟩ : ∃ z, z = h3.size := ⟨_, rfl⟩
    rw [← gob] at E10 F10 st10
    have K10 : Keep h0 T10.heap [] := K3.trans K10c all0
    have V10 := Vc.keep K10c nin0
    have lt3 : b3 < h3.size := Vc.lt
    have neob : ob ≠ b3 := fun q => absurd lt3 (by rw [← q, gob]; exact Nat.lt_irrefl _)
    have necc : cc ≠ b3 := fun q => absurd lt3 (by rw [← q]; exact Nat.not_lt.mpr szc)
    have Zd : n0 ≤ T10.heap.size := Nat.le_trans Z0 K10.1
    have Eo := E10
    obtain ⟨cq, kq, qa, qb, qc⟩ := isOf hZ (rfl : T10.heap = _) Eo
    obtain ⟨_, _, ⟨T20, L20, k20, n20⟩, -, X20, ⟨Lc20, hQ20, l20, y20, z20⟩, st20⟩ := X10.virtualBack hx (y := (⟨"com/example/strict_access/strictaccess/ObjectId", "bytes", "()[B"⟩ : MethodName)) (z := (⟨"com/example/strict_access/strictaccess/ObjectId", "bytes", "()[B"⟩ : MethodName)) hown (mvT hZ (hw _ (List.mem_of_getElem? (i := 24) rfl))) (mvT hZ (hw _ (List.mem_of_getElem? (i := 25) rfl))) (notFace_of_selects (args := #[]) (mvT hZ (hw _ (List.mem_of_getElem? (i := 27) rfl)))) (mvT hZ (hw _ (List.mem_of_getElem? (i := 27) rfl))) (mvT hZ (hw _ (List.mem_of_getElem? (i := 26) rfl))) (by decide) (backOf (W := 0) (rm4 l Z a0 hw [] ob cc k3 (0 : Int32) [] (.int (0 : Int32)) T10.heap n0 Zd F10 Vcc Ecc (by decide)) hZ (hw _ (List.mem_of_getElem? (i := 28) rfl)) (hw _ (List.mem_of_getElem? (i := 3) rfl)) (by decide) (by decide)) qa qc (g := (mkF m 106 #[.val (.int p1), .val (.int p2), .val (.int (0 : Int32)), .val (.int E0), .val (.int E1), .val (.int E2), .val (.ref b3), .val (.ref ob), .unset] [(.ref ob)])) rfl (by rw [hml]; rfl) (Steps.refl _) (argsL := []) (rest := []) (lenOf pd_0_4 rfl) rfl (by show 2 * 0 + _ ≤ _; exact Nat.le_of_eq rfl) (hb hby at_106) (fun _ _ => ⟨rfl, rfl, (by decide : 3 + 1 ≤ _), (by decide : 7 + 3 ≤ _)⟩)
    dsimp only [Pt.U, Pt.locs, Pt.cells, Pt.slots] at X20 l20 y20 z20 st20 hQ20
    subst l20 y20 z20
    obtain ⟨rfl, N20q, K20c, Vr⟩ := hQ20
    have N20 := Fr.app N10 N20q
    obtain ⟨rb, grb⟩ : ∃ z, z = T10.heap.size := ⟨_, rfl⟩
    rw [← grb] at Vr st20
    obtain ⟨clR, ArR, qR, SR, NR, HR, GR⟩ := Vr
    obtain ⟨fs, hr, hrun, hended, hW, hsame⟩ := X20.leave (v := some (.int (1 : Int32))) (fun h => by rw [Bd.returns] at h; cases h)
    refine ⟨_, _, pre0 _ ?_, hrun, hended, _, _, rfl, ?_, ⟨_, rfl⟩, hW, hsame.mono (by decide) (by decide)⟩
    · refine sg _ ?_
      show Steps p.tables e below (s₁.setTop (mkF m 21 #[.val (.int p1), .val (.int p2), .val (.int (0 : Int32)), .val (.int E0), .val (.int E1), .val (.int E2), .unset, .unset, .unset] [])) _
      refine XS.iloadN X0.here hx rfl (hb hby at_21) rfl ?_
      show Steps p.tables e below (s₁.setTop (mkF m 22 #[.val (.int p1), .val (.int p2), .val (.int (0 : Int32)), .val (.int E0), .val (.int E1), .val (.int E2), .unset, .unset, .unset] [(.int (0 : Int32))])) _
      refine st3 _ ?_
      show Steps p.tables e below (T3.setTop (mkF m 24 #[.val (.int p1), .val (.int p2), .val (.int (0 : Int32)), .val (.int E0), .val (.int E1), .val (.int E2), .unset, .unset, .unset] [(.ref b3)])) _
      refine XS.astore X3.here hx rfl (hb hby at_24) rfl rfl (l' := #[.val (.int p1), .val (.int p2), .val (.int (0 : Int32)), .val (.int E0), .val (.int E1), .val (.int E2), .val (.ref b3), .unset, .unset]) rfl ?_
      show Steps p.tables e below (T3.setTop (mkF m 26 #[.val (.int p1), .val (.int p2), .val (.int (0 : Int32)), .val (.int E0), .val (.int E1), .val (.int E2), .val (.ref b3), .unset, .unset] [])) _
      refine XS.iloadN X3.here hx rfl (hb hby at_26) rfl ?_
      show Steps p.tables e below (T3.setTop (mkF m 27 #[.val (.int p1), .val (.int p2), .val (.int (0 : Int32)), .val (.int E0), .val (.int E1), .val (.int E2), .val (.ref b3), .unset, .unset] [(.int (0 : Int32))])) _
      refine XS.ifYes X3.here hx rfl (pc0 := 27) (pc' := 35) rfl (hb hby at_27) rfl ((if0 _ _).trans (flt (show ¬ ((0 : Int32) < (0 : Int32)) from by decide)).2.2.2) (by decide) (by decide) ?_
      show Steps p.tables e below (T3.setTop (mkF m 35 #[.val (.int p1), .val (.int p2), .val (.int (0 : Int32)), .val (.int E0), .val (.int E1), .val (.int E2), .val (.ref b3), .unset, .unset] [])) _
      refine XS.iloadN X3.here hx rfl (hb hby at_35) rfl ?_
      show Steps p.tables e below (T3.setTop (mkF m 36 #[.val (.int p1), .val (.int p2), .val (.int (0 : Int32)), .val (.int E0), .val (.int E1), .val (.int E2), .val (.ref b3), .unset, .unset] [(.int (0 : Int32))])) _
      refine XS.iconst X3.here hx rfl (hb hby at_36) ?_
      show Steps p.tables e below (T3.setTop (mkF m 37 #[.val (.int p1), .val (.int p2), .val (.int (0 : Int32)), .val (.int E0), .val (.int E1), .val (.int E2), .val (.ref b3), .unset, .unset] [(.int (1 : Int32)), (.int (0 : Int32))])) _
      refine XS.icmpYes X3.here hx rfl (pc0 := 37) (pc' := 46) rfl (hb hby at_37) rfl (flt (show ¬ ((1 : Int32) < (0 : Int32)) from by decide)).2.2.2 (by decide) (by decide) ?_
      show Steps p.tables e below (T3.setTop (mkF m 46 #[.val (.int p1), .val (.int p2), .val (.int (0 : Int32)), .val (.int E0), .val (.int E1), .val (.int E2), .val (.ref b3), .unset, .unset] [])) _
      refine XS.iloadN X3.here hx rfl (hb hby at_46) rfl ?_
      show Steps p.tables e below (T3.setTop (mkF m 47 #[.val (.int p1), .val (.int p2), .val (.int (0 : Int32)), .val (.int E0), .val (.int E1), .val (.int E2), .val (.ref b3), .unset, .unset] [(.int (0 : Int32))])) _
      refine XS.iconst X3.here hx rfl (hb hby at_47) ?_
      show Steps p.tables e below (T3.setTop (mkF m 48 #[.val (.int p1), .val (.int p2), .val (.int (0 : Int32)), .val (.int E0), .val (.int E1), .val (.int E2), .val (.ref b3), .unset, .unset] [(.int (2 : Int32)), (.int (0 : Int32))])) _
      refine XS.icmpYes X3.here hx rfl (pc0 := 48) (pc' := 57) rfl (hb hby at_48) rfl (flt (show ¬ ((2 : Int32) < (0 : Int32)) from by decide)).2.2.2 (by decide) (by decide) ?_
      show Steps p.tables e below (T3.setTop (mkF m 57 #[.val (.int p1), .val (.int p2), .val (.int (0 : Int32)), .val (.int E0), .val (.int E1), .val (.int E2), .val (.ref b3), .unset, .unset] [])) _
      refine XS.aload X3.here hx rfl (hb hby at_57) rfl rfl ?_
      show Steps p.tables e below (T3.setTop (mkF m 59 #[.val (.int p1), .val (.int p2), .val (.int (0 : Int32)), .val (.int E0), .val (.int E1), .val (.int E2), .val (.ref b3), .unset, .unset] [(.ref b3)])) _
      refine st10 _ ?_
      show Steps p.tables e below (T10.setTop (mkF m 62 #[.val (.int p1), .val (.int p2), .val (.int (0 : Int32)), .val (.int E0), .val (.int E1), .val (.int E2), .val (.ref b3), .unset, .unset] [(.ref ob)])) _
      refine XS.astore X10.here hx rfl (hb hby at_62) rfl rfl (l' := #[.val (.int p1), .val (.int p2), .val (.int (0 : Int32)), .val (.int E0), .val (.int E1), .val (.int E2), .val (.ref b3), .val (.ref ob), .unset]) rfl ?_
      show Steps p.tables e below (T10.setTop (mkF m 64 #[.val (.int p1), .val (.int p2), .val (.int (0 : Int32)), .val (.int E0), .val (.int E1), .val (.int E2), .val (.ref b3), .val (.ref ob), .unset] [])) _
      refine XS.iloadN X10.here hx rfl (hb hby at_64) rfl ?_
      show Steps p.tables e below (T10.setTop (mkF m 65 #[.val (.int p1), .val (.int p2), .val (.int (0 : Int32)), .val (.int E0), .val (.int E1), .val (.int E2), .val (.ref b3), .val (.ref ob), .unset] [(.int (0 : Int32))])) _
      refine XS.ifYes X10.here hx rfl (pc0 := 65) (pc' := 76) rfl (hb hby at_65) rfl ((if0 _ _).trans (flt (show ¬ ((0 : Int32) < (0 : Int32)) from by decide)).2.2.2) (by decide) (by decide) ?_
      show Steps p.tables e below (T10.setTop (mkF m 76 #[.val (.int p1), .val (.int p2), .val (.int (0 : Int32)), .val (.int E0), .val (.int E1), .val (.int E2), .val (.ref b3), .val (.ref ob), .unset] [])) _
      refine XS.iloadN X10.here hx rfl (hb hby at_76) rfl ?_
      show Steps p.tables e below (T10.setTop (mkF m 77 #[.val (.int p1), .val (.int p2), .val (.int (0 : Int32)), .val (.int E0), .val (.int E1), .val (.int E2), .val (.ref b3), .val (.ref ob), .unset] [(.int (0 : Int32))])) _
      refine XS.iconst X10.here hx rfl (hb hby at_77) ?_
      show Steps p.tables e below (T10.setTop (mkF m 78 #[.val (.int p1), .val (.int p2), .val (.int (0 : Int32)), .val (.int E0), .val (.int E1), .val (.int E2), .val (.ref b3), .val (.ref ob), .unset] [(.int (1 : Int32)), (.int (0 : Int32))])) _
      refine XS.icmpYes X10.here hx rfl (pc0 := 78) (pc' := 90) rfl (hb hby at_78) rfl (flt (show ¬ ((1 : Int32) < (0 : Int32)) from by decide)).2.2.2 (by decide) (by decide) ?_
      show Steps p.tables e below (T10.setTop (mkF m 90 #[.val (.int p1), .val (.int p2), .val (.int (0 : Int32)), .val (.int E0), .val (.int E1), .val (.int E2), .val (.ref b3), .val (.ref ob), .unset] [])) _
      refine XS.iloadN X10.here hx rfl (hb hby at_90) rfl ?_
      show Steps p.tables e below (T10.setTop (mkF m 91 #[.val (.int p1), .val (.int p2), .val (.int (0 : Int32)), .val (.int E0), .val (.int E1), .val (.int E2), .val (.ref b3), .val (.ref ob), .unset] [(.int (0 : Int32))])) _
      refine XS.iconst X10.here hx rfl (hb hby at_91) ?_
      show Steps p.tables e below (T10.setTop (mkF m 92 #[.val (.int p1), .val (.int p2), .val (.int (0 : Int32)), .val (.int E0), .val (.int E1), .val (.int E2), .val (.ref b3), .val (.ref ob), .unset] [(.int (2 : Int32)), (.int (0 : Int32))])) _
      refine XS.icmpYes X10.here hx rfl (pc0 := 92) (pc' := 104) rfl (hb hby at_92) rfl (flt (show ¬ ((2 : Int32) < (0 : Int32)) from by decide)).2.2.2 (by decide) (by decide) ?_
      show Steps p.tables e below (T10.setTop (mkF m 104 #[.val (.int p1), .val (.int p2), .val (.int (0 : Int32)), .val (.int E0), .val (.int E1), .val (.int E2), .val (.ref b3), .val (.ref ob), .unset] [])) _
      refine XS.aload X10.here hx rfl (hb hby at_104) rfl rfl ?_
      show Steps p.tables e below (T10.setTop (mkF m 106 #[.val (.int p1), .val (.int p2), .val (.int (0 : Int32)), .val (.int E0), .val (.int E1), .val (.int E2), .val (.ref b3), .val (.ref ob), .unset] [(.ref ob)])) _
      refine st20.trans ?_
      show Steps p.tables e below (T20.setTop (mkF m 109 #[.val (.int p1), .val (.int p2), .val (.int (0 : Int32)), .val (.int E0), .val (.int E1), .val (.int E2), .val (.ref b3), .val (.ref ob), .unset] [(.ref rb)])) _
      refine XS.astore X20.here hx rfl (hb hby at_109) rfl rfl (l' := #[.val (.int p1), .val (.int p2), .val (.int (0 : Int32)), .val (.int E0), .val (.int E1), .val (.int E2), .val (.ref b3), .val (.ref ob), .val (.ref rb)]) rfl ?_
      show Steps p.tables e below (T20.setTop (mkF m 111 #[.val (.int p1), .val (.int p2), .val (.int (0 : Int32)), .val (.int E0), .val (.int E1), .val (.int E2), .val (.ref b3), .val (.ref ob), .val (.ref rb)] [])) _
      refine XS.aload X20.here hx rfl (hb hby at_111) rfl rfl ?_
      show Steps p.tables e below (T20.setTop (mkF m 113 #[.val (.int p1), .val (.int p2), .val (.int (0 : Int32)), .val (.int E0), .val (.int E1), .val (.int E2), .val (.ref b3), .val (.ref ob), .val (.ref rb)] [(.ref rb)])) _
      refine X20.arraylength hx ArR.1 (State.isArrayOf_alike hZ.alike ArR.2.1) (g := (mkF m 113 #[.val (.int p1), .val (.int p2), .val (.int (0 : Int32)), .val (.int E0), .val (.int E1), .val (.int E2), .val (.ref b3), .val (.ref ob), .val (.ref rb)] [(.ref rb)])) rfl rfl (hb hby at_113) _ ?_
      rw [len_of SR NR]
      show Steps p.tables e below (T20.setTop (mkF m 114 #[.val (.int p1), .val (.int p2), .val (.int (0 : Int32)), .val (.int E0), .val (.int E1), .val (.int E2), .val (.ref b3), .val (.ref ob), .val (.ref rb)] [(.int (0 : Int32))])) _
      refine XS.iloadN X20.here hx rfl (hb hby at_114) rfl ?_
      show Steps p.tables e below (T20.setTop (mkF m 115 #[.val (.int p1), .val (.int p2), .val (.int (0 : Int32)), .val (.int E0), .val (.int E1), .val (.int E2), .val (.ref b3), .val (.ref ob), .val (.ref rb)] [(.int (0 : Int32)), (.int (0 : Int32))])) _
      refine XS.icmpYes X20.here hx rfl (pc0 := 115) (pc' := 120) rfl (hb hby at_115) rfl (teq (show (0 : Int32) = (0 : Int32) from by decide)).1 (by decide) (by decide) ?_
      show Steps p.tables e below (T20.setTop (mkF m 120 #[.val (.int p1), .val (.int p2), .val (.int (0 : Int32)), .val (.int E0), .val (.int E1), .val (.int E2), .val (.ref b3), .val (.ref ob), .val (.ref rb)] [])) _
      refine XS.iloadN X20.here hx rfl (hb hby at_120) rfl ?_
      show Steps p.tables e below (T20.setTop (mkF m 121 #[.val (.int p1), .val (.int p2), .val (.int (0 : Int32)), .val (.int E0), .val (.int E1), .val (.int E2), .val (.ref b3), .val (.ref ob), .val (.ref rb)] [(.int (0 : Int32))])) _
      refine XS.ifYes X20.here hx rfl (pc0 := 121) (pc' := 134) rfl (hb hby at_121) rfl ((if0 _ _).trans (flt (show ¬ ((0 : Int32) < (0 : Int32)) from by decide)).2.2.2) (by decide) (by decide) ?_
      show Steps p.tables e below (T20.setTop (mkF m 134 #[.val (.int p1), .val (.int p2), .val (.int (0 : Int32)), .val (.int E0), .val (.int E1), .val (.int E2), .val (.ref b3), .val (.ref ob), .val (.ref rb)] [])) _
      refine XS.iloadN X20.here hx rfl (hb hby at_134) rfl ?_
      show Steps p.tables e below (T20.setTop (mkF m 135 #[.val (.int p1), .val (.int p2), .val (.int (0 : Int32)), .val (.int E0), .val (.int E1), .val (.int E2), .val (.ref b3), .val (.ref ob), .val (.ref rb)] [(.int (0 : Int32))])) _
      refine XS.iconst X20.here hx rfl (hb hby at_135) ?_
      show Steps p.tables e below (T20.setTop (mkF m 136 #[.val (.int p1), .val (.int p2), .val (.int (0 : Int32)), .val (.int E0), .val (.int E1), .val (.int E2), .val (.ref b3), .val (.ref ob), .val (.ref rb)] [(.int (1 : Int32)), (.int (0 : Int32))])) _
      refine XS.icmpYes X20.here hx rfl (pc0 := 136) (pc' := 150) rfl (hb hby at_136) rfl (flt (show ¬ ((1 : Int32) < (0 : Int32)) from by decide)).2.2.2 (by decide) (by decide) ?_
      show Steps p.tables e below (T20.setTop (mkF m 150 #[.val (.int p1), .val (.int p2), .val (.int (0 : Int32)), .val (.int E0), .val (.int E1), .val (.int E2), .val (.ref b3), .val (.ref ob), .val (.ref rb)] [])) _
      refine XS.iloadN X20.here hx rfl (hb hby at_150) rfl ?_
      show Steps p.tables e below (T20.setTop (mkF m 151 #[.val (.int p1), .val (.int p2), .val (.int (0 : Int32)), .val (.int E0), .val (.int E1), .val (.int E2), .val (.ref b3), .val (.ref ob), .val (.ref rb)] [(.int (0 : Int32))])) _
      refine XS.iconst X20.here hx rfl (hb hby at_151) ?_
      show Steps p.tables e below (T20.setTop (mkF m 152 #[.val (.int p1), .val (.int p2), .val (.int (0 : Int32)), .val (.int E0), .val (.int E1), .val (.int E2), .val (.ref b3), .val (.ref ob), .val (.ref rb)] [(.int (2 : Int32)), (.int (0 : Int32))])) _
      refine XS.icmpYes X20.here hx rfl (pc0 := 152) (pc' := 166) rfl (hb hby at_152) rfl (flt (show ¬ ((2 : Int32) < (0 : Int32)) from by decide)).2.2.2 (by decide) (by decide) ?_
      show Steps p.tables e below (T20.setTop (mkF m 166 #[.val (.int p1), .val (.int p2), .val (.int (0 : Int32)), .val (.int E0), .val (.int E1), .val (.int E2), .val (.ref b3), .val (.ref ob), .val (.ref rb)] [])) _
      refine XS.iconst X20.here hx rfl (hb hby at_166) ?_
      show Steps p.tables e below (T20.setTop (mkF m 167 #[.val (.int p1), .val (.int p2), .val (.int (0 : Int32)), .val (.int E0), .val (.int E1), .val (.int E2), .val (.ref b3), .val (.ref ob), .val (.ref rb)] [(.int (1 : Int32))])) _
      exact retN X20 hx (t := .boolean) Bd.returns (by simp) (hb hby at_167) hr
    · show Q0 Z p1 p2 h0 n0 _ T20.heap _
      exact ⟨rfl, N20⟩
  · obtain ⟨T3, h3, k3, X3, e3, E3, A3, Ex3, st3⟩ := newPE X0 hx hZ (hw _ (List.mem_of_getElem? (i := 0) rfl)) e0 (g := (mkF m 22 #[.val (.int p1), .val (.int p2), .val (.int (1 : Int32)), .val (.int E0), .val (.int E1), .val (.int E2), .unset, .unset, .unset] [(.int (1 : Int32))])) rfl (hb hby at_22) rfl (by decide) (cap := 3) (by decide) (by decide) (by decide) (by decide) (ad := "[B") rfl
    obtain ⟨b3, g3⟩ : ∃ z, z = h0.size := ⟨_, rfl⟩
    rw [← g3] at A3 Ex3 st3
    have V3 : Arv Z h3 b3 k3 .byte (1 : Int32) [(.int (0 : Int32))] (.int (0 : Int32)) := (Arv.new A3 (by decide)).pad (pad_rep [] (.int (0 : Int32)) 1)
    have g_b3 : n0 ≤ b3 := Nat.le_trans Z0 (Nat.le_of_eq g3.symm)
    have sz_b3 : h0.size ≤ b3 := Nat.le_of_eq g3.symm
    have K3 : Keep h0 h3 [] := (Keep.refl h0 []).ext E3
    obtain ⟨cl4, Ar4, q4, S4, N4', H4, G4⟩ := V3
    have hin34 : ¬ ((0 : Int32) < 0 ∨ cl4.slots.size ≤ ((0 : Int32)).toNatClampNeg) := inb_of S4 ⟨by decide, by decide⟩
    obtain ⟨T4, h4, X4, e4, W4, st4⟩ := stB X3 hx hZ e3 Ar4 (j := (0 : Int32)) hin34 (g := (mkF m 34 #[.val (.int p1), .val (.int p2), .val (.int (1 : Int32)), .val (.int E0), .val (.int E1), .val (.int E2), .val (.ref b3), .unset, .unset] [(.int E0), (.int (0 : Int32)), (.ref b3)])) rfl rfl (hb hby at_34)
    have V4 : Arv Z h4 b3 k3 .byte (1 : Int32) [(.int E0)] (.int (0 : Int32)) := by
      have q := Arv.set Ar4 q4 S4 N4' H4 G4 (fits_nar_byte _) W4 0 rfl (Nat.le_of_ble_eq_true rfl)
      rw [bE0] at q
      exact q
    have K4 : Keep h0 h4 [] := K3.wr W4 (Or.inr sz_b3)
    have N4 := Fr.snoc X4 N0 g_b3
    have Zc : n0 ≤ h4.size := Nat.le_trans Z0 K4.1
    have Vc := V4
    have Ec : Exa Z h4 b3 "[B" := (Ex3.wr W4)
    obtain ⟨_, _, ⟨T10, L10, k10, n10⟩, -, X10, ⟨Lc10, hQ10, l10, y10, z10⟩, st10⟩ := Jvm.LawKit.callS X4 hx (y := (⟨"com/example/strict_access/strictaccess/ObjectId", "of", "([B)Lcom/example/strict_access/strictaccess/ObjectId;"⟩ : MethodName)) hown (mvT hZ (hw _ (List.mem_of_getElem? (i := 1) rfl))) (mvT hZ (hw _ (List.mem_of_getElem? (i := 2) rfl))) (mvT hZ (hw _ (List.mem_of_getElem? (i := 3) rfl))) (mvT hZ (hw _ (List.mem_of_getElem? (i := 4) rfl))) (by decide) (backOf (W := 0) (rm1 l Z a0 hw [] b3 k3 (1 : Int32) [(.int E0)] (.int (0 : Int32)) h4 n0 Zc Vc Ec (by decide)) hZ (hw _ (List.mem_of_getElem? (i := 4) rfl)) (hw _ (List.mem_of_getElem? (i := 3) rfl)) (by decide) (by decide)) (g := (mkF m 59 #[.val (.int p1), .val (.int p2), .val (.int (1 : Int32)), .val (.int E0), .val (.int E1), .val (.int E2), .val (.ref b3), .unset, .unset] [(.ref b3)])) rfl (by rw [hml]; rfl) (argsL := [(.ref b3)]) (rest := []) (lenOf pd_0_0 rfl) rfl (by show 2 * 0 + _ ≤ _; exact Nat.le_of_eq rfl) (hb hby at_59) (fun _ _ => ⟨rfl, e4, (by decide : 1 + 2 ≤ _), (by decide : 3 + 4 ≤ _)⟩)
    dsimp only [Pt.U, Pt.locs, Pt.cells, Pt.slots] at X10 l10 y10 z10 st10 hQ10
    subst l10 y10 z10
    obtain ⟨rfl, N10q, K10c, E10, cc, szc, F10, Vcc, Ecc⟩ := hQ10
    have N10 := Fr.app N4 N10q
    obtain ⟨ob, gob⟩ : ∃ z, z = h4.size := ⟨_, rfl⟩
    rw [← gob] at E10 F10 st10
    have K10 : Keep h0 T10.heap [] := K4.trans K10c all0
    have V10 := Vc.keep K10c nin0
    have lt3 : b3 < h4.size := Vc.lt
    have neob : ob ≠ b3 := fun q => absurd lt3 (by rw [← q, gob]; exact Nat.lt_irrefl _)
    have necc : cc ≠ b3 := fun q => absurd lt3 (by rw [← q]; exact Nat.not_lt.mpr szc)
    obtain ⟨cl11, Ar11, q11, S11, N11', H11, G11⟩ := V10
    have hin75 : ¬ ((0 : Int32) < 0 ∨ cl11.slots.size ≤ ((0 : Int32)).toNatClampNeg) := inb_of S11 ⟨by decide, by decide⟩
    obtain ⟨T11, h11, X11, e11, W11, st11⟩ := stB X10 hx hZ rfl Ar11 (j := (0 : Int32)) hin75 (g := (mkF m 75 #[.val (.int p1), .val (.int p2), .val (.int (1 : Int32)), .val (.int E0), .val (.int E1), .val (.int E2), .val (.ref b3), .val (.ref ob), .unset] [(.int ((E0 ^^^ (1 : Int32)).toInt8.toInt32)), (.int (0 : Int32)), (.ref b3)])) rfl rfl (hb hby at_75)
    have V11 := Arv.set Ar11 q11 S11 N11' H11 G11 (fits_nar_byte _) W11 0 rfl (Nat.le_of_ble_eq_true rfl)
    have K11 : Keep h0 h11 [] := K10.wr W11 (Or.inr sz_b3)
    have N11 := Fr.snoc X11 N10 g_b3
    have Zd : n0 ≤ h11.size := Nat.le_trans Z0 K11.1
    have Eo := (E10.wr W11)
    obtain ⟨cq, kq, qa, qb, qc⟩ := isOf hZ e11 Eo
    obtain ⟨_, _, ⟨T20, L20, k20, n20⟩, -, X20, ⟨Lc20, hQ20, l20, y20, z20⟩, st20⟩ := X11.virtualBack hx (y := (⟨"com/example/strict_access/strictaccess/ObjectId", "bytes", "()[B"⟩ : MethodName)) (z := (⟨"com/example/strict_access/strictaccess/ObjectId", "bytes", "()[B"⟩ : MethodName)) hown (mvT hZ (hw _ (List.mem_of_getElem? (i := 24) rfl))) (mvT hZ (hw _ (List.mem_of_getElem? (i := 25) rfl))) (notFace_of_selects (args := #[]) (mvT hZ (hw _ (List.mem_of_getElem? (i := 27) rfl)))) (mvT hZ (hw _ (List.mem_of_getElem? (i := 27) rfl))) (mvT hZ (hw _ (List.mem_of_getElem? (i := 26) rfl))) (by decide) (backOf (W := 0) (rm4 l Z a0 hw [] ob cc k3 (1 : Int32) [(.int E0)] (.int (0 : Int32)) h11 n0 Zd (F10.other W11 (Or.inl neob)) (Vcc.other W11 necc) (Ecc.wr W11) (by decide)) hZ (hw _ (List.mem_of_getElem? (i := 28) rfl)) (hw _ (List.mem_of_getElem? (i := 3) rfl)) (by decide) (by decide)) qa qc (g := (mkF m 106 #[.val (.int p1), .val (.int p2), .val (.int (1 : Int32)), .val (.int E0), .val (.int E1), .val (.int E2), .val (.ref b3), .val (.ref ob), .unset] [(.ref ob)])) rfl (by rw [hml]; rfl) (Steps.refl _) (argsL := []) (rest := []) (lenOf pd_0_4 rfl) rfl (by show 2 * 0 + _ ≤ _; exact Nat.le_of_eq rfl) (hb hby at_106) (fun _ _ => ⟨rfl, e11, (by decide : 3 + 1 ≤ _), (by decide : 7 + 3 ≤ _)⟩)
    dsimp only [Pt.U, Pt.locs, Pt.cells, Pt.slots] at X20 l20 y20 z20 st20 hQ20
    subst l20 y20 z20
    obtain ⟨rfl, N20q, K20c, Vr⟩ := hQ20
    have N20 := Fr.app N11 N20q
    obtain ⟨rb, grb⟩ : ∃ z, z = h11.size := ⟨_, rfl⟩
    rw [← grb] at Vr st20
    obtain ⟨clR, ArR, qR, SR, NR, HR, GR⟩ := Vr
    have hin127 : ¬ ((0 : Int32) < 0 ∨ clR.slots.size ≤ ((0 : Int32)).toNatClampNeg) := inb_of SR ⟨by decide, by decide⟩
    have hat127 : clR.slots[((0 : Int32)).toNatClampNeg]? = some (.int E0) := HR.at hin127 rfl
    obtain ⟨fs, hr, hrun, hended, hW, hsame⟩ := X20.leave (v := some (.int (1 : Int32))) (fun h => by rw [Bd.returns] at h; cases h)
    refine ⟨_, _, pre0 _ ?_, hrun, hended, _, _, rfl, ?_, ⟨_, rfl⟩, hW, hsame.mono (by decide) (by decide)⟩
    · refine sg _ ?_
      show Steps p.tables e below (s₁.setTop (mkF m 21 #[.val (.int p1), .val (.int p2), .val (.int (1 : Int32)), .val (.int E0), .val (.int E1), .val (.int E2), .unset, .unset, .unset] [])) _
      refine XS.iloadN X0.here hx rfl (hb hby at_21) rfl ?_
      show Steps p.tables e below (s₁.setTop (mkF m 22 #[.val (.int p1), .val (.int p2), .val (.int (1 : Int32)), .val (.int E0), .val (.int E1), .val (.int E2), .unset, .unset, .unset] [(.int (1 : Int32))])) _
      refine st3 _ ?_
      show Steps p.tables e below (T3.setTop (mkF m 24 #[.val (.int p1), .val (.int p2), .val (.int (1 : Int32)), .val (.int E0), .val (.int E1), .val (.int E2), .unset, .unset, .unset] [(.ref b3)])) _
      refine XS.astore X3.here hx rfl (hb hby at_24) rfl rfl (l' := #[.val (.int p1), .val (.int p2), .val (.int (1 : Int32)), .val (.int E0), .val (.int E1), .val (.int E2), .val (.ref b3), .unset, .unset]) rfl ?_
      show Steps p.tables e below (T3.setTop (mkF m 26 #[.val (.int p1), .val (.int p2), .val (.int (1 : Int32)), .val (.int E0), .val (.int E1), .val (.int E2), .val (.ref b3), .unset, .unset] [])) _
      refine XS.iloadN X3.here hx rfl (hb hby at_26) rfl ?_
      show Steps p.tables e below (T3.setTop (mkF m 27 #[.val (.int p1), .val (.int p2), .val (.int (1 : Int32)), .val (.int E0), .val (.int E1), .val (.int E2), .val (.ref b3), .unset, .unset] [(.int (1 : Int32))])) _
      refine XS.ifNo X3.here hx rfl (hb hby at_27) rfl ((if0 _ _).trans (tlt (show (0 : Int32) < (1 : Int32) from by decide)).2.2.2) ?_
      show Steps p.tables e below (T3.setTop (mkF m 30 #[.val (.int p1), .val (.int p2), .val (.int (1 : Int32)), .val (.int E0), .val (.int E1), .val (.int E2), .val (.ref b3), .unset, .unset] [])) _
      refine XS.aload X3.here hx rfl (hb hby at_30) rfl rfl ?_
      show Steps p.tables e below (T3.setTop (mkF m 32 #[.val (.int p1), .val (.int p2), .val (.int (1 : Int32)), .val (.int E0), .val (.int E1), .val (.int E2), .val (.ref b3), .unset, .unset] [(.ref b3)])) _
      refine XS.iconst X3.here hx rfl (hb hby at_32) ?_
      show Steps p.tables e below (T3.setTop (mkF m 33 #[.val (.int p1), .val (.int p2), .val (.int (1 : Int32)), .val (.int E0), .val (.int E1), .val (.int E2), .val (.ref b3), .unset, .unset] [(.int (0 : Int32)), (.ref b3)])) _
      refine XS.iloadN X3.here hx rfl (hb hby at_33) rfl ?_
      show Steps p.tables e below (T3.setTop (mkF m 34 #[.val (.int p1), .val (.int p2), .val (.int (1 : Int32)), .val (.int E0), .val (.int E1), .val (.int E2), .val (.ref b3), .unset, .unset] [(.int E0), (.int (0 : Int32)), (.ref b3)])) _
      refine st4 _ ?_
      show Steps p.tables e below (T4.setTop (mkF m 35 #[.val (.int p1), .val (.int p2), .val (.int (1 : Int32)), .val (.int E0), .val (.int E1), .val (.int E2), .val (.ref b3), .unset, .unset] [])) _
      refine XS.iloadN X4.here hx rfl (hb hby at_35) rfl ?_
      show Steps p.tables e below (T4.setTop (mkF m 36 #[.val (.int p1), .val (.int p2), .val (.int (1 : Int32)), .val (.int E0), .val (.int E1), .val (.int E2), .val (.ref b3), .unset, .unset] [(.int (1 : Int32))])) _
      refine XS.iconst X4.here hx rfl (hb hby at_36) ?_
      show Steps p.tables e below (T4.setTop (mkF m 37 #[.val (.int p1), .val (.int p2), .val (.int (1 : Int32)), .val (.int E0), .val (.int E1), .val (.int E2), .val (.ref b3), .unset, .unset] [(.int (1 : Int32)), (.int (1 : Int32))])) _
      refine XS.icmpYes X4.here hx rfl (pc0 := 37) (pc' := 46) rfl (hb hby at_37) rfl (flt (show ¬ ((1 : Int32) < (1 : Int32)) from by decide)).2.2.2 (by decide) (by decide) ?_
      show Steps p.tables e below (T4.setTop (mkF m 46 #[.val (.int p1), .val (.int p2), .val (.int (1 : Int32)), .val (.int E0), .val (.int E1), .val (.int E2), .val (.ref b3), .unset, .unset] [])) _
      refine XS.iloadN X4.here hx rfl (hb hby at_46) rfl ?_
      show Steps p.tables e below (T4.setTop (mkF m 47 #[.val (.int p1), .val (.int p2), .val (.int (1 : Int32)), .val (.int E0), .val (.int E1), .val (.int E2), .val (.ref b3), .unset, .unset] [(.int (1 : Int32))])) _
      refine XS.iconst X4.here hx rfl (hb hby at_47) ?_
      show Steps p.tables e below (T4.setTop (mkF m 48 #[.val (.int p1), .val (.int p2), .val (.int (1 : Int32)), .val (.int E0), .val (.int E1), .val (.int E2), .val (.ref b3), .unset, .unset] [(.int (2 : Int32)), (.int (1 : Int32))])) _
      refine XS.icmpYes X4.here hx rfl (pc0 := 48) (pc' := 57) rfl (hb hby at_48) rfl (flt (show ¬ ((2 : Int32) < (1 : Int32)) from by decide)).2.2.2 (by decide) (by decide) ?_
      show Steps p.tables e below (T4.setTop (mkF m 57 #[.val (.int p1), .val (.int p2), .val (.int (1 : Int32)), .val (.int E0), .val (.int E1), .val (.int E2), .val (.ref b3), .unset, .unset] [])) _
      refine XS.aload X4.here hx rfl (hb hby at_57) rfl rfl ?_
      show Steps p.tables e below (T4.setTop (mkF m 59 #[.val (.int p1), .val (.int p2), .val (.int (1 : Int32)), .val (.int E0), .val (.int E1), .val (.int E2), .val (.ref b3), .unset, .unset] [(.ref b3)])) _
      refine st10 _ ?_
      show Steps p.tables e below (T10.setTop (mkF m 62 #[.val (.int p1), .val (.int p2), .val (.int (1 : Int32)), .val (.int E0), .val (.int E1), .val (.int E2), .val (.ref b3), .unset, .unset] [(.ref ob)])) _
      refine XS.astore X10.here hx rfl (hb hby at_62) rfl rfl (l' := #[.val (.int p1), .val (.int p2), .val (.int (1 : Int32)), .val (.int E0), .val (.int E1), .val (.int E2), .val (.ref b3), .val (.ref ob), .unset]) rfl ?_
      show Steps p.tables e below (T10.setTop (mkF m 64 #[.val (.int p1), .val (.int p2), .val (.int (1 : Int32)), .val (.int E0), .val (.int E1), .val (.int E2), .val (.ref b3), .val (.ref ob), .unset] [])) _
      refine XS.iloadN X10.here hx rfl (hb hby at_64) rfl ?_
      show Steps p.tables e below (T10.setTop (mkF m 65 #[.val (.int p1), .val (.int p2), .val (.int (1 : Int32)), .val (.int E0), .val (.int E1), .val (.int E2), .val (.ref b3), .val (.ref ob), .unset] [(.int (1 : Int32))])) _
      refine XS.ifNo X10.here hx rfl (hb hby at_65) rfl ((if0 _ _).trans (tlt (show (0 : Int32) < (1 : Int32) from by decide)).2.2.2) ?_
      show Steps p.tables e below (T10.setTop (mkF m 68 #[.val (.int p1), .val (.int p2), .val (.int (1 : Int32)), .val (.int E0), .val (.int E1), .val (.int E2), .val (.ref b3), .val (.ref ob), .unset] [])) _
      refine XS.aload X10.here hx rfl (hb hby at_68) rfl rfl ?_
      show Steps p.tables e below (T10.setTop (mkF m 70 #[.val (.int p1), .val (.int p2), .val (.int (1 : Int32)), .val (.int E0), .val (.int E1), .val (.int E2), .val (.ref b3), .val (.ref ob), .unset] [(.ref b3)])) _
      refine XS.iconst X10.here hx rfl (hb hby at_70) ?_
      show Steps p.tables e below (T10.setTop (mkF m 71 #[.val (.int p1), .val (.int p2), .val (.int (1 : Int32)), .val (.int E0), .val (.int E1), .val (.int E2), .val (.ref b3), .val (.ref ob), .unset] [(.int (0 : Int32)), (.ref b3)])) _
      refine XS.iloadN X10.here hx rfl (hb hby at_71) rfl ?_
      show Steps p.tables e below (T10.setTop (mkF m 72 #[.val (.int p1), .val (.int p2), .val (.int (1 : Int32)), .val (.int E0), .val (.int E1), .val (.int E2), .val (.ref b3), .val (.ref ob), .unset] [(.int E0), (.int (0 : Int32)), (.ref b3)])) _
      refine XS.iconst X10.here hx rfl (hb hby at_72) ?_
      show Steps p.tables e below (T10.setTop (mkF m 73 #[.val (.int p1), .val (.int p2), .val (.int (1 : Int32)), .val (.int E0), .val (.int E1), .val (.int E2), .val (.ref b3), .val (.ref ob), .unset] [(.int (1 : Int32)), (.int E0), (.int (0 : Int32)), (.ref b3)])) _
      refine XS.ixor X10.here hx rfl (hb hby at_73) rfl ?_
      show Steps p.tables e below (T10.setTop (mkF m 74 #[.val (.int p1), .val (.int p2), .val (.int (1 : Int32)), .val (.int E0), .val (.int E1), .val (.int E2), .val (.ref b3), .val (.ref ob), .unset] [(.int (E0 ^^^ (1 : Int32))), (.int (0 : Int32)), (.ref b3)])) _
      refine XS.i2b X10.here hx rfl (hb hby at_74) rfl ?_
      show Steps p.tables e below (T10.setTop (mkF m 75 #[.val (.int p1), .val (.int p2), .val (.int (1 : Int32)), .val (.int E0), .val (.int E1), .val (.int E2), .val (.ref b3), .val (.ref ob), .unset] [(.int ((E0 ^^^ (1 : Int32)).toInt8.toInt32)), (.int (0 : Int32)), (.ref b3)])) _
      refine st11 _ ?_
      show Steps p.tables e below (T11.setTop (mkF m 76 #[.val (.int p1), .val (.int p2), .val (.int (1 : Int32)), .val (.int E0), .val (.int E1), .val (.int E2), .val (.ref b3), .val (.ref ob), .unset] [])) _
      refine XS.iloadN X11.here hx rfl (hb hby at_76) rfl ?_
      show Steps p.tables e below (T11.setTop (mkF m 77 #[.val (.int p1), .val (.int p2), .val (.int (1 : Int32)), .val (.int E0), .val (.int E1), .val (.int E2), .val (.ref b3), .val (.ref ob), .unset] [(.int (1 : Int32))])) _
      refine XS.iconst X11.here hx rfl (hb hby at_77) ?_
      show Steps p.tables e below (T11.setTop (mkF m 78 #[.val (.int p1), .val (.int p2), .val (.int (1 : Int32)), .val (.int E0), .val (.int E1), .val (.int E2), .val (.ref b3), .val (.ref ob), .unset] [(.int (1 : Int32)), (.int (1 : Int32))])) _
      refine XS.icmpYes X11.here hx rfl (pc0 := 78) (pc' := 90) rfl (hb hby at_78) rfl (flt (show ¬ ((1 : Int32) < (1 : Int32)) from by decide)).2.2.2 (by decide) (by decide) ?_
      show Steps p.tables e below (T11.setTop (mkF m 90 #[.val (.int p1), .val (.int p2), .val (.int (1 : Int32)), .val (.int E0), .val (.int E1), .val (.int E2), .val (.ref b3), .val (.ref ob), .unset] [])) _
      refine XS.iloadN X11.here hx rfl (hb hby at_90) rfl ?_
      show Steps p.tables e below (T11.setTop (mkF m 91 #[.val (.int p1), .val (.int p2), .val (.int (1 : Int32)), .val (.int E0), .val (.int E1), .val (.int E2), .val (.ref b3), .val (.ref ob), .unset] [(.int (1 : Int32))])) _
      refine XS.iconst X11.here hx rfl (hb hby at_91) ?_
      show Steps p.tables e below (T11.setTop (mkF m 92 #[.val (.int p1), .val (.int p2), .val (.int (1 : Int32)), .val (.int E0), .val (.int E1), .val (.int E2), .val (.ref b3), .val (.ref ob), .unset] [(.int (2 : Int32)), (.int (1 : Int32))])) _
      refine XS.icmpYes X11.here hx rfl (pc0 := 92) (pc' := 104) rfl (hb hby at_92) rfl (flt (show ¬ ((2 : Int32) < (1 : Int32)) from by decide)).2.2.2 (by decide) (by decide) ?_
      show Steps p.tables e below (T11.setTop (mkF m 104 #[.val (.int p1), .val (.int p2), .val (.int (1 : Int32)), .val (.int E0), .val (.int E1), .val (.int E2), .val (.ref b3), .val (.ref ob), .unset] [])) _
      refine XS.aload X11.here hx rfl (hb hby at_104) rfl rfl ?_
      show Steps p.tables e below (T11.setTop (mkF m 106 #[.val (.int p1), .val (.int p2), .val (.int (1 : Int32)), .val (.int E0), .val (.int E1), .val (.int E2), .val (.ref b3), .val (.ref ob), .unset] [(.ref ob)])) _
      refine st20.trans ?_
      show Steps p.tables e below (T20.setTop (mkF m 109 #[.val (.int p1), .val (.int p2), .val (.int (1 : Int32)), .val (.int E0), .val (.int E1), .val (.int E2), .val (.ref b3), .val (.ref ob), .unset] [(.ref rb)])) _
      refine XS.astore X20.here hx rfl (hb hby at_109) rfl rfl (l' := #[.val (.int p1), .val (.int p2), .val (.int (1 : Int32)), .val (.int E0), .val (.int E1), .val (.int E2), .val (.ref b3), .val (.ref ob), .val (.ref rb)]) rfl ?_
      show Steps p.tables e below (T20.setTop (mkF m 111 #[.val (.int p1), .val (.int p2), .val (.int (1 : Int32)), .val (.int E0), .val (.int E1), .val (.int E2), .val (.ref b3), .val (.ref ob), .val (.ref rb)] [])) _
      refine XS.aload X20.here hx rfl (hb hby at_111) rfl rfl ?_
      show Steps p.tables e below (T20.setTop (mkF m 113 #[.val (.int p1), .val (.int p2), .val (.int (1 : Int32)), .val (.int E0), .val (.int E1), .val (.int E2), .val (.ref b3), .val (.ref ob), .val (.ref rb)] [(.ref rb)])) _
      refine X20.arraylength hx ArR.1 (State.isArrayOf_alike hZ.alike ArR.2.1) (g := (mkF m 113 #[.val (.int p1), .val (.int p2), .val (.int (1 : Int32)), .val (.int E0), .val (.int E1), .val (.int E2), .val (.ref b3), .val (.ref ob), .val (.ref rb)] [(.ref rb)])) rfl rfl (hb hby at_113) _ ?_
      rw [len_of SR NR]
      show Steps p.tables e below (T20.setTop (mkF m 114 #[.val (.int p1), .val (.int p2), .val (.int (1 : Int32)), .val (.int E0), .val (.int E1), .val (.int E2), .val (.ref b3), .val (.ref ob), .val (.ref rb)] [(.int (1 : Int32))])) _
      refine XS.iloadN X20.here hx rfl (hb hby at_114) rfl ?_
      show Steps p.tables e below (T20.setTop (mkF m 115 #[.val (.int p1), .val (.int p2), .val (.int (1 : Int32)), .val (.int E0), .val (.int E1), .val (.int E2), .val (.ref b3), .val (.ref ob), .val (.ref rb)] [(.int (1 : Int32)), (.int (1 : Int32))])) _
      refine XS.icmpYes X20.here hx rfl (pc0 := 115) (pc' := 120) rfl (hb hby at_115) rfl (teq (show (1 : Int32) = (1 : Int32) from by decide)).1 (by decide) (by decide) ?_
      show Steps p.tables e below (T20.setTop (mkF m 120 #[.val (.int p1), .val (.int p2), .val (.int (1 : Int32)), .val (.int E0), .val (.int E1), .val (.int E2), .val (.ref b3), .val (.ref ob), .val (.ref rb)] [])) _
      refine XS.iloadN X20.here hx rfl (hb hby at_120) rfl ?_
      show Steps p.tables e below (T20.setTop (mkF m 121 #[.val (.int p1), .val (.int p2), .val (.int (1 : Int32)), .val (.int E0), .val (.int E1), .val (.int E2), .val (.ref b3), .val (.ref ob), .val (.ref rb)] [(.int (1 : Int32))])) _
      refine XS.ifNo X20.here hx rfl (hb hby at_121) rfl ((if0 _ _).trans (tlt (show (0 : Int32) < (1 : Int32) from by decide)).2.2.2) ?_
      show Steps p.tables e below (T20.setTop (mkF m 124 #[.val (.int p1), .val (.int p2), .val (.int (1 : Int32)), .val (.int E0), .val (.int E1), .val (.int E2), .val (.ref b3), .val (.ref ob), .val (.ref rb)] [])) _
      refine XS.aload X20.here hx rfl (hb hby at_124) rfl rfl ?_
      show Steps p.tables e below (T20.setTop (mkF m 126 #[.val (.int p1), .val (.int p2), .val (.int (1 : Int32)), .val (.int E0), .val (.int E1), .val (.int E2), .val (.ref b3), .val (.ref ob), .val (.ref rb)] [(.ref rb)])) _
      refine XS.iconst X20.here hx rfl (hb hby at_126) ?_
      show Steps p.tables e below (T20.setTop (mkF m 127 #[.val (.int p1), .val (.int p2), .val (.int (1 : Int32)), .val (.int E0), .val (.int E1), .val (.int E2), .val (.ref b3), .val (.ref ob), .val (.ref rb)] [(.int (0 : Int32)), (.ref rb)])) _
      refine X20.baloadBytes hx (j := (0 : Int32)) (v := (.int E0)) ArR.1 (State.isArrayOf_alike hZ.alike ArR.2.1) ArR.2.2 hin127 hat127 (g := (mkF m 127 #[.val (.int p1), .val (.int p2), .val (.int (1 : Int32)), .val (.int E0), .val (.int E1), .val (.int E2), .val (.ref b3), .val (.ref ob), .val (.ref rb)] [(.int (0 : Int32)), (.ref rb)])) rfl rfl (hb hby at_127) _ ?_
      show Steps p.tables e below (T20.setTop (mkF m 128 #[.val (.int p1), .val (.int p2), .val (.int (1 : Int32)), .val (.int E0), .val (.int E1), .val (.int E2), .val (.ref b3), .val (.ref ob), .val (.ref rb)] [(.int E0)])) _
      refine XS.iloadN X20.here hx rfl (hb hby at_128) rfl ?_
      show Steps p.tables e below (T20.setTop (mkF m 129 #[.val (.int p1), .val (.int p2), .val (.int (1 : Int32)), .val (.int E0), .val (.int E1), .val (.int E2), .val (.ref b3), .val (.ref ob), .val (.ref rb)] [(.int E0), (.int E0)])) _
      refine XS.icmpYes X20.here hx rfl (pc0 := 129) (pc' := 134) rfl (hb hby at_129) rfl (teq rfl).1 (by decide) (by decide) ?_
      show Steps p.tables e below (T20.setTop (mkF m 134 #[.val (.int p1), .val (.int p2), .val (.int (1 : Int32)), .val (.int E0), .val (.int E1), .val (.int E2), .val (.ref b3), .val (.ref ob), .val (.ref rb)] [])) _
      refine XS.iloadN X20.here hx rfl (hb hby at_134) rfl ?_
      show Steps p.tables e below (T20.setTop (mkF m 135 #[.val (.int p1), .val (.int p2), .val (.int (1 : Int32)), .val (.int E0), .val (.int E1), .val (.int E2), .val (.ref b3), .val (.ref ob), .val (.ref rb)] [(.int (1 : Int32))])) _
      refine XS.iconst X20.here hx rfl (hb hby at_135) ?_
      show Steps p.tables e below (T20.setTop (mkF m 136 #[.val (.int p1), .val (.int p2), .val (.int (1 : Int32)), .val (.int E0), .val (.int E1), .val (.int E2), .val (.ref b3), .val (.ref ob), .val (.ref rb)] [(.int (1 : Int32)), (.int (1 : Int32))])) _
      refine XS.icmpYes X20.here hx rfl (pc0 := 136) (pc' := 150) rfl (hb hby at_136) rfl (flt (show ¬ ((1 : Int32) < (1 : Int32)) from by decide)).2.2.2 (by decide) (by decide) ?_
      show Steps p.tables e below (T20.setTop (mkF m 150 #[.val (.int p1), .val (.int p2), .val (.int (1 : Int32)), .val (.int E0), .val (.int E1), .val (.int E2), .val (.ref b3), .val (.ref ob), .val (.ref rb)] [])) _
      refine XS.iloadN X20.here hx rfl (hb hby at_150) rfl ?_
      show Steps p.tables e below (T20.setTop (mkF m 151 #[.val (.int p1), .val (.int p2), .val (.int (1 : Int32)), .val (.int E0), .val (.int E1), .val (.int E2), .val (.ref b3), .val (.ref ob), .val (.ref rb)] [(.int (1 : Int32))])) _
      refine XS.iconst X20.here hx rfl (hb hby at_151) ?_
      show Steps p.tables e below (T20.setTop (mkF m 152 #[.val (.int p1), .val (.int p2), .val (.int (1 : Int32)), .val (.int E0), .val (.int E1), .val (.int E2), .val (.ref b3), .val (.ref ob), .val (.ref rb)] [(.int (2 : Int32)), (.int (1 : Int32))])) _
      refine XS.icmpYes X20.here hx rfl (pc0 := 152) (pc' := 166) rfl (hb hby at_152) rfl (flt (show ¬ ((2 : Int32) < (1 : Int32)) from by decide)).2.2.2 (by decide) (by decide) ?_
      show Steps p.tables e below (T20.setTop (mkF m 166 #[.val (.int p1), .val (.int p2), .val (.int (1 : Int32)), .val (.int E0), .val (.int E1), .val (.int E2), .val (.ref b3), .val (.ref ob), .val (.ref rb)] [])) _
      refine XS.iconst X20.here hx rfl (hb hby at_166) ?_
      show Steps p.tables e below (T20.setTop (mkF m 167 #[.val (.int p1), .val (.int p2), .val (.int (1 : Int32)), .val (.int E0), .val (.int E1), .val (.int E2), .val (.ref b3), .val (.ref ob), .val (.ref rb)] [(.int (1 : Int32))])) _
      exact retN X20 hx (t := .boolean) Bd.returns (by simp) (hb hby at_167) hr
    · show Q0 Z p1 p2 h0 n0 _ T20.heap _
      exact ⟨rfl, N20⟩
  · obtain ⟨T3, h3, k3, X3, e3, E3, A3, Ex3, st3⟩ := newPE X0 hx hZ (hw _ (List.mem_of_getElem? (i := 0) rfl)) e0 (g := (mkF m 22 #[.val (.int p1), .val (.int p2), .val (.int (2 : Int32)), .val (.int E0), .val (.int E1), .val (.int E2), .unset, .unset, .unset] [(.int (2 : Int32))])) rfl (hb hby at_22) rfl (by decide) (cap := 3) (by decide) (by decide) (by decide) (by decide) (ad := "[B") rfl
    obtain ⟨b3, g3⟩ : ∃ z, z = h0.size := ⟨_, rfl⟩
    rw [← g3] at A3 Ex3 st3
    have V3 : Arv Z h3 b3 k3 .byte (2 : Int32) [(.int (0 : Int32)), (.int (0 : Int32))] (.int (0 : Int32)) := (Arv.new A3 (by decide)).pad (pad_rep [] (.int (0 : Int32)) 2)
    have g_b3 : n0 ≤ b3 := Nat.le_trans Z0 (Nat.le_of_eq g3.symm)
    have sz_b3 : h0.size ≤ b3 := Nat.le_of_eq g3.symm
    have K3 : Keep h0 h3 [] := (Keep.refl h0 []).ext E3
    obtain ⟨cl4, Ar4, q4, S4, N4', H4, G4⟩ := V3
    have hin34 : ¬ ((0 : Int32) < 0 ∨ cl4.slots.size ≤ ((0 : Int32)).toNatClampNeg) := inb_of S4 ⟨by decide, by decide⟩
    obtain ⟨T4, h4, X4, e4, W4, st4⟩ := stB X3 hx hZ e3 Ar4 (j := (0 : Int32)) hin34 (g := (mkF m 34 #[.val (.int p1), .val (.int p2), .val (.int (2 : Int32)), .val (.int E0), .val (.int E1), .val (.int E2), .val (.ref b3), .unset, .unset] [(.int E0), (.int (0 : Int32)), (.ref b3)])) rfl rfl (hb hby at_34)
    have V4 : Arv Z h4 b3 k3 .byte (2 : Int32) [(.int E0), (.int (0 : Int32))] (.int (0 : Int32)) := by
      have q := Arv.set Ar4 q4 S4 N4' H4 G4 (fits_nar_byte _) W4 0 rfl (Nat.le_of_ble_eq_true rfl)
      rw [bE0] at q
      exact q
    have K4 : Keep h0 h4 [] := K3.wr W4 (Or.inr sz_b3)
    have N4 := Fr.snoc X4 N0 g_b3
    obtain ⟨cl5, Ar5, q5, S5, N5', H5, G5⟩ := V4
    have hin45 : ¬ ((1 : Int32) < 0 ∨ cl5.slots.size ≤ ((1 : Int32)).toNatClampNeg) := inb_of S5 ⟨by decide, by decide⟩
    obtain ⟨T5, h5, X5, e5, W5, st5⟩ := stB X4 hx hZ e4 Ar5 (j := (1 : Int32)) hin45 (g := (mkF m 45 #[.val (.int p1), .val (.int p2), .val (.int (2 : Int32)), .val (.int E0), .val (.int E1), .val (.int E2), .val (.ref b3), .unset, .unset] [(.int E1), (.int (1 : Int32)), (.ref b3)])) rfl rfl (hb hby at_45)
    have V5 : Arv Z h5 b3 k3 .byte (2 : Int32) [(.int E0), (.int E1)] (.int (0 : Int32)) := by
      have q := Arv.set Ar5 q5 S5 N5' H5 G5 (fits_nar_byte _) W5 1 rfl (Nat.le_of_ble_eq_true rfl)
      rw [bE1] at q
      exact q
    have K5 : Keep h0 h5 [] := K4.wr W5 (Or.inr sz_b3)
    have N5 := Fr.snoc X5 N4 g_b3
    have Zc : n0 ≤ h5.size := Nat.le_trans Z0 K5.1
    have Vc := V5
    have Ec : Exa Z h5 b3 "[B" := ((Ex3.wr W4).wr W5)
    obtain ⟨_, _, ⟨T10, L10, k10, n10⟩, -, X10, ⟨Lc10, hQ10, l10, y10, z10⟩, st10⟩ := Jvm.LawKit.callS X5 hx (y := (⟨"com/example/strict_access/strictaccess/ObjectId", "of", "([B)Lcom/example/strict_access/strictaccess/ObjectId;"⟩ : MethodName)) hown (mvT hZ (hw _ (List.mem_of_getElem? (i := 1) rfl))) (mvT hZ (hw _ (List.mem_of_getElem? (i := 2) rfl))) (mvT hZ (hw _ (List.mem_of_getElem? (i := 3) rfl))) (mvT hZ (hw _ (List.mem_of_getElem? (i := 4) rfl))) (by decide) (backOf (W := 0) (rm1 l Z a0 hw [] b3 k3 (2 : Int32) [(.int E0), (.int E1)] (.int (0 : Int32)) h5 n0 Zc Vc Ec (by decide)) hZ (hw _ (List.mem_of_getElem? (i := 4) rfl)) (hw _ (List.mem_of_getElem? (i := 3) rfl)) (by decide) (by decide)) (g := (mkF m 59 #[.val (.int p1), .val (.int p2), .val (.int (2 : Int32)), .val (.int E0), .val (.int E1), .val (.int E2), .val (.ref b3), .unset, .unset] [(.ref b3)])) rfl (by rw [hml]; rfl) (argsL := [(.ref b3)]) (rest := []) (lenOf pd_0_0 rfl) rfl (by show 2 * 0 + _ ≤ _; exact Nat.le_of_eq rfl) (hb hby at_59) (fun _ _ => ⟨rfl, e5, (by decide : 1 + 2 ≤ _), (by decide : 3 + 4 ≤ _)⟩)
    dsimp only [Pt.U, Pt.locs, Pt.cells, Pt.slots] at X10 l10 y10 z10 st10 hQ10
    subst l10 y10 z10
    obtain ⟨rfl, N10q, K10c, E10, cc, szc, F10, Vcc, Ecc⟩ := hQ10
    have N10 := Fr.app N5 N10q
    obtain ⟨ob, gob⟩ : ∃ z, z = h5.size := ⟨_, rfl⟩
    rw [← gob] at E10 F10 st10
    have K10 : Keep h0 T10.heap [] := K5.trans K10c all0
    have V10 := Vc.keep K10c nin0
    have lt3 : b3 < h5.size := Vc.lt
    have neob : ob ≠ b3 := fun q => absurd lt3 (by rw [← q, gob]; exact Nat.lt_irrefl _)
    have necc : cc ≠ b3 := fun q => absurd lt3 (by rw [← q]; exact Nat.not_lt.mpr szc)
    obtain ⟨cl11, Ar11, q11, S11, N11', H11, G11⟩ := V10
    have hin75 : ¬ ((0 : Int32) < 0 ∨ cl11.slots.size ≤ ((0 : Int32)).toNatClampNeg) := inb_of S11 ⟨by decide, by decide⟩
    obtain ⟨T11, h11, X11, e11, W11, st11⟩ := stB X10 hx hZ rfl Ar11 (j := (0 : Int32)) hin75 (g := (mkF m 75 #[.val (.int p1), .val (.int p2), .val (.int (2 : Int32)), .val (.int E0), .val (.int E1), .val (.int E2), .val (.ref b3), .val (.ref ob), .unset] [(.int ((E0 ^^^ (1 : Int32)).toInt8.toInt32)), (.int (0 : Int32)), (.ref b3)])) rfl rfl (hb hby at_75)
    have V11 := Arv.set Ar11 q11 S11 N11' H11 G11 (fits_nar_byte _) W11 0 rfl (Nat.le_of_ble_eq_true rfl)
    have K11 : Keep h0 h11 [] := K10.wr W11 (Or.inr sz_b3)
    have N11 := Fr.snoc X11 N10 g_b3
    obtain ⟨cl12, Ar12, q12, S12, N12', H12, G12⟩ := V11
    have hin89 : ¬ ((1 : Int32) < 0 ∨ cl12.slots.size ≤ ((1 : Int32)).toNatClampNeg) := inb_of S12 ⟨by decide, by decide⟩
    obtain ⟨T12, h12, X12, e12, W12, st12⟩ := stB X11 hx hZ e11 Ar12 (j := (1 : Int32)) hin89 (g := (mkF m 89 #[.val (.int p1), .val (.int p2), .val (.int (2 : Int32)), .val (.int E0), .val (.int E1), .val (.int E2), .val (.ref b3), .val (.ref ob), .unset] [(.int ((E1 ^^^ (1 : Int32)).toInt8.toInt32)), (.int (1 : Int32)), (.ref b3)])) rfl rfl (hb hby at_89)
    have V12 := Arv.set Ar12 q12 S12 N12' H12 G12 (fits_nar_byte _) W12 1 rfl (Nat.le_of_ble_eq_true rfl)
    have K12 : Keep h0 h12 [] := K11.wr W12 (Or.inr sz_b3)
    have N12 := Fr.snoc X12 N11 g_b3
    have Zd : n0 ≤ h12.size := Nat.le_trans Z0 K12.1
    have Eo := ((E10.wr W11).wr W12)
    obtain ⟨cq, kq, qa, qb, qc⟩ := isOf hZ e12 Eo
    obtain ⟨_, _, ⟨T20, L20, k20, n20⟩, -, X20, ⟨Lc20, hQ20, l20, y20, z20⟩, st20⟩ := X12.virtualBack hx (y := (⟨"com/example/strict_access/strictaccess/ObjectId", "bytes", "()[B"⟩ : MethodName)) (z := (⟨"com/example/strict_access/strictaccess/ObjectId", "bytes", "()[B"⟩ : MethodName)) hown (mvT hZ (hw _ (List.mem_of_getElem? (i := 24) rfl))) (mvT hZ (hw _ (List.mem_of_getElem? (i := 25) rfl))) (notFace_of_selects (args := #[]) (mvT hZ (hw _ (List.mem_of_getElem? (i := 27) rfl)))) (mvT hZ (hw _ (List.mem_of_getElem? (i := 27) rfl))) (mvT hZ (hw _ (List.mem_of_getElem? (i := 26) rfl))) (by decide) (backOf (W := 0) (rm4 l Z a0 hw [] ob cc k3 (2 : Int32) [(.int E0), (.int E1)] (.int (0 : Int32)) h12 n0 Zd ((F10.other W11 (Or.inl neob)).other W12 (Or.inl neob)) ((Vcc.other W11 necc).other W12 necc) ((Ecc.wr W11).wr W12) (by decide)) hZ (hw _ (List.mem_of_getElem? (i := 28) rfl)) (hw _ (List.mem_of_getElem? (i := 3) rfl)) (by decide) (by decide)) qa qc (g := (mkF m 106 #[.val (.int p1), .val (.int p2), .val (.int (2 : Int32)), .val (.int E0), .val (.int E1), .val (.int E2), .val (.ref b3), .val (.ref ob), .unset] [(.ref ob)])) rfl (by rw [hml]; rfl) (Steps.refl _) (argsL := []) (rest := []) (lenOf pd_0_4 rfl) rfl (by show 2 * 0 + _ ≤ _; exact Nat.le_of_eq rfl) (hb hby at_106) (fun _ _ => ⟨rfl, e12, (by decide : 3 + 1 ≤ _), (by decide : 7 + 3 ≤ _)⟩)
    dsimp only [Pt.U, Pt.locs, Pt.cells, Pt.slots] at X20 l20 y20 z20 st20 hQ20
    subst l20 y20 z20
    obtain ⟨rfl, N20q, K20c, Vr⟩ := hQ20
    have N20 := Fr.app N12 N20q
    obtain ⟨rb, grb⟩ : ∃ z, z = h12.size := ⟨_, rfl⟩
    rw [← grb] at Vr st20
    obtain ⟨clR, ArR, qR, SR, NR, HR, GR⟩ := Vr
    have hin127 : ¬ ((0 : Int32) < 0 ∨ clR.slots.size ≤ ((0 : Int32)).toNatClampNeg) := inb_of SR ⟨by decide, by decide⟩
    have hat127 : clR.slots[((0 : Int32)).toNatClampNeg]? = some (.int E0) := HR.at hin127 rfl
    have hin142 : ¬ ((1 : Int32) < 0 ∨ clR.slots.size ≤ ((1 : Int32)).toNatClampNeg) := inb_of SR ⟨by decide, by decide⟩
    have hat142 : clR.slots[((1 : Int32)).toNatClampNeg]? = some (.int E1) := HR.at hin142 rfl
    obtain ⟨fs, hr, hrun, hended, hW, hsame⟩ := X20.leave (v := some (.int (1 : Int32))) (fun h => by rw [Bd.returns] at h; cases h)
    refine ⟨_, _, pre0 _ ?_, hrun, hended, _, _, rfl, ?_, ⟨_, rfl⟩, hW, hsame.mono (by decide) (by decide)⟩
    · refine sg _ ?_
      show Steps p.tables e below (s₁.setTop (mkF m 21 #[.val (.int p1), .val (.int p2), .val (.int (2 : Int32)), .val (.int E0), .val (.int E1), .val (.int E2), .unset, .unset, .unset] [])) _
      refine XS.iloadN X0.here hx rfl (hb hby at_21) rfl ?_
      show Steps p.tables e below (s₁.setTop (mkF m 22 #[.val (.int p1), .val (.int p2), .val (.int (2 : Int32)), .val (.int E0), .val (.int E1), .val (.int E2), .unset, .unset, .unset] [(.int (2 : Int32))])) _
      refine st3 _ ?_
      show Steps p.tables e below (T3.setTop (mkF m 24 #[.val (.int p1), .val (.int p2), .val (.int (2 : Int32)), .val (.int E0), .val (.int E1), .val (.int E2), .unset, .unset, .unset] [(.ref b3)])) _
      refine XS.astore X3.here hx rfl (hb hby at_24) rfl rfl (l' := #[.val (.int p1), .val (.int p2), .val (.int (2 : Int32)), .val (.int E0), .val (.int E1), .val (.int E2), .val (.ref b3), .unset, .unset]) rfl ?_
      show Steps p.tables e below (T3.setTop (mkF m 26 #[.val (.int p1), .val (.int p2), .val (.int (2 : Int32)), .val (.int E0), .val (.int E1), .val (.int E2), .val (.ref b3), .unset, .unset] [])) _
      refine XS.iloadN X3.here hx rfl (hb hby at_26) rfl ?_
      show Steps p.tables e below (T3.setTop (mkF m 27 #[.val (.int p1), .val (.int p2), .val (.int (2 : Int32)), .val (.int E0), .val (.int E1), .val (.int E2), .val (.ref b3), .unset, .unset] [(.int (2 : Int32))])) _
      refine XS.ifNo X3.here hx rfl (hb hby at_27) rfl ((if0 _ _).trans (tlt (show (0 : Int32) < (2 : Int32) from by decide)).2.2.2) ?_
      show Steps p.tables e below (T3.setTop (mkF m 30 #[.val (.int p1), .val (.int p2), .val (.int (2 : Int32)), .val (.int E0), .val (.int E1), .val (.int E2), .val (.ref b3), .unset, .unset] [])) _
      refine XS.aload X3.here hx rfl (hb hby at_30) rfl rfl ?_
      show Steps p.tables e below (T3.setTop (mkF m 32 #[.val (.int p1), .val (.int p2), .val (.int (2 : Int32)), .val (.int E0), .val (.int E1), .val (.int E2), .val (.ref b3), .unset, .unset] [(.ref b3)])) _
      refine XS.iconst X3.here hx rfl (hb hby at_32) ?_
      show Steps p.tables e below (T3.setTop (mkF m 33 #[.val (.int p1), .val (.int p2), .val (.int (2 : Int32)), .val (.int E0), .val (.int E1), .val (.int E2), .val (.ref b3), .unset, .unset] [(.int (0 : Int32)), (.ref b3)])) _
      refine XS.iloadN X3.here hx rfl (hb hby at_33) rfl ?_
      show Steps p.tables e below (T3.setTop (mkF m 34 #[.val (.int p1), .val (.int p2), .val (.int (2 : Int32)), .val (.int E0), .val (.int E1), .val (.int E2), .val (.ref b3), .unset, .unset] [(.int E0), (.int (0 : Int32)), (.ref b3)])) _
      refine st4 _ ?_
      show Steps p.tables e below (T4.setTop (mkF m 35 #[.val (.int p1), .val (.int p2), .val (.int (2 : Int32)), .val (.int E0), .val (.int E1), .val (.int E2), .val (.ref b3), .unset, .unset] [])) _
      refine XS.iloadN X4.here hx rfl (hb hby at_35) rfl ?_
      show Steps p.tables e below (T4.setTop (mkF m 36 #[.val (.int p1), .val (.int p2), .val (.int (2 : Int32)), .val (.int E0), .val (.int E1), .val (.int E2), .val (.ref b3), .unset, .unset] [(.int (2 : Int32))])) _
      refine XS.iconst X4.here hx rfl (hb hby at_36) ?_
      show Steps p.tables e below (T4.setTop (mkF m 37 #[.val (.int p1), .val (.int p2), .val (.int (2 : Int32)), .val (.int E0), .val (.int E1), .val (.int E2), .val (.ref b3), .unset, .unset] [(.int (1 : Int32)), (.int (2 : Int32))])) _
      refine XS.icmpNo X4.here hx rfl (hb hby at_37) rfl (tlt (show (1 : Int32) < (2 : Int32) from by decide)).2.2.2 ?_
      show Steps p.tables e below (T4.setTop (mkF m 40 #[.val (.int p1), .val (.int p2), .val (.int (2 : Int32)), .val (.int E0), .val (.int E1), .val (.int E2), .val (.ref b3), .unset, .unset] [])) _
      refine XS.aload X4.here hx rfl (hb hby at_40) rfl rfl ?_
      show Steps p.tables e below (T4.setTop (mkF m 42 #[.val (.int p1), .val (.int p2), .val (.int (2 : Int32)), .val (.int E0), .val (.int E1), .val (.int E2), .val (.ref b3), .unset, .unset] [(.ref b3)])) _
      refine XS.iconst X4.here hx rfl (hb hby at_42) ?_
      show Steps p.tables e below (T4.setTop (mkF m 43 #[.val (.int p1), .val (.int p2), .val (.int (2 : Int32)), .val (.int E0), .val (.int E1), .val (.int E2), .val (.ref b3), .unset, .unset] [(.int (1 : Int32)), (.ref b3)])) _
      refine XS.iload X4.here hx rfl (hb hby at_43) rfl ?_
      show Steps p.tables e below (T4.setTop (mkF m 45 #[.val (.int p1), .val (.int p2), .val (.int (2 : Int32)), .val (.int E0), .val (.int E1), .val (.int E2), .val (.ref b3), .unset, .unset] [(.int E1), (.int (1 : Int32)), (.ref b3)])) _
      refine st5 _ ?_
      show Steps p.tables e below (T5.setTop (mkF m 46 #[.val (.int p1), .val (.int p2), .val (.int (2 : Int32)), .val (.int E0), .val (.int E1), .val (.int E2), .val (.ref b3), .unset, .unset] [])) _
      refine XS.iloadN X5.here hx rfl (hb hby at_46) rfl ?_
      show Steps p.tables e below (T5.setTop (mkF m 47 #[.val (.int p1), .val (.int p2), .val (.int (2 : Int32)), .val (.int E0), .val (.int E1), .val (.int E2), .val (.ref b3), .unset, .unset] [(.int (2 : Int32))])) _
      refine XS.iconst X5.here hx rfl (hb hby at_47) ?_
      show Steps p.tables e below (T5.setTop (mkF m 48 #[.val (.int p1), .val (.int p2), .val (.int (2 : Int32)), .val (.int E0), .val (.int E1), .val (.int E2), .val (.ref b3), .unset, .unset] [(.int (2 : Int32)), (.int (2 : Int32))])) _
      refine XS.icmpYes X5.here hx rfl (pc0 := 48) (pc' := 57) rfl (hb hby at_48) rfl (flt (show ¬ ((2 : Int32) < (2 : Int32)) from by decide)).2.2.2 (by decide) (by decide) ?_
      show Steps p.tables e below (T5.setTop (mkF m 57 #[.val (.int p1), .val (.int p2), .val (.int (2 : Int32)), .val (.int E0), .val (.int E1), .val (.int E2), .val (.ref b3), .unset, .unset] [])) _
      refine XS.aload X5.here hx rfl (hb hby at_57) rfl rfl ?_
      show Steps p.tables e below (T5.setTop (mkF m 59 #[.val (.int p1), .val (.int p2), .val (.int (2 : Int32)), .val (.int E0), .val (.int E1), .val (.int E2), .val (.ref b3), .unset, .unset] [(.ref b3)])) _
      refine st10 _ ?_
      show Steps p.tables e below (T10.setTop (mkF m 62 #[.val (.int p1), .val (.int p2), .val (.int (2 : Int32)), .val (.int E0), .val (.int E1), .val (.int E2), .val (.ref b3), .unset, .unset] [(.ref ob)])) _
      refine XS.astore X10.here hx rfl (hb hby at_62) rfl rfl (l' := #[.val (.int p1), .val (.int p2), .val (.int (2 : Int32)), .val (.int E0), .val (.int E1), .val (.int E2), .val (.ref b3), .val (.ref ob), .unset]) rfl ?_
      show Steps p.tables e below (T10.setTop (mkF m 64 #[.val (.int p1), .val (.int p2), .val (.int (2 : Int32)), .val (.int E0), .val (.int E1), .val (.int E2), .val (.ref b3), .val (.ref ob), .unset] [])) _
      refine XS.iloadN X10.here hx rfl (hb hby at_64) rfl ?_
      show Steps p.tables e below (T10.setTop (mkF m 65 #[.val (.int p1), .val (.int p2), .val (.int (2 : Int32)), .val (.int E0), .val (.int E1), .val (.int E2), .val (.ref b3), .val (.ref ob), .unset] [(.int (2 : Int32))])) _
      refine XS.ifNo X10.here hx rfl (hb hby at_65) rfl ((if0 _ _).trans (tlt (show (0 : Int32) < (2 : Int32) from by decide)).2.2.2) ?_
      show Steps p.tables e below (T10.setTop (mkF m 68 #[.val (.int p1), .val (.int p2), .val (.int (2 : Int32)), .val (.int E0), .val (.int E1), .val (.int E2), .val (.ref b3), .val (.ref ob), .unset] [])) _
      refine XS.aload X10.here hx rfl (hb hby at_68) rfl rfl ?_
      show Steps p.tables e below (T10.setTop (mkF m 70 #[.val (.int p1), .val (.int p2), .val (.int (2 : Int32)), .val (.int E0), .val (.int E1), .val (.int E2), .val (.ref b3), .val (.ref ob), .unset] [(.ref b3)])) _
      refine XS.iconst X10.here hx rfl (hb hby at_70) ?_
      show Steps p.tables e below (T10.setTop (mkF m 71 #[.val (.int p1), .val (.int p2), .val (.int (2 : Int32)), .val (.int E0), .val (.int E1), .val (.int E2), .val (.ref b3), .val (.ref ob), .unset] [(.int (0 : Int32)), (.ref b3)])) _
      refine XS.iloadN X10.here hx rfl (hb hby at_71) rfl ?_
      show Steps p.tables e below (T10.setTop (mkF m 72 #[.val (.int p1), .val (.int p2), .val (.int (2 : Int32)), .val (.int E0), .val (.int E1), .val (.int E2), .val (.ref b3), .val (.ref ob), .unset] [(.int E0), (.int (0 : Int32)), (.ref b3)])) _
      refine XS.iconst X10.here hx rfl (hb hby at_72) ?_
      show Steps p.tables e below (T10.setTop (mkF m 73 #[.val (.int p1), .val (.int p2), .val (.int (2 : Int32)), .val (.int E0), .val (.int E1), .val (.int E2), .val (.ref b3), .val (.ref ob), .unset] [(.int (1 : Int32)), (.int E0), (.int (0 : Int32)), (.ref b3)])) _
      refine XS.ixor X10.here hx rfl (hb hby at_73) rfl ?_
      show Steps p.tables e below (T10.setTop (mkF m 74 #[.val (.int p1), .val (.int p2), .val (.int (2 : Int32)), .val (.int E0), .val (.int E1), .val (.int E2), .val (.ref b3), .val (.ref ob), .unset] [(.int (E0 ^^^ (1 : Int32))), (.int (0 : Int32)), (.ref b3)])) _
      refine XS.i2b X10.here hx rfl (hb hby at_74) rfl ?_
      show Steps p.tables e below (T10.setTop (mkF m 75 #[.val (.int p1), .val (.int p2), .val (.int (2 : Int32)), .val (.int E0), .val (.int E1), .val (.int E2), .val (.ref b3), .val (.ref ob), .unset] [(.int ((E0 ^^^ (1 : Int32)).toInt8.toInt32)), (.int (0 : Int32)), (.ref b3)])) _
      refine st11 _ ?_
      show Steps p.tables e below (T11.setTop (mkF m 76 #[.val (.int p1), .val (.int p2), .val (.int (2 : Int32)), .val (.int E0), .val (.int E1), .val (.int E2), .val (.ref b3), .val (.ref ob), .unset] [])) _
      refine XS.iloadN X11.here hx rfl (hb hby at_76) rfl ?_
      show Steps p.tables e below (T11.setTop (mkF m 77 #[.val (.int p1), .val (.int p2), .val (.int (2 : Int32)), .val (.int E0), .val (.int E1), .val (.int E2), .val (.ref b3), .val (.ref ob), .unset] [(.int (2 : Int32))])) _
      refine XS.iconst X11.here hx rfl (hb hby at_77) ?_
      show Steps p.tables e below (T11.setTop (mkF m 78 #[.val (.int p1), .val (.int p2), .val (.int (2 : Int32)), .val (.int E0), .val (.int E1), .val (.int E2), .val (.ref b3), .val (.ref ob), .unset] [(.int (1 : Int32)), (.int (2 : Int32))])) _
      refine XS.icmpNo X11.here hx rfl (hb hby at_78) rfl (tlt (show (1 : Int32) < (2 : Int32) from by decide)).2.2.2 ?_
      show Steps p.tables e below (T11.setTop (mkF m 81 #[.val (.int p1), .val (.int p2), .val (.int (2 : Int32)), .val (.int E0), .val (.int E1), .val (.int E2), .val (.ref b3), .val (.ref ob), .unset] [])) _
      refine XS.aload X11.here hx rfl (hb hby at_81) rfl rfl ?_
      show Steps p.tables e below (T11.setTop (mkF m 83 #[.val (.int p1), .val (.int p2), .val (.int (2 : Int32)), .val (.int E0), .val (.int E1), .val (.int E2), .val (.ref b3), .val (.ref ob), .unset] [(.ref b3)])) _
      refine XS.iconst X11.here hx rfl (hb hby at_83) ?_
      show Steps p.tables e below (T11.setTop (mkF m 84 #[.val (.int p1), .val (.int p2), .val (.int (2 : Int32)), .val (.int E0), .val (.int E1), .val (.int E2), .val (.ref b3), .val (.ref ob), .unset] [(.int (1 : Int32)), (.ref b3)])) _
      refine XS.iload X11.here hx rfl (hb hby at_84) rfl ?_
      show Steps p.tables e below (T11.setTop (mkF m 86 #[.val (.int p1), .val (.int p2), .val (.int (2 : Int32)), .val (.int E0), .val (.int E1), .val (.int E2), .val (.ref b3), .val (.ref ob), .unset] [(.int E1), (.int (1 : Int32)), (.ref b3)])) _
      refine XS.iconst X11.here hx rfl (hb hby at_86) ?_
      show Steps p.tables e below (T11.setTop (mkF m 87 #[.val (.int p1), .val (.int p2), .val (.int (2 : Int32)), .val (.int E0), .val (.int E1), .val (.int E2), .val (.ref b3), .val (.ref ob), .unset] [(.int (1 : Int32)), (.int E1), (.int (1 : Int32)), (.ref b3)])) _
      refine XS.ixor X11.here hx rfl (hb hby at_87) rfl ?_
      show Steps p.tables e below (T11.setTop (mkF m 88 #[.val (.int p1), .val (.int p2), .val (.int (2 : Int32)), .val (.int E0), .val (.int E1), .val (.int E2), .val (.ref b3), .val (.ref ob), .unset] [(.int (E1 ^^^ (1 : Int32))), (.int (1 : Int32)), (.ref b3)])) _
      refine XS.i2b X11.here hx rfl (hb hby at_88) rfl ?_
      show Steps p.tables e below (T11.setTop (mkF m 89 #[.val (.int p1), .val (.int p2), .val (.int (2 : Int32)), .val (.int E0), .val (.int E1), .val (.int E2), .val (.ref b3), .val (.ref ob), .unset] [(.int ((E1 ^^^ (1 : Int32)).toInt8.toInt32)), (.int (1 : Int32)), (.ref b3)])) _
      refine st12 _ ?_
      show Steps p.tables e below (T12.setTop (mkF m 90 #[.val (.int p1), .val (.int p2), .val (.int (2 : Int32)), .val (.int E0), .val (.int E1), .val (.int E2), .val (.ref b3), .val (.ref ob), .unset] [])) _
      refine XS.iloadN X12.here hx rfl (hb hby at_90) rfl ?_
      show Steps p.tables e below (T12.setTop (mkF m 91 #[.val (.int p1), .val (.int p2), .val (.int (2 : Int32)), .val (.int E0), .val (.int E1), .val (.int E2), .val (.ref b3), .val (.ref ob), .unset] [(.int (2 : Int32))])) _
      refine XS.iconst X12.here hx rfl (hb hby at_91) ?_
      show Steps p.tables e below (T12.setTop (mkF m 92 #[.val (.int p1), .val (.int p2), .val (.int (2 : Int32)), .val (.int E0), .val (.int E1), .val (.int E2), .val (.ref b3), .val (.ref ob), .unset] [(.int (2 : Int32)), (.int (2 : Int32))])) _
      refine XS.icmpYes X12.here hx rfl (pc0 := 92) (pc' := 104) rfl (hb hby at_92) rfl (flt (show ¬ ((2 : Int32) < (2 : Int32)) from by decide)).2.2.2 (by decide) (by decide) ?_
      show Steps p.tables e below (T12.setTop (mkF m 104 #[.val (.int p1), .val (.int p2), .val (.int (2 : Int32)), .val (.int E0), .val (.int E1), .val (.int E2), .val (.ref b3), .val (.ref ob), .unset] [])) _
      refine XS.aload X12.here hx rfl (hb hby at_104) rfl rfl ?_
      show Steps p.tables e below (T12.setTop (mkF m 106 #[.val (.int p1), .val (.int p2), .val (.int (2 : Int32)), .val (.int E0), .val (.int E1), .val (.int E2), .val (.ref b3), .val (.ref ob), .unset] [(.ref ob)])) _
      refine st20.trans ?_
      show Steps p.tables e below (T20.setTop (mkF m 109 #[.val (.int p1), .val (.int p2), .val (.int (2 : Int32)), .val (.int E0), .val (.int E1), .val (.int E2), .val (.ref b3), .val (.ref ob), .unset] [(.ref rb)])) _
      refine XS.astore X20.here hx rfl (hb hby at_109) rfl rfl (l' := #[.val (.int p1), .val (.int p2), .val (.int (2 : Int32)), .val (.int E0), .val (.int E1), .val (.int E2), .val (.ref b3), .val (.ref ob), .val (.ref rb)]) rfl ?_
      show Steps p.tables e below (T20.setTop (mkF m 111 #[.val (.int p1), .val (.int p2), .val (.int (2 : Int32)), .val (.int E0), .val (.int E1), .val (.int E2), .val (.ref b3), .val (.ref ob), .val (.ref rb)] [])) _
      refine XS.aload X20.here hx rfl (hb hby at_111) rfl rfl ?_
      show Steps p.tables e below (T20.setTop (mkF m 113 #[.val (.int p1), .val (.int p2), .val (.int (2 : Int32)), .val (.int E0), .val (.int E1), .val (.int E2), .val (.ref b3), .val (.ref ob), .val (.ref rb)] [(.ref rb)])) _
      refine X20.arraylength hx ArR.1 (State.isArrayOf_alike hZ.alike ArR.2.1) (g := (mkF m 113 #[.val (.int p1), .val (.int p2), .val (.int (2 : Int32)), .val (.int E0), .val (.int E1), .val (.int E2), .val (.ref b3), .val (.ref ob), .val (.ref rb)] [(.ref rb)])) rfl rfl (hb hby at_113) _ ?_
      rw [len_of SR NR]
      show Steps p.tables e below (T20.setTop (mkF m 114 #[.val (.int p1), .val (.int p2), .val (.int (2 : Int32)), .val (.int E0), .val (.int E1), .val (.int E2), .val (.ref b3), .val (.ref ob), .val (.ref rb)] [(.int (2 : Int32))])) _
      refine XS.iloadN X20.here hx rfl (hb hby at_114) rfl ?_
      show Steps p.tables e below (T20.setTop (mkF m 115 #[.val (.int p1), .val (.int p2), .val (.int (2 : Int32)), .val (.int E0), .val (.int E1), .val (.int E2), .val (.ref b3), .val (.ref ob), .val (.ref rb)] [(.int (2 : Int32)), (.int (2 : Int32))])) _
      refine XS.icmpYes X20.here hx rfl (pc0 := 115) (pc' := 120) rfl (hb hby at_115) rfl (teq (show (2 : Int32) = (2 : Int32) from by decide)).1 (by decide) (by decide) ?_
      show Steps p.tables e below (T20.setTop (mkF m 120 #[.val (.int p1), .val (.int p2), .val (.int (2 : Int32)), .val (.int E0), .val (.int E1), .val (.int E2), .val (.ref b3), .val (.ref ob), .val (.ref rb)] [])) _
      refine XS.iloadN X20.here hx rfl (hb hby at_120) rfl ?_
      show Steps p.tables e below (T20.setTop (mkF m 121 #[.val (.int p1), .val (.int p2), .val (.int (2 : Int32)), .val (.int E0), .val (.int E1), .val (.int E2), .val (.ref b3), .val (.ref ob), .val (.ref rb)] [(.int (2 : Int32))])) _
      refine XS.ifNo X20.here hx rfl (hb hby at_121) rfl ((if0 _ _).trans (tlt (show (0 : Int32) < (2 : Int32) from by decide)).2.2.2) ?_
      show Steps p.tables e below (T20.setTop (mkF m 124 #[.val (.int p1), .val (.int p2), .val (.int (2 : Int32)), .val (.int E0), .val (.int E1), .val (.int E2), .val (.ref b3), .val (.ref ob), .val (.ref rb)] [])) _
      refine XS.aload X20.here hx rfl (hb hby at_124) rfl rfl ?_
      show Steps p.tables e below (T20.setTop (mkF m 126 #[.val (.int p1), .val (.int p2), .val (.int (2 : Int32)), .val (.int E0), .val (.int E1), .val (.int E2), .val (.ref b3), .val (.ref ob), .val (.ref rb)] [(.ref rb)])) _
      refine XS.iconst X20.here hx rfl (hb hby at_126) ?_
      show Steps p.tables e below (T20.setTop (mkF m 127 #[.val (.int p1), .val (.int p2), .val (.int (2 : Int32)), .val (.int E0), .val (.int E1), .val (.int E2), .val (.ref b3), .val (.ref ob), .val (.ref rb)] [(.int (0 : Int32)), (.ref rb)])) _
      refine X20.baloadBytes hx (j := (0 : Int32)) (v := (.int E0)) ArR.1 (State.isArrayOf_alike hZ.alike ArR.2.1) ArR.2.2 hin127 hat127 (g := (mkF m 127 #[.val (.int p1), .val (.int p2), .val (.int (2 : Int32)), .val (.int E0), .val (.int E1), .val (.int E2), .val (.ref b3), .val (.ref ob), .val (.ref rb)] [(.int (0 : Int32)), (.ref rb)])) rfl rfl (hb hby at_127) _ ?_
      show Steps p.tables e below (T20.setTop (mkF m 128 #[.val (.int p1), .val (.int p2), .val (.int (2 : Int32)), .val (.int E0), .val (.int E1), .val (.int E2), .val (.ref b3), .val (.ref ob), .val (.ref rb)] [(.int E0)])) _
      refine XS.iloadN X20.here hx rfl (hb hby at_128) rfl ?_
      show Steps p.tables e below (T20.setTop (mkF m 129 #[.val (.int p1), .val (.int p2), .val (.int (2 : Int32)), .val (.int E0), .val (.int E1), .val (.int E2), .val (.ref b3), .val (.ref ob), .val (.ref rb)] [(.int E0), (.int E0)])) _
      refine XS.icmpYes X20.here hx rfl (pc0 := 129) (pc' := 134) rfl (hb hby at_129) rfl (teq rfl).1 (by decide) (by decide) ?_
      show Steps p.tables e below (T20.setTop (mkF m 134 #[.val (.int p1), .val (.int p2), .val (.int (2 : Int32)), .val (.int E0), .val (.int E1), .val (.int E2), .val (.ref b3), .val (.ref ob), .val (.ref rb)] [])) _
      refine XS.iloadN X20.here hx rfl (hb hby at_134) rfl ?_
      show Steps p.tables e below (T20.setTop (mkF m 135 #[.val (.int p1), .val (.int p2), .val (.int (2 : Int32)), .val (.int E0), .val (.int E1), .val (.int E2), .val (.ref b3), .val (.ref ob), .val (.ref rb)] [(.int (2 : Int32))])) _
      refine XS.iconst X20.here hx rfl (hb hby at_135) ?_
      show Steps p.tables e below (T20.setTop (mkF m 136 #[.val (.int p1), .val (.int p2), .val (.int (2 : Int32)), .val (.int E0), .val (.int E1), .val (.int E2), .val (.ref b3), .val (.ref ob), .val (.ref rb)] [(.int (1 : Int32)), (.int (2 : Int32))])) _
      refine XS.icmpNo X20.here hx rfl (hb hby at_136) rfl (tlt (show (1 : Int32) < (2 : Int32) from by decide)).2.2.2 ?_
      show Steps p.tables e below (T20.setTop (mkF m 139 #[.val (.int p1), .val (.int p2), .val (.int (2 : Int32)), .val (.int E0), .val (.int E1), .val (.int E2), .val (.ref b3), .val (.ref ob), .val (.ref rb)] [])) _
      refine XS.aload X20.here hx rfl (hb hby at_139) rfl rfl ?_
      show Steps p.tables e below (T20.setTop (mkF m 141 #[.val (.int p1), .val (.int p2), .val (.int (2 : Int32)), .val (.int E0), .val (.int E1), .val (.int E2), .val (.ref b3), .val (.ref ob), .val (.ref rb)] [(.ref rb)])) _
      refine XS.iconst X20.here hx rfl (hb hby at_141) ?_
      show Steps p.tables e below (T20.setTop (mkF m 142 #[.val (.int p1), .val (.int p2), .val (.int (2 : Int32)), .val (.int E0), .val (.int E1), .val (.int E2), .val (.ref b3), .val (.ref ob), .val (.ref rb)] [(.int (1 : Int32)), (.ref rb)])) _
      refine X20.baloadBytes hx (j := (1 : Int32)) (v := (.int E1)) ArR.1 (State.isArrayOf_alike hZ.alike ArR.2.1) ArR.2.2 hin142 hat142 (g := (mkF m 142 #[.val (.int p1), .val (.int p2), .val (.int (2 : Int32)), .val (.int E0), .val (.int E1), .val (.int E2), .val (.ref b3), .val (.ref ob), .val (.ref rb)] [(.int (1 : Int32)), (.ref rb)])) rfl rfl (hb hby at_142) _ ?_
      show Steps p.tables e below (T20.setTop (mkF m 143 #[.val (.int p1), .val (.int p2), .val (.int (2 : Int32)), .val (.int E0), .val (.int E1), .val (.int E2), .val (.ref b3), .val (.ref ob), .val (.ref rb)] [(.int E1)])) _
      refine XS.iload X20.here hx rfl (hb hby at_143) rfl ?_
      show Steps p.tables e below (T20.setTop (mkF m 145 #[.val (.int p1), .val (.int p2), .val (.int (2 : Int32)), .val (.int E0), .val (.int E1), .val (.int E2), .val (.ref b3), .val (.ref ob), .val (.ref rb)] [(.int E1), (.int E1)])) _
      refine XS.icmpYes X20.here hx rfl (pc0 := 145) (pc' := 150) rfl (hb hby at_145) rfl (teq rfl).1 (by decide) (by decide) ?_
      show Steps p.tables e below (T20.setTop (mkF m 150 #[.val (.int p1), .val (.int p2), .val (.int (2 : Int32)), .val (.int E0), .val (.int E1), .val (.int E2), .val (.ref b3), .val (.ref ob), .val (.ref rb)] [])) _
      refine XS.iloadN X20.here hx rfl (hb hby at_150) rfl ?_
      show Steps p.tables e below (T20.setTop (mkF m 151 #[.val (.int p1), .val (.int p2), .val (.int (2 : Int32)), .val (.int E0), .val (.int E1), .val (.int E2), .val (.ref b3), .val (.ref ob), .val (.ref rb)] [(.int (2 : Int32))])) _
      refine XS.iconst X20.here hx rfl (hb hby at_151) ?_
      show Steps p.tables e below (T20.setTop (mkF m 152 #[.val (.int p1), .val (.int p2), .val (.int (2 : Int32)), .val (.int E0), .val (.int E1), .val (.int E2), .val (.ref b3), .val (.ref ob), .val (.ref rb)] [(.int (2 : Int32)), (.int (2 : Int32))])) _
      refine XS.icmpYes X20.here hx rfl (pc0 := 152) (pc' := 166) rfl (hb hby at_152) rfl (flt (show ¬ ((2 : Int32) < (2 : Int32)) from by decide)).2.2.2 (by decide) (by decide) ?_
      show Steps p.tables e below (T20.setTop (mkF m 166 #[.val (.int p1), .val (.int p2), .val (.int (2 : Int32)), .val (.int E0), .val (.int E1), .val (.int E2), .val (.ref b3), .val (.ref ob), .val (.ref rb)] [])) _
      refine XS.iconst X20.here hx rfl (hb hby at_166) ?_
      show Steps p.tables e below (T20.setTop (mkF m 167 #[.val (.int p1), .val (.int p2), .val (.int (2 : Int32)), .val (.int E0), .val (.int E1), .val (.int E2), .val (.ref b3), .val (.ref ob), .val (.ref rb)] [(.int (1 : Int32))])) _
      exact retN X20 hx (t := .boolean) Bd.returns (by simp) (hb hby at_167) hr
    · show Q0 Z p1 p2 h0 n0 _ T20.heap _
      exact ⟨rfl, N20⟩
  · obtain ⟨T3, h3, k3, X3, e3, E3, A3, Ex3, st3⟩ := newPE X0 hx hZ (hw _ (List.mem_of_getElem? (i := 0) rfl)) e0 (g := (mkF m 22 #[.val (.int p1), .val (.int p2), .val (.int (3 : Int32)), .val (.int E0), .val (.int E1), .val (.int E2), .unset, .unset, .unset] [(.int (3 : Int32))])) rfl (hb hby at_22) rfl (by decide) (cap := 3) (by decide) (by decide) (by decide) (by decide) (ad := "[B") rfl
    obtain ⟨b3, g3⟩ : ∃ z, z = h0.size := ⟨_, rfl⟩
    rw [← g3] at A3 Ex3 st3
    have V3 : Arv Z h3 b3 k3 .byte (3 : Int32) [(.int (0 : Int32)), (.int (0 : Int32)), (.int (0 : Int32))] (.int (0 : Int32)) := (Arv.new A3 (by decide)).pad (pad_rep [] (.int (0 : Int32)) 3)
    have g_b3 : n0 ≤ b3 := Nat.le_trans Z0 (Nat.le_of_eq g3.symm)
    have sz_b3 : h0.size ≤ b3 := Nat.le_of_eq g3.symm
    have K3 : Keep h0 h3 [] := (Keep.refl h0 []).ext E3
    obtain ⟨cl4, Ar4, q4, S4, N4', H4, G4⟩ := V3
    have hin34 : ¬ ((0 : Int32) < 0 ∨ cl4.slots.size ≤ ((0 : Int32)).toNatClampNeg) := inb_of S4 ⟨by decide, by decide⟩
    obtain ⟨T4, h4, X4, e4, W4, st4⟩ := stB X3 hx hZ e3 Ar4 (j := (0 : Int32)) hin34 (g := (mkF m 34 #[.val (.int p1), .val (.int p2), .val (.int (3 : Int32)), .val (.int E0), .val (.int E1), .val (.int E2), .val (.ref b3), .unset, .unset] [(.int E0), (.int (0 : Int32)), (.ref b3)])) rfl rfl (hb hby at_34)
    have V4 : Arv Z h4 b3 k3 .byte (3 : Int32) [(.int E0), (.int (0 : Int32)), (.int (0 : Int32))] (.int (0 : Int32)) := by
      have q := Arv.set Ar4 q4 S4 N4' H4 G4 (fits_nar_byte _) W4 0 rfl (Nat.le_of_ble_eq_true rfl)
      rw [bE0] at q
      exact q
    have K4 : Keep h0 h4 [] := K3.wr W4 (Or.inr sz_b3)
    have N4 := Fr.snoc X4 N0 g_b3
    obtain ⟨cl5, Ar5, q5, S5, N5', H5, G5⟩ := V4
    have hin45 : ¬ ((1 : Int32) < 0 ∨ cl5.slots.size ≤ ((1 : Int32)).toNatClampNeg) := inb_of S5 ⟨by decide, by decide⟩
    obtain ⟨T5, h5, X5, e5, W5, st5⟩ := stB X4 hx hZ e4 Ar5 (j := (1 : Int32)) hin45 (g := (mkF m 45 #[.val (.int p1), .val (.int p2), .val (.int (3 : Int32)), .val (.int E0), .val (.int E1), .val (.int E2), .val (.ref b3), .unset, .unset] [(.int E1), (.int (1 : Int32)), (.ref b3)])) rfl rfl (hb hby at_45)
    have V5 : Arv Z h5 b3 k3 .byte (3 : Int32) [(.int E0), (.int E1), (.int (0 : Int32))] (.int (0 : Int32)) := by
      have q := Arv.set Ar5 q5 S5 N5' H5 G5 (fits_nar_byte _) W5 1 rfl (Nat.le_of_ble_eq_true rfl)
      rw [bE1] at q
      exact q
    have K5 : Keep h0 h5 [] := K4.wr W5 (Or.inr sz_b3)
    have N5 := Fr.snoc X5 N4 g_b3
    obtain ⟨cl6, Ar6, q6, S6, N6', H6, G6⟩ := V5
    have hin56 : ¬ ((2 : Int32) < 0 ∨ cl6.slots.size ≤ ((2 : Int32)).toNatClampNeg) := inb_of S6 ⟨by decide, by decide⟩
    obtain ⟨T6, h6, X6, e6, W6, st6⟩ := stB X5 hx hZ e5 Ar6 (j := (2 : Int32)) hin56 (g := (mkF m 56 #[.val (.int p1), .val (.int p2), .val (.int (3 : Int32)), .val (.int E0), .val (.int E1), .val (.int E2), .val (.ref b3), .unset, .unset] [(.int E2), (.int (2 : Int32)), (.ref b3)])) rfl rfl (hb hby at_56)
    have V6 : Arv Z h6 b3 k3 .byte (3 : Int32) [(.int E0), (.int E1), (.int E2)] (.int (0 : Int32)) := by
      have q := Arv.set Ar6 q6 S6 N6' H6 G6 (fits_nar_byte _) W6 2 rfl (Nat.le_of_ble_eq_true rfl)
      rw [bE2] at q
      exact q
    have K6 : Keep h0 h6 [] := K5.wr W6 (Or.inr sz_b3)
    have N6 := Fr.snoc X6 N5 g_b3
    have Zc : n0 ≤ h6.size := Nat.le_trans Z0 K6.1
    have Vc := V6
    have Ec : Exa Z h6 b3 "[B" := (((Ex3.wr W4).wr W5).wr W6)
    obtain ⟨_, _, ⟨T10, L10, k10, n10⟩, -, X10, ⟨Lc10, hQ10, l10, y10, z10⟩, st10⟩ := Jvm.LawKit.callS X6 hx (y := (⟨"com/example/strict_access/strictaccess/ObjectId", "of", "([B)Lcom/example/strict_access/strictaccess/ObjectId;"⟩ : MethodName)) hown (mvT hZ (hw _ (List.mem_of_getElem? (i := 1) rfl))) (mvT hZ (hw _ (List.mem_of_getElem? (i := 2) rfl))) (mvT hZ (hw _ (List.mem_of_getElem? (i := 3) rfl))) (mvT hZ (hw _ (List.mem_of_getElem? (i := 4) rfl))) (by decide) (backOf (W := 0) (rm1 l Z a0 hw [] b3 k3 (3 : Int32) [(.int E0), (.int E1), (.int E2)] (.int (0 : Int32)) h6 n0 Zc Vc Ec (by decide)) hZ (hw _ (List.mem_of_getElem? (i := 4) rfl)) (hw _ (List.mem_of_getElem? (i := 3) rfl)) (by decide) (by decide)) (g := (mkF m 59 #[.val (.int p1), .val (.int p2), .val (.int (3 : Int32)), .val (.int E0), .val (.int E1), .val (.int E2), .val (.ref b3), .unset, .unset] [(.ref b3)])) rfl (by rw [hml]; rfl) (argsL := [(.ref b3)]) (rest := []) (lenOf pd_0_0 rfl) rfl (by show 2 * 0 + _ ≤ _; exact Nat.le_of_eq rfl) (hb hby at_59) (fun _ _ => ⟨rfl, e6, (by decide : 1 + 2 ≤ _), (by decide : 3 + 4 ≤ _)⟩)
    dsimp only [Pt.U, Pt.locs, Pt.cells, Pt.slots] at X10 l10 y10 z10 st10 hQ10
    subst l10 y10 z10
    obtain ⟨rfl, N10q, K10c, E10, cc, szc, F10, Vcc, Ecc⟩ := hQ10
    have N10 := Fr.app N6 N10q
    obtain ⟨ob, gob⟩ : ∃ z, z = h6.size := ⟨_, rfl⟩
    rw [← gob] at E10 F10 st10
    have K10 : Keep h0 T10.heap [] := K6.trans K10c all0
    have V10 := Vc.keep K10c nin0
    have lt3 : b3 < h6.size := Vc.lt
    have neob : ob ≠ b3 := fun q => absurd lt3 (by rw [← q, gob]; exact Nat.lt_irrefl _)
    have necc : cc ≠ b3 := fun q => absurd lt3 (by rw [← q]; exact Nat.not_lt.mpr szc)
    obtain ⟨cl11, Ar11, q11, S11, N11', H11, G11⟩ := V10
    have hin75 : ¬ ((0 : Int32) < 0 ∨ cl11.slots.size ≤ ((0 : Int32)).toNatClampNeg) := inb_of S11 ⟨by decide, by decide⟩
    obtain ⟨T11, h11, X11, e11, W11, st11⟩ := stB X10 hx hZ rfl Ar11 (j := (0 : Int32)) hin75 (g := (mkF m 75 #[.val (.int p1), .val (.int p2), .val (.int (3 : Int32)), .val (.int E0), .val (.int E1), .val (.int E2), .val (.ref b3), .val (.ref ob), .unset] [(.int ((E0 ^^^ (1 : Int32)).toInt8.toInt32)), (.int (0 : Int32)), (.ref b3)])) rfl rfl (hb hby at_75)
    have V11 := Arv.set Ar11 q11 S11 N11' H11 G11 (fits_nar_byte _) W11 0 rfl (Nat.le_of_ble_eq_true rfl)
    have K11 : Keep h0 h11 [] := K10.wr W11 (Or.inr sz_b3)
    have N11 := Fr.snoc X11 N10 g_b3
    obtain ⟨cl12, Ar12, q12, S12, N12', H12, G12⟩ := V11
    have hin89 : ¬ ((1 : Int32) < 0 ∨ cl12.slots.size ≤ ((1 : Int32)).toNatClampNeg) := inb_of S12 ⟨by decide, by decide⟩
    obtain ⟨T12, h12, X12, e12, W12, st12⟩ := stB X11 hx hZ e11 Ar12 (j := (1 : Int32)) hin89 (g := (mkF m 89 #[.val (.int p1), .val (.int p2), .val (.int (3 : Int32)), .val (.int E0), .val (.int E1), .val (.int E2), .val (.ref b3), .val (.ref ob), .unset] [(.int ((E1 ^^^ (1 : Int32)).toInt8.toInt32)), (.int (1 : Int32)), (.ref b3)])) rfl rfl (hb hby at_89)
    have V12 := Arv.set Ar12 q12 S12 N12' H12 G12 (fits_nar_byte _) W12 1 rfl (Nat.le_of_ble_eq_true rfl)
    have K12 : Keep h0 h12 [] := K11.wr W12 (Or.inr sz_b3)
    have N12 := Fr.snoc X12 N11 g_b3
    obtain ⟨cl13, Ar13, q13, S13, N13', H13, G13⟩ := V12
    have hin103 : ¬ ((2 : Int32) < 0 ∨ cl13.slots.size ≤ ((2 : Int32)).toNatClampNeg) := inb_of S13 ⟨by decide, by decide⟩
    obtain ⟨T13, h13, X13, e13, W13, st13⟩ := stB X12 hx hZ e12 Ar13 (j := (2 : Int32)) hin103 (g := (mkF m 103 #[.val (.int p1), .val (.int p2), .val (.int (3 : Int32)), .val (.int E0), .val (.int E1), .val (.int E2), .val (.ref b3), .val (.ref ob), .unset] [(.int ((E2 ^^^ (1 : Int32)).toInt8.toInt32)), (.int (2 : Int32)), (.ref b3)])) rfl rfl (hb hby at_103)
    have V13 := Arv.set Ar13 q13 S13 N13' H13 G13 (fits_nar_byte _) W13 2 rfl (Nat.le_of_ble_eq_true rfl)
    have K13 : Keep h0 h13 [] := K12.wr W13 (Or.inr sz_b3)
    have N13 := Fr.snoc X13 N12 g_b3
    have Zd : n0 ≤ h13.size := Nat.le_trans Z0 K13.1
    have Eo := (((E10.wr W11).wr W12).wr W13)
    obtain ⟨cq, kq, qa, qb, qc⟩ := isOf hZ e13 Eo
    obtain ⟨_, _, ⟨T20, L20, k20, n20⟩, -, X20, ⟨Lc20, hQ20, l20, y20, z20⟩, st20⟩ := X13.virtualBack hx (y := (⟨"com/example/strict_access/strictaccess/ObjectId", "bytes", "()[B"⟩ : MethodName)) (z := (⟨"com/example/strict_access/strictaccess/ObjectId", "bytes", "()[B"⟩ : MethodName)) hown (mvT hZ (hw _ (List.mem_of_getElem? (i := 24) rfl))) (mvT hZ (hw _ (List.mem_of_getElem? (i := 25) rfl))) (notFace_of_selects (args := #[]) (mvT hZ (hw _ (List.mem_of_getElem? (i := 27) rfl)))) (mvT hZ (hw _ (List.mem_of_getElem? (i := 27) rfl))) (mvT hZ (hw _ (List.mem_of_getElem? (i := 26) rfl))) (by decide) (backOf (W := 0) (rm4 l Z a0 hw [] ob cc k3 (3 : Int32) [(.int E0), (.int E1), (.int E2)] (.int (0 : Int32)) h13 n0 Zd (((F10.other W11 (Or.inl neob)).other W12 (Or.inl neob)).other W13 (Or.inl neob)) (((Vcc.other W11 necc).other W12 necc).other W13 necc) (((Ecc.wr W11).wr W12).wr W13) (by decide)) hZ (hw _ (List.mem_of_getElem? (i := 28) rfl)) (hw _ (List.mem_of_getElem? (i := 3) rfl)) (by decide) (by decide)) qa qc (g := (mkF m 106 #[.val (.int p1), .val (.int p2), .val (.int (3 : Int32)), .val (.int E0), .val (.int E1), .val (.int E2), .val (.ref b3), .val (.ref ob), .unset] [(.ref ob)])) rfl (by rw [hml]; rfl) (Steps.refl _) (argsL := []) (rest := []) (lenOf pd_0_4 rfl) rfl (by show 2 * 0 + _ ≤ _; exact Nat.le_of_eq rfl) (hb hby at_106) (fun _ _ => ⟨rfl, e13, (by decide : 3 + 1 ≤ _), (by decide : 7 + 3 ≤ _)⟩)
    dsimp only [Pt.U, Pt.locs, Pt.cells, Pt.slots] at X20 l20 y20 z20 st20 hQ20
    subst l20 y20 z20
    obtain ⟨rfl, N20q, K20c, Vr⟩ := hQ20
    have N20 := Fr.app N13 N20q
    obtain ⟨rb, grb⟩ : ∃ z, z = h13.size := ⟨_, rfl⟩
    rw [← grb] at Vr st20
    obtain ⟨clR, ArR, qR, SR, NR, HR, GR⟩ := Vr
    have hin127 : ¬ ((0 : Int32) < 0 ∨ clR.slots.size ≤ ((0 : Int32)).toNatClampNeg) := inb_of SR ⟨by decide, by decide⟩
    have hat127 : clR.slots[((0 : Int32)).toNatClampNeg]? = some (.int E0) := HR.at hin127 rfl
    have hin142 : ¬ ((1 : Int32) < 0 ∨ clR.slots.size ≤ ((1 : Int32)).toNatClampNeg) := inb_of SR ⟨by decide, by decide⟩
    have hat142 : clR.slots[((1 : Int32)).toNatClampNeg]? = some (.int E1) := HR.at hin142 rfl
    have hin158 : ¬ ((2 : Int32) < 0 ∨ clR.slots.size ≤ ((2 : Int32)).toNatClampNeg) := inb_of SR ⟨by decide, by decide⟩
    have hat158 : clR.slots[((2 : Int32)).toNatClampNeg]? = some (.int E2) := HR.at hin158 rfl
    obtain ⟨fs, hr, hrun, hended, hW, hsame⟩ := X20.leave (v := some (.int (1 : Int32))) (fun h => by rw [Bd.returns] at h; cases h)
    refine ⟨_, _, pre0 _ ?_, hrun, hended, _, _, rfl, ?_, ⟨_, rfl⟩, hW, hsame.mono (by decide) (by decide)⟩
    · refine sg _ ?_
      show Steps p.tables e below (s₁.setTop (mkF m 21 #[.val (.int p1), .val (.int p2), .val (.int (3 : Int32)), .val (.int E0), .val (.int E1), .val (.int E2), .unset, .unset, .unset] [])) _
      refine XS.iloadN X0.here hx rfl (hb hby at_21) rfl ?_
      show Steps p.tables e below (s₁.setTop (mkF m 22 #[.val (.int p1), .val (.int p2), .val (.int (3 : Int32)), .val (.int E0), .val (.int E1), .val (.int E2), .unset, .unset, .unset] [(.int (3 : Int32))])) _
      refine st3 _ ?_
      show Steps p.tables e below (T3.setTop (mkF m 24 #[.val (.int p1), .val (.int p2), .val (.int (3 : Int32)), .val (.int E0), .val (.int E1), .val (.int E2), .unset, .unset, .unset] [(.ref b3)])) _
      refine XS.astore X3.here hx rfl (hb hby at_24) rfl rfl (l' := #[.val (.int p1), .val (.int p2), .val (.int (3 : Int32)), .val (.int E0), .val (.int E1), .val (.int E2), .val (.ref b3), .unset, .unset]) rfl ?_
      show Steps p.tables e below (T3.setTop (mkF m 26 #[.val (.int p1), .val (.int p2), .val (.int (3 : Int32)), .val (.int E0), .val (.int E1), .val (.int E2), .val (.ref b3), .unset, .unset] [])) _
      refine XS.iloadN X3.here hx rfl (hb hby at_26) rfl ?_
      show Steps p.tables e below (T3.setTop (mkF m 27 #[.val (.int p1), .val (.int p2), .val (.int (3 : Int32)), .val (.int E0), .val (.int E1), .val (.int E2), .val (.ref b3), .unset, .unset] [(.int (3 : Int32))])) _
      refine XS.ifNo X3.here hx rfl (hb hby at_27) rfl ((if0 _ _).trans (tlt (show (0 : Int32) < (3 : Int32) from by decide)).2.2.2) ?_
      show Steps p.tables e below (T3.setTop (mkF m 30 #[.val (.int p1), .val (.int p2), .val (.int (3 : Int32)), .val (.int E0), .val (.int E1), .val (.int E2), .val (.ref b3), .unset, .unset] [])) _
      refine XS.aload X3.here hx rfl (hb hby at_30) rfl rfl ?_
      show Steps p.tables e below (T3.setTop (mkF m 32 #[.val (.int p1), .val (.int p2), .val (.int (3 : Int32)), .val (.int E0), .val (.int E1), .val (.int E2), .val (.ref b3), .unset, .unset] [(.ref b3)])) _
      refine XS.iconst X3.here hx rfl (hb hby at_32) ?_
      show Steps p.tables e below (T3.setTop (mkF m 33 #[.val (.int p1), .val (.int p2), .val (.int (3 : Int32)), .val (.int E0), .val (.int E1), .val (.int E2), .val (.ref b3), .unset, .unset] [(.int (0 : Int32)), (.ref b3)])) _
      refine XS.iloadN X3.here hx rfl (hb hby at_33) rfl ?_
      show Steps p.tables e below (T3.setTop (mkF m 34 #[.val (.int p1), .val (.int p2), .val (.int (3 : Int32)), .val (.int E0), .val (.int E1), .val (.int E2), .val (.ref b3), .unset, .unset] [(.int E0), (.int (0 : Int32)), (.ref b3)])) _
      refine st4 _ ?_
      show Steps p.tables e below (T4.setTop (mkF m 35 #[.val (.int p1), .val (.int p2), .val (.int (3 : Int32)), .val (.int E0), .val (.int E1), .val (.int E2), .val (.ref b3), .unset, .unset] [])) _
      refine XS.iloadN X4.here hx rfl (hb hby at_35) rfl ?_
      show Steps p.tables e below (T4.setTop (mkF m 36 #[.val (.int p1), .val (.int p2), .val (.int (3 : Int32)), .val (.int E0), .val (.int E1), .val (.int E2), .val (.ref b3), .unset, .unset] [(.int (3 : Int32))])) _
      refine XS.iconst X4.here hx rfl (hb hby at_36) ?_
      show Steps p.tables e below (T4.setTop (mkF m 37 #[.val (.int p1), .val (.int p2), .val (.int (3 : Int32)), .val (.int E0), .val (.int E1), .val (.int E2), .val (.ref b3), .unset, .unset] [(.int (1 : Int32)), (.int (3 : Int32))])) _
      refine XS.icmpNo X4.here hx rfl (hb hby at_37) rfl (tlt (show (1 : Int32) < (3 : Int32) from by decide)).2.2.2 ?_
      show Steps p.tables e below (T4.setTop (mkF m 40 #[.val (.int p1), .val (.int p2), .val (.int (3 : Int32)), .val (.int E0), .val (.int E1), .val (.int E2), .val (.ref b3), .unset, .unset] [])) _
      refine XS.aload X4.here hx rfl (hb hby at_40) rfl rfl ?_
      show Steps p.tables e below (T4.setTop (mkF m 42 #[.val (.int p1), .val (.int p2), .val (.int (3 : Int32)), .val (.int E0), .val (.int E1), .val (.int E2), .val (.ref b3), .unset, .unset] [(.ref b3)])) _
      refine XS.iconst X4.here hx rfl (hb hby at_42) ?_
      show Steps p.tables e below (T4.setTop (mkF m 43 #[.val (.int p1), .val (.int p2), .val (.int (3 : Int32)), .val (.int E0), .val (.int E1), .val (.int E2), .val (.ref b3), .unset, .unset] [(.int (1 : Int32)), (.ref b3)])) _
      refine XS.iload X4.here hx rfl (hb hby at_43) rfl ?_
      show Steps p.tables e below (T4.setTop (mkF m 45 #[.val (.int p1), .val (.int p2), .val (.int (3 : Int32)), .val (.int E0), .val (.int E1), .val (.int E2), .val (.ref b3), .unset, .unset] [(.int E1), (.int (1 : Int32)), (.ref b3)])) _
      refine st5 _ ?_
      show Steps p.tables e below (T5.setTop (mkF m 46 #[.val (.int p1), .val (.int p2), .val (.int (3 : Int32)), .val (.int E0), .val (.int E1), .val (.int E2), .val (.ref b3), .unset, .unset] [])) _
      refine XS.iloadN X5.here hx rfl (hb hby at_46) rfl ?_
      show Steps p.tables e below (T5.setTop (mkF m 47 #[.val (.int p1), .val (.int p2), .val (.int (3 : Int32)), .val (.int E0), .val (.int E1), .val (.int E2), .val (.ref b3), .unset, .unset] [(.int (3 : Int32))])) _
      refine XS.iconst X5.here hx rfl (hb hby at_47) ?_
      show Steps p.tables e below (T5.setTop (mkF m 48 #[.val (.int p1), .val (.int p2), .val (.int (3 : Int32)), .val (.int E0), .val (.int E1), .val (.int E2), .val (.ref b3), .unset, .unset] [(.int (2 : Int32)), (.int (3 : Int32))])) _
      refine XS.icmpNo X5.here hx rfl (hb hby at_48) rfl (tlt (show (2 : Int32) < (3 : Int32) from by decide)).2.2.2 ?_
      show Steps p.tables e below (T5.setTop (mkF m 51 #[.val (.int p1), .val (.int p2), .val (.int (3 : Int32)), .val (.int E0), .val (.int E1), .val (.int E2), .val (.ref b3), .unset, .unset] [])) _
      refine XS.aload X5.here hx rfl (hb hby at_51) rfl rfl ?_
      show Steps p.tables e below (T5.setTop (mkF m 53 #[.val (.int p1), .val (.int p2), .val (.int (3 : Int32)), .val (.int E0), .val (.int E1), .val (.int E2), .val (.ref b3), .unset, .unset] [(.ref b3)])) _
      refine XS.iconst X5.here hx rfl (hb hby at_53) ?_
      show Steps p.tables e below (T5.setTop (mkF m 54 #[.val (.int p1), .val (.int p2), .val (.int (3 : Int32)), .val (.int E0), .val (.int E1), .val (.int E2), .val (.ref b3), .unset, .unset] [(.int (2 : Int32)), (.ref b3)])) _
      refine XS.iload X5.here hx rfl (hb hby at_54) rfl ?_
      show Steps p.tables e below (T5.setTop (mkF m 56 #[.val (.int p1), .val (.int p2), .val (.int (3 : Int32)), .val (.int E0), .val (.int E1), .val (.int E2), .val (.ref b3), .unset, .unset] [(.int E2), (.int (2 : Int32)), (.ref b3)])) _
      refine st6 _ ?_
      show Steps p.tables e below (T6.setTop (mkF m 57 #[.val (.int p1), .val (.int p2), .val (.int (3 : Int32)), .val (.int E0), .val (.int E1), .val (.int E2), .val (.ref b3), .unset, .unset] [])) _
      refine XS.aload X6.here hx rfl (hb hby at_57) rfl rfl ?_
      show Steps p.tables e below (T6.setTop (mkF m 59 #[.val (.int p1), .val (.int p2), .val (.int (3 : Int32)), .val (.int E0), .val (.int E1), .val (.int E2), .val (.ref b3), .unset, .unset] [(.ref b3)])) _
      refine st10 _ ?_
      show Steps p.tables e below (T10.setTop (mkF m 62 #[.val (.int p1), .val (.int p2), .val (.int (3 : Int32)), .val (.int E0), .val (.int E1), .val (.int E2), .val (.ref b3), .unset, .unset] [(.ref ob)])) _
      refine XS.astore X10.here hx rfl (hb hby at_62) rfl rfl (l' := #[.val (.int p1), .val (.int p2), .val (.int (3 : Int32)), .val (.int E0), .val (.int E1), .val (.int E2), .val (.ref b3), .val (.ref ob), .unset]) rfl ?_
      show Steps p.tables e below (T10.setTop (mkF m 64 #[.val (.int p1), .val (.int p2), .val (.int (3 : Int32)), .val (.int E0), .val (.int E1), .val (.int E2), .val (.ref b3), .val (.ref ob), .unset] [])) _
      refine XS.iloadN X10.here hx rfl (hb hby at_64) rfl ?_
      show Steps p.tables e below (T10.setTop (mkF m 65 #[.val (.int p1), .val (.int p2), .val (.int (3 : Int32)), .val (.int E0), .val (.int E1), .val (.int E2), .val (.ref b3), .val (.ref ob), .unset] [(.int (3 : Int32))])) _
      refine XS.ifNo X10.here hx rfl (hb hby at_65) rfl ((if0 _ _).trans (tlt (show (0 : Int32) < (3 : Int32) from by decide)).2.2.2) ?_
      show Steps p.tables e below (T10.setTop (mkF m 68 #[.val (.int p1), .val (.int p2), .val (.int (3 : Int32)), .val (.int E0), .val (.int E1), .val (.int E2), .val (.ref b3), .val (.ref ob), .unset] [])) _
      refine XS.aload X10.here hx rfl (hb hby at_68) rfl rfl ?_
      show Steps p.tables e below (T10.setTop (mkF m 70 #[.val (.int p1), .val (.int p2), .val (.int (3 : Int32)), .val (.int E0), .val (.int E1), .val (.int E2), .val (.ref b3), .val (.ref ob), .unset] [(.ref b3)])) _
      refine XS.iconst X10.here hx rfl (hb hby at_70) ?_
      show Steps p.tables e below (T10.setTop (mkF m 71 #[.val (.int p1), .val (.int p2), .val (.int (3 : Int32)), .val (.int E0), .val (.int E1), .val (.int E2), .val (.ref b3), .val (.ref ob), .unset] [(.int (0 : Int32)), (.ref b3)])) _
      refine XS.iloadN X10.here hx rfl (hb hby at_71) rfl ?_
      show Steps p.tables e below (T10.setTop (mkF m 72 #[.val (.int p1), .val (.int p2), .val (.int (3 : Int32)), .val (.int E0), .val (.int E1), .val (.int E2), .val (.ref b3), .val (.ref ob), .unset] [(.int E0), (.int (0 : Int32)), (.ref b3)])) _
      refine XS.iconst X10.here hx rfl (hb hby at_72) ?_
      show Steps p.tables e below (T10.setTop (mkF m 73 #[.val (.int p1), .val (.int p2), .val (.int (3 : Int32)), .val (.int E0), .val (.int E1), .val (.int E2), .val (.ref b3), .val (.ref ob), .unset] [(.int (1 : Int32)), (.int E0), (.int (0 : Int32)), (.ref b3)])) _
      refine XS.ixor X10.here hx rfl (hb hby at_73) rfl ?_
      show Steps p.tables e below (T10.setTop (mkF m 74 #[.val (.int p1), .val (.int p2), .val (.int (3 : Int32)), .val (.int E0), .val (.int E1), .val (.int E2), .val (.ref b3), .val (.ref ob), .unset] [(.int (E0 ^^^ (1 : Int32))), (.int (0 : Int32)), (.ref b3)])) _
      refine XS.i2b X10.here hx rfl (hb hby at_74) rfl ?_
      show Steps p.tables e below (T10.setTop (mkF m 75 #[.val (.int p1), .val (.int p2), .val (.int (3 : Int32)), .val (.int E0), .val (.int E1), .val (.int E2), .val (.ref b3), .val (.ref ob), .unset] [(.int ((E0 ^^^ (1 : Int32)).toInt8.toInt32)), (.int (0 : Int32)), (.ref b3)])) _
      refine st11 _ ?_
      show Steps p.tables e below (T11.setTop (mkF m 76 #[.val (.int p1), .val (.int p2), .val (.int (3 : Int32)), .val (.int E0), .val (.int E1), .val (.int E2), .val (.ref b3), .val (.ref ob), .unset] [])) _
      refine XS.iloadN X11.here hx rfl (hb hby at_76) rfl ?_
      show Steps p.tables e below (T11.setTop (mkF m 77 #[.val (.int p1), .val (.int p2), .val (.int (3 : Int32)), .val (.int E0), .val (.int E1), .val (.int E2), .val (.ref b3), .val (.ref ob), .unset] [(.int (3 : Int32))])) _
      refine XS.iconst X11.here hx rfl (hb hby at_77) ?_
      show Steps p.tables e below (T11.setTop (mkF m 78 #[.val (.int p1), .val (.int p2), .val (.int (3 : Int32)), .val (.int E0), .val (.int E1), .val (.int E2), .val (.ref b3), .val (.ref ob), .unset] [(.int (1 : Int32)), (.int (3 : Int32))])) _
      refine XS.icmpNo X11.here hx rfl (hb hby at_78) rfl (tlt (show (1 : Int32) < (3 : Int32) from by decide)).2.2.2 ?_
      show Steps p.tables e below (T11.setTop (mkF m 81 #[.val (.int p1), .val (.int p2), .val (.int (3 : Int32)), .val (.int E0), .val (.int E1), .val (.int E2), .val (.ref b3), .val (.ref ob), .unset] [])) _
      refine XS.aload X11.here hx rfl (hb hby at_81) rfl rfl ?_
      show Steps p.tables e below (T11.setTop (mkF m 83 #[.val (.int p1), .val (.int p2), .val (.int (3 : Int32)), .val (.int E0), .val (.int E1), .val (.int E2), .val (.ref b3), .val (.ref ob), .unset] [(.ref b3)])) _
      refine XS.iconst X11.here hx rfl (hb hby at_83) ?_
      show Steps p.tables e below (T11.setTop (mkF m 84 #[.val (.int p1), .val (.int p2), .val (.int (3 : Int32)), .val (.int E0), .val (.int E1), .val (.int E2), .val (.ref b3), .val (.ref ob), .unset] [(.int (1 : Int32)), (.ref b3)])) _
      refine XS.iload X11.here hx rfl (hb hby at_84) rfl ?_
      show Steps p.tables e below (T11.setTop (mkF m 86 #[.val (.int p1), .val (.int p2), .val (.int (3 : Int32)), .val (.int E0), .val (.int E1), .val (.int E2), .val (.ref b3), .val (.ref ob), .unset] [(.int E1), (.int (1 : Int32)), (.ref b3)])) _
      refine XS.iconst X11.here hx rfl (hb hby at_86) ?_
      show Steps p.tables e below (T11.setTop (mkF m 87 #[.val (.int p1), .val (.int p2), .val (.int (3 : Int32)), .val (.int E0), .val (.int E1), .val (.int E2), .val (.ref b3), .val (.ref ob), .unset] [(.int (1 : Int32)), (.int E1), (.int (1 : Int32)), (.ref b3)])) _
      refine XS.ixor X11.here hx rfl (hb hby at_87) rfl ?_
      show Steps p.tables e below (T11.setTop (mkF m 88 #[.val (.int p1), .val (.int p2), .val (.int (3 : Int32)), .val (.int E0), .val (.int E1), .val (.int E2), .val (.ref b3), .val (.ref ob), .unset] [(.int (E1 ^^^ (1 : Int32))), (.int (1 : Int32)), (.ref b3)])) _
      refine XS.i2b X11.here hx rfl (hb hby at_88) rfl ?_
      show Steps p.tables e below (T11.setTop (mkF m 89 #[.val (.int p1), .val (.int p2), .val (.int (3 : Int32)), .val (.int E0), .val (.int E1), .val (.int E2), .val (.ref b3), .val (.ref ob), .unset] [(.int ((E1 ^^^ (1 : Int32)).toInt8.toInt32)), (.int (1 : Int32)), (.ref b3)])) _
      refine st12 _ ?_
      show Steps p.tables e below (T12.setTop (mkF m 90 #[.val (.int p1), .val (.int p2), .val (.int (3 : Int32)), .val (.int E0), .val (.int E1), .val (.int E2), .val (.ref b3), .val (.ref ob), .unset] [])) _
      refine XS.iloadN X12.here hx rfl (hb hby at_90) rfl ?_
      show Steps p.tables e below (T12.setTop (mkF m 91 #[.val (.int p1), .val (.int p2), .val (.int (3 : Int32)), .val (.int E0), .val (.int E1), .val (.int E2), .val (.ref b3), .val (.ref ob), .unset] [(.int (3 : Int32))])) _
      refine XS.iconst X12.here hx rfl (hb hby at_91) ?_
      show Steps p.tables e below (T12.setTop (mkF m 92 #[.val (.int p1), .val (.int p2), .val (.int (3 : Int32)), .val (.int E0), .val (.int E1), .val (.int E2), .val (.ref b3), .val (.ref ob), .unset] [(.int (2 : Int32)), (.int (3 : Int32))])) _
      refine XS.icmpNo X12.here hx rfl (hb hby at_92) rfl (tlt (show (2 : Int32) < (3 : Int32) from by decide)).2.2.2 ?_
      show Steps p.tables e below (T12.setTop (mkF m 95 #[.val (.int p1), .val (.int p2), .val (.int (3 : Int32)), .val (.int E0), .val (.int E1), .val (.int E2), .val (.ref b3), .val (.ref ob), .unset] [])) _
      refine XS.aload X12.here hx rfl (hb hby at_95) rfl rfl ?_
      show Steps p.tables e below (T12.setTop (mkF m 97 #[.val (.int p1), .val (.int p2), .val (.int (3 : Int32)), .val (.int E0), .val (.int E1), .val (.int E2), .val (.ref b3), .val (.ref ob), .unset] [(.ref b3)])) _
      refine XS.iconst X12.here hx rfl (hb hby at_97) ?_
      show Steps p.tables e below (T12.setTop (mkF m 98 #[.val (.int p1), .val (.int p2), .val (.int (3 : Int32)), .val (.int E0), .val (.int E1), .val (.int E2), .val (.ref b3), .val (.ref ob), .unset] [(.int (2 : Int32)), (.ref b3)])) _
      refine XS.iload X12.here hx rfl (hb hby at_98) rfl ?_
      show Steps p.tables e below (T12.setTop (mkF m 100 #[.val (.int p1), .val (.int p2), .val (.int (3 : Int32)), .val (.int E0), .val (.int E1), .val (.int E2), .val (.ref b3), .val (.ref ob), .unset] [(.int E2), (.int (2 : Int32)), (.ref b3)])) _
      refine XS.iconst X12.here hx rfl (hb hby at_100) ?_
      show Steps p.tables e below (T12.setTop (mkF m 101 #[.val (.int p1), .val (.int p2), .val (.int (3 : Int32)), .val (.int E0), .val (.int E1), .val (.int E2), .val (.ref b3), .val (.ref ob), .unset] [(.int (1 : Int32)), (.int E2), (.int (2 : Int32)), (.ref b3)])) _
      refine XS.ixor X12.here hx rfl (hb hby at_101) rfl ?_
      show Steps p.tables e below (T12.setTop (mkF m 102 #[.val (.int p1), .val (.int p2), .val (.int (3 : Int32)), .val (.int E0), .val (.int E1), .val (.int E2), .val (.ref b3), .val (.ref ob), .unset] [(.int (E2 ^^^ (1 : Int32))), (.int (2 : Int32)), (.ref b3)])) _
      refine XS.i2b X12.here hx rfl (hb hby at_102) rfl ?_
      show Steps p.tables e below (T12.setTop (mkF m 103 #[.val (.int p1), .val (.int p2), .val (.int (3 : Int32)), .val (.int E0), .val (.int E1), .val (.int E2), .val (.ref b3), .val (.ref ob), .unset] [(.int ((E2 ^^^ (1 : Int32)).toInt8.toInt32)), (.int (2 : Int32)), (.ref b3)])) _
      refine st13 _ ?_
      show Steps p.tables e below (T13.setTop (mkF m 104 #[.val (.int p1), .val (.int p2), .val (.int (3 : Int32)), .val (.int E0), .val (.int E1), .val (.int E2), .val (.ref b3), .val (.ref ob), .unset] [])) _
      refine XS.aload X13.here hx rfl (hb hby at_104) rfl rfl ?_
      show Steps p.tables e below (T13.setTop (mkF m 106 #[.val (.int p1), .val (.int p2), .val (.int (3 : Int32)), .val (.int E0), .val (.int E1), .val (.int E2), .val (.ref b3), .val (.ref ob), .unset] [(.ref ob)])) _
      refine st20.trans ?_
      show Steps p.tables e below (T20.setTop (mkF m 109 #[.val (.int p1), .val (.int p2), .val (.int (3 : Int32)), .val (.int E0), .val (.int E1), .val (.int E2), .val (.ref b3), .val (.ref ob), .unset] [(.ref rb)])) _
      refine XS.astore X20.here hx rfl (hb hby at_109) rfl rfl (l' := #[.val (.int p1), .val (.int p2), .val (.int (3 : Int32)), .val (.int E0), .val (.int E1), .val (.int E2), .val (.ref b3), .val (.ref ob), .val (.ref rb)]) rfl ?_
      show Steps p.tables e below (T20.setTop (mkF m 111 #[.val (.int p1), .val (.int p2), .val (.int (3 : Int32)), .val (.int E0), .val (.int E1), .val (.int E2), .val (.ref b3), .val (.ref ob), .val (.ref rb)] [])) _
      refine XS.aload X20.here hx rfl (hb hby at_111) rfl rfl ?_
      show Steps p.tables e below (T20.setTop (mkF m 113 #[.val (.int p1), .val (.int p2), .val (.int (3 : Int32)), .val (.int E0), .val (.int E1), .val (.int E2), .val (.ref b3), .val (.ref ob), .val (.ref rb)] [(.ref rb)])) _
      refine X20.arraylength hx ArR.1 (State.isArrayOf_alike hZ.alike ArR.2.1) (g := (mkF m 113 #[.val (.int p1), .val (.int p2), .val (.int (3 : Int32)), .val (.int E0), .val (.int E1), .val (.int E2), .val (.ref b3), .val (.ref ob), .val (.ref rb)] [(.ref rb)])) rfl rfl (hb hby at_113) _ ?_
      rw [len_of SR NR]
      show Steps p.tables e below (T20.setTop (mkF m 114 #[.val (.int p1), .val (.int p2), .val (.int (3 : Int32)), .val (.int E0), .val (.int E1), .val (.int E2), .val (.ref b3), .val (.ref ob), .val (.ref rb)] [(.int (3 : Int32))])) _
      refine XS.iloadN X20.here hx rfl (hb hby at_114) rfl ?_
      show Steps p.tables e below (T20.setTop (mkF m 115 #[.val (.int p1), .val (.int p2), .val (.int (3 : Int32)), .val (.int E0), .val (.int E1), .val (.int E2), .val (.ref b3), .val (.ref ob), .val (.ref rb)] [(.int (3 : Int32)), (.int (3 : Int32))])) _
      refine XS.icmpYes X20.here hx rfl (pc0 := 115) (pc' := 120) rfl (hb hby at_115) rfl (teq (show (3 : Int32) = (3 : Int32) from by decide)).1 (by decide) (by decide) ?_
      show Steps p.tables e below (T20.setTop (mkF m 120 #[.val (.int p1), .val (.int p2), .val (.int (3 : Int32)), .val (.int E0), .val (.int E1), .val (.int E2), .val (.ref b3), .val (.ref ob), .val (.ref rb)] [])) _
      refine XS.iloadN X20.here hx rfl (hb hby at_120) rfl ?_
      show Steps p.tables e below (T20.setTop (mkF m 121 #[.val (.int p1), .val (.int p2), .val (.int (3 : Int32)), .val (.int E0), .val (.int E1), .val (.int E2), .val (.ref b3), .val (.ref ob), .val (.ref rb)] [(.int (3 : Int32))])) _
      refine XS.ifNo X20.here hx rfl (hb hby at_121) rfl ((if0 _ _).trans (tlt (show (0 : Int32) < (3 : Int32) from by decide)).2.2.2) ?_
      show Steps p.tables e below (T20.setTop (mkF m 124 #[.val (.int p1), .val (.int p2), .val (.int (3 : Int32)), .val (.int E0), .val (.int E1), .val (.int E2), .val (.ref b3), .val (.ref ob), .val (.ref rb)] [])) _
      refine XS.aload X20.here hx rfl (hb hby at_124) rfl rfl ?_
      show Steps p.tables e below (T20.setTop (mkF m 126 #[.val (.int p1), .val (.int p2), .val (.int (3 : Int32)), .val (.int E0), .val (.int E1), .val (.int E2), .val (.ref b3), .val (.ref ob), .val (.ref rb)] [(.ref rb)])) _
      refine XS.iconst X20.here hx rfl (hb hby at_126) ?_
      show Steps p.tables e below (T20.setTop (mkF m 127 #[.val (.int p1), .val (.int p2), .val (.int (3 : Int32)), .val (.int E0), .val (.int E1), .val (.int E2), .val (.ref b3), .val (.ref ob), .val (.ref rb)] [(.int (0 : Int32)), (.ref rb)])) _
      refine X20.baloadBytes hx (j := (0 : Int32)) (v := (.int E0)) ArR.1 (State.isArrayOf_alike hZ.alike ArR.2.1) ArR.2.2 hin127 hat127 (g := (mkF m 127 #[.val (.int p1), .val (.int p2), .val (.int (3 : Int32)), .val (.int E0), .val (.int E1), .val (.int E2), .val (.ref b3), .val (.ref ob), .val (.ref rb)] [(.int (0 : Int32)), (.ref rb)])) rfl rfl (hb hby at_127) _ ?_
      show Steps p.tables e below (T20.setTop (mkF m 128 #[.val (.int p1), .val (.int p2), .val (.int (3 : Int32)), .val (.int E0), .val (.int E1), .val (.int E2), .val (.ref b3), .val (.ref ob), .val (.ref rb)] [(.int E0)])) _
      refine XS.iloadN X20.here hx rfl (hb hby at_128) rfl ?_
      show Steps p.tables e below (T20.setTop (mkF m 129 #[.val (.int p1), .val (.int p2), .val (.int (3 : Int32)), .val (.int E0), .val (.int E1), .val (.int E2), .val (.ref b3), .val (.ref ob), .val (.ref rb)] [(.int E0), (.int E0)])) _
      refine XS.icmpYes X20.here hx rfl (pc0 := 129) (pc' := 134) rfl (hb hby at_129) rfl (teq rfl).1 (by decide) (by decide) ?_
      show Steps p.tables e below (T20.setTop (mkF m 134 #[.val (.int p1), .val (.int p2), .val (.int (3 : Int32)), .val (.int E0), .val (.int E1), .val (.int E2), .val (.ref b3), .val (.ref ob), .val (.ref rb)] [])) _
      refine XS.iloadN X20.here hx rfl (hb hby at_134) rfl ?_
      show Steps p.tables e below (T20.setTop (mkF m 135 #[.val (.int p1), .val (.int p2), .val (.int (3 : Int32)), .val (.int E0), .val (.int E1), .val (.int E2), .val (.ref b3), .val (.ref ob), .val (.ref rb)] [(.int (3 : Int32))])) _
      refine XS.iconst X20.here hx rfl (hb hby at_135) ?_
      show Steps p.tables e below (T20.setTop (mkF m 136 #[.val (.int p1), .val (.int p2), .val (.int (3 : Int32)), .val (.int E0), .val (.int E1), .val (.int E2), .val (.ref b3), .val (.ref ob), .val (.ref rb)] [(.int (1 : Int32)), (.int (3 : Int32))])) _
      refine XS.icmpNo X20.here hx rfl (hb hby at_136) rfl (tlt (show (1 : Int32) < (3 : Int32) from by decide)).2.2.2 ?_
      show Steps p.tables e below (T20.setTop (mkF m 139 #[.val (.int p1), .val (.int p2), .val (.int (3 : Int32)), .val (.int E0), .val (.int E1), .val (.int E2), .val (.ref b3), .val (.ref ob), .val (.ref rb)] [])) _
      refine XS.aload X20.here hx rfl (hb hby at_139) rfl rfl ?_
      show Steps p.tables e below (T20.setTop (mkF m 141 #[.val (.int p1), .val (.int p2), .val (.int (3 : Int32)), .val (.int E0), .val (.int E1), .val (.int E2), .val (.ref b3), .val (.ref ob), .val (.ref rb)] [(.ref rb)])) _
      refine XS.iconst X20.here hx rfl (hb hby at_141) ?_
      show Steps p.tables e below (T20.setTop (mkF m 142 #[.val (.int p1), .val (.int p2), .val (.int (3 : Int32)), .val (.int E0), .val (.int E1), .val (.int E2), .val (.ref b3), .val (.ref ob), .val (.ref rb)] [(.int (1 : Int32)), (.ref rb)])) _
      refine X20.baloadBytes hx (j := (1 : Int32)) (v := (.int E1)) ArR.1 (State.isArrayOf_alike hZ.alike ArR.2.1) ArR.2.2 hin142 hat142 (g := (mkF m 142 #[.val (.int p1), .val (.int p2), .val (.int (3 : Int32)), .val (.int E0), .val (.int E1), .val (.int E2), .val (.ref b3), .val (.ref ob), .val (.ref rb)] [(.int (1 : Int32)), (.ref rb)])) rfl rfl (hb hby at_142) _ ?_
      show Steps p.tables e below (T20.setTop (mkF m 143 #[.val (.int p1), .val (.int p2), .val (.int (3 : Int32)), .val (.int E0), .val (.int E1), .val (.int E2), .val (.ref b3), .val (.ref ob), .val (.ref rb)] [(.int E1)])) _
      refine XS.iload X20.here hx rfl (hb hby at_143) rfl ?_
      show Steps p.tables e below (T20.setTop (mkF m 145 #[.val (.int p1), .val (.int p2), .val (.int (3 : Int32)), .val (.int E0), .val (.int E1), .val (.int E2), .val (.ref b3), .val (.ref ob), .val (.ref rb)] [(.int E1), (.int E1)])) _
      refine XS.icmpYes X20.here hx rfl (pc0 := 145) (pc' := 150) rfl (hb hby at_145) rfl (teq rfl).1 (by decide) (by decide) ?_
      show Steps p.tables e below (T20.setTop (mkF m 150 #[.val (.int p1), .val (.int p2), .val (.int (3 : Int32)), .val (.int E0), .val (.int E1), .val (.int E2), .val (.ref b3), .val (.ref ob), .val (.ref rb)] [])) _
      refine XS.iloadN X20.here hx rfl (hb hby at_150) rfl ?_
      show Steps p.tables e below (T20.setTop (mkF m 151 #[.val (.int p1), .val (.int p2), .val (.int (3 : Int32)), .val (.int E0), .val (.int E1), .val (.int E2), .val (.ref b3), .val (.ref ob), .val (.ref rb)] [(.int (3 : Int32))])) _
      refine XS.iconst X20.here hx rfl (hb hby at_151) ?_
      show Steps p.tables e below (T20.setTop (mkF m 152 #[.val (.int p1), .val (.int p2), .val (.int (3 : Int32)), .val (.int E0), .val (.int E1), .val (.int E2), .val (.ref b3), .val (.ref ob), .val (.ref rb)] [(.int (2 : Int32)), (.int (3 : Int32))])) _
      refine XS.icmpNo X20.here hx rfl (hb hby at_152) rfl (tlt (show (2 : Int32) < (3 : Int32) from by decide)).2.2.2 ?_
      show Steps p.tables e below (T20.setTop (mkF m 155 #[.val (.int p1), .val (.int p2), .val (.int (3 : Int32)), .val (.int E0), .val (.int E1), .val (.int E2), .val (.ref b3), .val (.ref ob), .val (.ref rb)] [])) _
      refine XS.aload X20.here hx rfl (hb hby at_155) rfl rfl ?_
      show Steps p.tables e below (T20.setTop (mkF m 157 #[.val (.int p1), .val (.int p2), .val (.int (3 : Int32)), .val (.int E0), .val (.int E1), .val (.int E2), .val (.ref b3), .val (.ref ob), .val (.ref rb)] [(.ref rb)])) _
      refine XS.iconst X20.here hx rfl (hb hby at_157) ?_
      show Steps p.tables e below (T20.setTop (mkF m 158 #[.val (.int p1), .val (.int p2), .val (.int (3 : Int32)), .val (.int E0), .val (.int E1), .val (.int E2), .val (.ref b3), .val (.ref ob), .val (.ref rb)] [(.int (2 : Int32)), (.ref rb)])) _
      refine X20.baloadBytes hx (j := (2 : Int32)) (v := (.int E2)) ArR.1 (State.isArrayOf_alike hZ.alike ArR.2.1) ArR.2.2 hin158 hat158 (g := (mkF m 158 #[.val (.int p1), .val (.int p2), .val (.int (3 : Int32)), .val (.int E0), .val (.int E1), .val (.int E2), .val (.ref b3), .val (.ref ob), .val (.ref rb)] [(.int (2 : Int32)), (.ref rb)])) rfl rfl (hb hby at_158) _ ?_
      show Steps p.tables e below (T20.setTop (mkF m 159 #[.val (.int p1), .val (.int p2), .val (.int (3 : Int32)), .val (.int E0), .val (.int E1), .val (.int E2), .val (.ref b3), .val (.ref ob), .val (.ref rb)] [(.int E2)])) _
      refine XS.iload X20.here hx rfl (hb hby at_159) rfl ?_
      show Steps p.tables e below (T20.setTop (mkF m 161 #[.val (.int p1), .val (.int p2), .val (.int (3 : Int32)), .val (.int E0), .val (.int E1), .val (.int E2), .val (.ref b3), .val (.ref ob), .val (.ref rb)] [(.int E2), (.int E2)])) _
      refine XS.icmpYes X20.here hx rfl (pc0 := 161) (pc' := 166) rfl (hb hby at_161) rfl (teq rfl).1 (by decide) (by decide) ?_
      show Steps p.tables e below (T20.setTop (mkF m 166 #[.val (.int p1), .val (.int p2), .val (.int (3 : Int32)), .val (.int E0), .val (.int E1), .val (.int E2), .val (.ref b3), .val (.ref ob), .val (.ref rb)] [])) _
      refine XS.iconst X20.here hx rfl (hb hby at_166) ?_
      show Steps p.tables e below (T20.setTop (mkF m 167 #[.val (.int p1), .val (.int p2), .val (.int (3 : Int32)), .val (.int E0), .val (.int E1), .val (.int E2), .val (.ref b3), .val (.ref ob), .val (.ref rb)] [(.int (1 : Int32))])) _
      exact retN X20 hx (t := .boolean) Bd.returns (by simp) (hb hby at_167) hr
    · show Q0 Z p1 p2 h0 n0 _ T20.heap _
      exact ⟨rfl, N20⟩
set_option maxRecDepth 65536 in
set_option maxHeartbeats 40000000 in
theorem comes_1 {Post : Tables → Env → Array Value → State → Outcome → State → Prop} (hpost : ∀ tb e args s v u, (limb_1_1.after args s (.returned v) u = true ∧ limb_1_2.after args s (.returned v) u = true ∧ True) → FrameEnd s (.returned v) u (Jvm.fieldLocs frame_1_writes args s ++ Jvm.arrayLocs frame_1_arrays args s ++ Jvm.staticLocs frame_1_statics s) 16 128 → Post tb e args s (.returned v) u) :
    ArmFor flags0 classFile x code maxLocals ret World_1 tables_1 room_1 Calls_1 rest_1 Pre_1 Post := by
  intro l hfl _ _ p e ha hc hk s m args below hf hA hF happ hP
  obtain ⟨hcalls, hrest, hpre⟩ := hP
  obtain ⟨-, -, -, hnamed, -, -, -, hat⟩ := (Spec.applies_iff hf).mp happ
  obtain ⟨hg, hn⟩ := and_e (Cond.before_iff.mp (show (Jvm.Cond.and given_1 narrow_1).before args s = true from hpre))
  obtain ⟨gc, r0⟩ := and_e hg
  obtain ⟨k0, r1⟩ := and_e r0
  obtain ⟨w0, w1, rfl⟩ : ∃ w0 w1 : Value, args = #[w0, w1] := by
    have hs : args.size = 2 := by simpa [Cond.value, given_1] using gc
    obtain ⟨L⟩ := args
    match L, hs with
    | [w0, w1], _ => exact ⟨w0, w1, rfl⟩
  have hw := fun d (hd : d ∈ tables_1) => atoms_spec (ws := Jvm.Cond.code x code maxLocals ret :: tables_1) hat d (List.mem_cons_of_mem _ hd)
  obtain ⟨i0, ei0⟩ := is_v k0
  obtain rfl : w0 = (.int i0) := Option.some.inj ei0
  obtain ⟨i1, ei1⟩ := is_v r1
  obtain rfl : w1 = (.int i1) := Option.some.inj ei1
  obtain ⟨n, o, h1, h2, h3, _, L, rfl, ⟨rfl, N⟩, hq⟩ := rm0 l s _ hw tables_1 i0 i1 s.heap s.heap.size (Nat.le_refl _) p e ha hc hk s m _ below hf ((Spec.applies_iff_loose hf).mp happ).1 ⟨rfl, State.Warmed39.refl s, rfl⟩ trivial
  refine ⟨n, _, h1, h2, h3, hpost _ _ _ _ _ _ ⟨Cond.after_iff.mpr rfl, Cond.after_iff.mpr (eq_i res_at (Term.int_eval (1)) rfl), trivial⟩ ⟨hq.1, hq.2.1, (hq.2.2.sift fun y hy => Or.inr (N y hy)).mono (by decide) (by decide)⟩⟩
theorem main_1_1 : Claimed_1_1 := comes_1 fun _ _ _ _ _ _ h hF => ⟨h.1, hF⟩
theorem main_1_2 : Claimed_1_2 := comes_1 fun _ _ _ _ _ _ h hF => ⟨h.2.1, hF⟩
end Jvm.Pilot.@@N@@
namespace Jvm.Pilot.@@N@@
open Jvm Jvm.ClassFile Sem Op Lib Jvm.Free Jvm.Stand Jvm.Pilot.@@N@@.Jvm.D
/-! MADE BY PROGRAM (witnessworld.py) out of the Statement's table words and the real class files: 9 classes; the members and pool entries that the words name. The judged class is class 1, her method 1. -/
namespace start1
open Jvm.ClassFile
def u (s : String) : CpInfo := .utf8 (stringToUtf16 s)
/-- a pool by its gaps: so many unusable entries, then the entry; so many at the end -/
def gap : Nat → List CpInfo → List CpInfo
  | 0, r => r
  | n + 1, r => .unusable :: gap n r
def poolList (es : List (Nat × CpInfo)) (last : Nat) : List CpInfo := es.foldr (fun e r => gap e.1 (e.2 :: r)) (gap last [])
def pool (es : List (Nat × CpInfo)) (last : Nat) : Array CpInfo := ⟨poolList es last⟩
def fileOf (pool : Array CpInfo) (this : Nat) (attrs : Array Attribute := #[]) (ms : Array MethodInfo := #[]) (fl : Nat := 33) (sup : Nat := 0) (ifs : Array Nat := #[]) (fds : Array FieldInfo := #[]) : ClassFile where
  minorVersion := 0
  majorVersion := 65
  constantPool := pool
  accessFlags := fl
  thisClass := this
  superClass := sup
  interfaces := ifs
  fields := fds
  methods := ms
  attributes := attrs
def plain (name : String) (sup : Option ClassId) : Class where
  name := name
  kind := .ordinary
  loader := none
  accessFlags := 33
  super := sup
  interfaces := #[]
  cf := none
  fields := #[]
  methods := #[]
  instanceTypes := #[]
  staticTypes := #[]
  resolved := #[]
  callSites := []
  init := .initialized
  statics := none
  mirror := none

def pool0 : Array CpInfo := pool [(5, u "<init>"), (0, u "()V"), (1, .class_ 10), (1, u "java/lang/Object"), (85, u "clone"), (0, u "()Ljava/lang/Object;")] 26

def k0c0 : Code := { maxStack := 0, maxLocals := 1, code := object_method_1_code, exceptionTable := #[], attributes := #[] }
def k0m0 : Method := { name := "<init>", desc := "()V", sig := { parameters := [], returnType := none }, accessFlags := 1, code := some k0c0 }
def k0m1 : Method := { name := "clone", desc := "()Ljava/lang/Object;", sig := { parameters := [], returnType := some (.object "java/lang/Object") }, accessFlags := 260, code := none }
/-- java/lang/Object -/
def k0 : Class := { plain "java/lang/Object" none with
  accessFlags := 33
  interfaces := #[]
  cf := some (fileOf pool0 8 #[] #[{ accessFlags := 1, nameIndex := 5, descriptorIndex := 6, attributes := #[] }, { accessFlags := 260, nameIndex := 96, descriptorIndex := 97, attributes := #[] }] 33 0 #[] #[])
  fields := #[]
  methods := #[k0m0, k0m1]
  instanceTypes := #[]
  staticTypes := #[]
  resolved := Array.replicate 124 none
  statics := none }

def pool1 : Array CpInfo := pool [(2, .class_ 4), (1, u "java/lang/Object"), (0, u "<init>"), (0, u "()V"), (0, .methodref 8 9), (0, .class_ 10), (0, .nameAndType 11 12), (0, u "com/example/strict_access/strictaccess/ObjectId"), (0, u "of"), (0, u "([B)Lcom/example/strict_access/strictaccess/ObjectId;"), (0, .methodref 8 14), (0, .nameAndType 15 16), (0, u "bytes"), (0, u "()[B"), (0, .class_ 18), (0, u "com/example/strict_access/strictaccess/ObjectIdOfPinLaw"), (2, u "law"), (0, u "(II)Z")] 5

def k1m0 : Method := { name := "<init>", desc := "()V", sig := { parameters := [], returnType := none }, accessFlags := 1, code := none }
def k1c1 : Code := { maxStack := 4, maxLocals := 9, code := code, exceptionTable := #[], attributes := #[] }
def k1m1 : Method := { name := "law", desc := "(II)Z", sig := { parameters := [.int, .int], returnType := some .boolean }, accessFlags := 9, code := some k1c1 }
/-- com/example/strict_access/strictaccess/ObjectIdOfPinLaw -/
def k1 : Class := { plain "com/example/strict_access/strictaccess/ObjectIdOfPinLaw" (some 0) with
  accessFlags := 49
  interfaces := #[]
  cf := some (fileOf pool1 17 #[] #[{ accessFlags := 1, nameIndex := 5, descriptorIndex := 6, attributes := #[] }, { accessFlags := 9, nameIndex := 21, descriptorIndex := 22, attributes := #[] }] 49 2 #[] #[])
  fields := #[]
  methods := #[k1m0, k1m1]
  instanceTypes := #[]
  staticTypes := #[]
  resolved := Array.replicate 28 none
  statics := none }

def pool2 : Array CpInfo := pool [(1, .methodref 2 3), (0, .class_ 4), (0, .nameAndType 5 6), (0, u "java/lang/Object"), (0, u "<init>"), (0, u "()V"), (0, .fieldref 8 9), (0, .class_ 10), (0, .nameAndType 11 12), (0, u "com/example/strict_access/strictaccess/ObjectId"), (0, u "bytes"), (0, u "[B"), (0, .methodref 14 15), (0, .class_ 12), (0, .nameAndType 16 17), (0, u "clone"), (0, u "()Ljava/lang/Object;"), (0, .methodref 8 19), (0, .nameAndType 5 20), (0, u "([B)V"), (40, u "HEX_DIGITS"), (0, u "Ljava/util/HexFormat;"), (16, u "of"), (61, u "HEX"), (0, u "Ljava/lang/String;"), (3, u "([B)Lcom/example/strict_access/strictaccess/ObjectId;"), (4, u "()[B")] 46

def k2c0 : Code := { maxStack := 2, maxLocals := 2, code := prog_50_method_1_code, exceptionTable := #[], attributes := #[] }
def k2m0 : Method := { name := "<init>", desc := "([B)V", sig := { parameters := [(.array .byte)], returnType := none }, accessFlags := 2, code := some k2c0 }
def k2c1 : Code := { maxStack := 3, maxLocals := 1, code := prog_50_method_2_code, exceptionTable := #[], attributes := #[] }
def k2m1 : Method := { name := "of", desc := "([B)Lcom/example/strict_access/strictaccess/ObjectId;", sig := { parameters := [(.array .byte)], returnType := some (.object "com/example/strict_access/strictaccess/ObjectId") }, accessFlags := 9, code := some k2c1 }
def k2c2 : Code := { maxStack := 1, maxLocals := 1, code := prog_50_method_5_code, exceptionTable := #[], attributes := #[] }
def k2m2 : Method := { name := "bytes", desc := "()[B", sig := { parameters := [], returnType := some (.array .byte) }, accessFlags := 1, code := some k2c2 }
/-- com/example/strict_access/strictaccess/ObjectId -/
def k2 : Class := { plain "com/example/strict_access/strictaccess/ObjectId" (some 0) with
  accessFlags := 49
  interfaces := #[]
  cf := some (fileOf pool2 8 #[] #[{ accessFlags := 2, nameIndex := 5, descriptorIndex := 20, attributes := #[] }, { accessFlags := 9, nameIndex := 79, descriptorIndex := 146, attributes := #[] }, { accessFlags := 1, nameIndex := 11, descriptorIndex := 151, attributes := #[] }] 49 2 #[] #[{ accessFlags := 26, nameIndex := 141, descriptorIndex := 142, attributes := #[] }, { accessFlags := 26, nameIndex := 61, descriptorIndex := 62, attributes := #[] }, { accessFlags := 18, nameIndex := 11, descriptorIndex := 12, attributes := #[] }])
  fields := #[{ name := "HEX", type := (.object "java/lang/String"), accessFlags := 26, slot := 0, constantValue := 0 }, { name := "HEX_DIGITS", type := (.object "java/util/HexFormat"), accessFlags := 26, slot := 1, constantValue := 0 }, { name := "bytes", type := (.array .byte), accessFlags := 18, slot := 0, constantValue := 0 }]
  methods := #[k2m0, k2m1, k2m2]
  instanceTypes := #[(.array .byte)]
  staticTypes := #[(.object "java/lang/String"), (.object "java/util/HexFormat")]
  resolved := Array.replicate 198 none
  statics := none }

def pool3 : Array CpInfo := pool [(1, .class_ 2), (0, u "java/lang/Cloneable"), (0, .class_ 4), (0, u "java/lang/Object")] 2

/-- java/lang/Cloneable -/
def k3 : Class := { plain "java/lang/Cloneable" (some 0) with
  accessFlags := 1537
  interfaces := #[]
  cf := some (fileOf pool3 1 #[] #[] 1537 3 #[] #[])
  fields := #[]
  methods := #[]
  instanceTypes := #[]
  staticTypes := #[]
  resolved := Array.replicate 7 none
  statics := none }

def pool4 : Array CpInfo := pool [(1, u "java/io/Serializable"), (0, .class_ 1), (0, u "java/lang/Object"), (0, .class_ 3)] 3

/-- java/io/Serializable -/
def k4 : Class := { plain "java/io/Serializable" (some 0) with
  accessFlags := 1537
  interfaces := #[]
  cf := some (fileOf pool4 2 #[] #[] 1537 4 #[] #[])
  fields := #[]
  methods := #[]
  instanceTypes := #[]
  staticTypes := #[]
  resolved := Array.replicate 8 none
  statics := none }

/-- the primitive byte -/
def k5 : Class := { plain "byte" none with kind := .primitive 'B', accessFlags := 0x411 }
/-- [B -/
def k6 : Class := { plain "[B" (some 0) with kind := .array 5 .byte, interfaces := #[3, 4], accessFlags := 1041 }

/-- the primitive int -/
def k7 : Class := { plain "int" none with kind := .primitive 'I', accessFlags := 0x411 }
/-- [I -/
def k8 : Class := { plain "[I" (some 0) with kind := .array 7 .int, interfaces := #[3, 4], accessFlags := 1041 }

def heap : Heap := #[]
def classes : Array Class := #[k0, k1, k2, k3, k4, k5, k6, k7, k8]
def interned : List (Array UInt16 × Addr) := []
def slotsUsed : Nat := 0
def theMethod : MethodId := ⟨1, 1⟩
def args0 : Array Value := #[.int 2, .int 513]
def aboutOver (below : List Frame) : State where
  vm := { classes := classes, interned := interned.toArray }
  heap := heap
  slotsUsed := slotsUsed
  threads := #[{ frames := .invoking theMethod args0 :: below }]
def below0 : List Frame := [.native { method := ⟨0, 0⟩, args := #[] }]
def about1 : State := aboutOver below0
def p0 : Program := .bare "" "" ""
def e0 : Env := launch0.env 0 0 0
theorem w_frames : about1.frames = Frame.invoking theMethod args0 :: below0 := rfl
set_option maxRecDepth 65536 in
theorem w_args : argsFit about1.vm theMethod args0 = true := by decide +kernel
set_option maxRecDepth 65536 in
theorem w_heap : heapFits about1 = true := by decide +kernel
set_option maxRecDepth 65536 in
theorem w_runnable : about1.curStatus? = some .runnable := by decide +kernel
set_option maxRecDepth 65536 in
theorem w_alone : about1.alone = true := by decide +kernel
set_option maxRecDepth 65536 in
theorem w_named : about1.methodNamed? x = some theMethod := by decide +kernel
set_option maxRecDepth 65536 in
theorem w_hears : about1.hears theMethod below0 = true := by decide +kernel
set_option maxRecDepth 65536 in
theorem w_ripe : about1.ripe theMethod args0 below0 = true := by decide +kernel
theorem w_running : about1.status = .running := rfl
set_option maxRecDepth 65536 in
theorem w_room : about1.hasRoom e0.platform room_1 = true :=
  launch0.hasRoom_least _ room_1 (by decide +kernel) (by decide +kernel) (by decide +kernel) (by decide +kernel) (by decide +kernel) (by decide +kernel)
theorem allAtoms_all (ts : List Jvm.Cond) (a : Array Jvm.Value) (st : Jvm.State) : (allAtoms ts).before a st = ts.all (fun c => c.before a st) := by
  induction ts with
  | nil => rfl
  | cons c t ih =>
    show (Jvm.Cond.and c (allAtoms t)).before a st = _
    rw [Jvm.Cond.before_and, ih, List.all_cons]
def words1 : List Jvm.Cond := Jvm.Cond.code x code maxLocals ret :: tables_1
/-- a 'code' word, met by the world's own term for the bytes: nothing is compared byte by byte -/
theorem code_word {y : MethodName} {bytes : ByteArray} {mx : Nat} {rt : Option FieldType} {a : Array Value} {s : State} {m : MethodId} {meth : Method} {c : Code} (h1 : s.methodNamed? y = some m) (h2 : s.vm.method? m = some meth) (h3 : meth.code = some c) (h4 : c.code = bytes)
    (h5 : (c.maxLocals == mx && c.exceptionTable.isEmpty && decide (c.maxStack ≤ mostOperands) && decide (meth.sig.returnType = rt) && !meth.locks && decide (parseMethodDescriptor y.desc = some meth.sig)) = true) : (Jvm.Cond.code y bytes mx rt).before a s = true := by
  simp only [Bool.and_eq_true, beq_iff_eq, Bool.not_eq_true', decide_eq_true_eq] at h5
  obtain ⟨⟨⟨⟨⟨g1, g2⟩, g3⟩, g4⟩, g5⟩, g6⟩ := h5
  simp [Cond.before, Cond.holds, Cond.value, h1, h2, h3, h4, g1, g2, g3, g4, g5, g6]
def isCode : Jvm.Cond → Bool
  | .code _ _ _ _ => true
  | _ => false
theorem all_split {L : List Jvm.Cond} {P : Jvm.Cond → Bool} (h1 : L.all (fun c => isCode c || P c) = true) (h2 : ∀ c ∈ L.filter isCode, P c = true) : L.all P = true := by
  refine List.all_eq_true.mpr fun c hc => ?_
  have h := List.all_eq_true.mp h1 c hc
  rcases Bool.eq_false_or_eq_true (isCode c) with hi | hi
  · exact h2 c (List.mem_filter.mpr ⟨hc, hi⟩)
  · simpa [hi] using h
set_option maxRecDepth 65536 in
theorem w_c0 : (Jvm.Cond.code x code maxLocals ret).before args0 about1 = true := code_word (m := ⟨1, 1⟩) (meth := k1m1) (c := k1c1) (by decide +kernel) rfl rfl rfl (by decide +kernel)
set_option maxRecDepth 65536 in
theorem w_c1 : (Jvm.Cond.code ({ cls := "com/example/strict_access/strictaccess/ObjectId", name := "of", desc := "([B)Lcom/example/strict_access/strictaccess/ObjectId;" } : Jvm.MethodName) prog_50_method_2_code (1 : Nat) (Option.some (Jvm.ClassFile.FieldType.object "com/example/strict_access/strictaccess/ObjectId"))).before args0 about1 = true := code_word (m := ⟨2, 1⟩) (meth := k2m1) (c := k2c1) (by decide +kernel) rfl rfl rfl (by decide +kernel)
set_option maxRecDepth 65536 in
theorem w_c2 : (Jvm.Cond.code ({ cls := "com/example/strict_access/strictaccess/ObjectId", name := "<init>", desc := "([B)V" } : Jvm.MethodName) prog_50_method_1_code (2 : Nat) (Option.none : Option Jvm.ClassFile.FieldType)).before args0 about1 = true := code_word (m := ⟨2, 0⟩) (meth := k2m0) (c := k2c0) (by decide +kernel) rfl rfl rfl (by decide +kernel)
set_option maxRecDepth 65536 in
theorem w_c3 : (Jvm.Cond.code ({ cls := "java/lang/Object", name := "<init>", desc := "()V" } : Jvm.MethodName) object_method_1_code (1 : Nat) (Option.none : Option Jvm.ClassFile.FieldType)).before args0 about1 = true := code_word (m := ⟨0, 0⟩) (meth := k0m0) (c := k0c0) (by decide +kernel) rfl rfl rfl (by decide +kernel)
set_option maxRecDepth 65536 in
theorem w_c4 : (Jvm.Cond.code ({ cls := "com/example/strict_access/strictaccess/ObjectId", name := "bytes", desc := "()[B" } : Jvm.MethodName) prog_50_method_5_code (1 : Nat) (Option.some (Jvm.ClassFile.FieldType.array Jvm.ClassFile.FieldType.byte))).before args0 about1 = true := code_word (m := ⟨2, 2⟩) (meth := k2m2) (c := k2c2) (by decide +kernel) rfl rfl rfl (by decide +kernel)
def codes1 : List Jvm.Cond := [Jvm.Cond.code x code maxLocals ret, Jvm.Cond.code ({ cls := "com/example/strict_access/strictaccess/ObjectId", name := "of", desc := "([B)Lcom/example/strict_access/strictaccess/ObjectId;" } : Jvm.MethodName) prog_50_method_2_code (1 : Nat) (Option.some (Jvm.ClassFile.FieldType.object "com/example/strict_access/strictaccess/ObjectId")), Jvm.Cond.code ({ cls := "com/example/strict_access/strictaccess/ObjectId", name := "<init>", desc := "([B)V" } : Jvm.MethodName) prog_50_method_1_code (2 : Nat) (Option.none : Option Jvm.ClassFile.FieldType), Jvm.Cond.code ({ cls := "java/lang/Object", name := "<init>", desc := "()V" } : Jvm.MethodName) object_method_1_code (1 : Nat) (Option.none : Option Jvm.ClassFile.FieldType), Jvm.Cond.code ({ cls := "com/example/strict_access/strictaccess/ObjectId", name := "bytes", desc := "()[B" } : Jvm.MethodName) prog_50_method_5_code (1 : Nat) (Option.some (Jvm.ClassFile.FieldType.array Jvm.ClassFile.FieldType.byte))]
set_option maxRecDepth 65536 in
theorem codes_eq : words1.filter isCode = codes1 := rfl
theorem w_codes : ∀ c ∈ words1.filter isCode, c.before args0 about1 = true := by
  rw [codes_eq]
  intro c hc
  simp only [codes1, List.mem_cons, List.not_mem_nil, or_false] at hc
  rcases hc with rfl | rfl | rfl | rfl | rfl
  · exact w_c0
  · exact w_c1
  · exact w_c2
  · exact w_c3
  · exact w_c4
set_option maxRecDepth 65536 in
theorem w_t1 : (words1.take 24).all (fun c => isCode c || c.before args0 about1) = true := by decide +kernel
set_option maxRecDepth 65536 in
theorem w_t2 : (words1.drop 24).all (fun c => isCode c || c.before args0 about1) = true := by decide +kernel
theorem w_tables : (allAtoms (Jvm.Cond.code x code maxLocals ret :: tables_1)).before args0 about1 = true := by
  rw [allAtoms_all]
  show words1.all (fun c => c.before args0 about1) = true
  refine all_split ?_ w_codes
  rw [← List.take_append_drop 24 words1, List.all_append, w_t1, w_t2]
  rfl
set_option maxRecDepth 65536 in
theorem w_case : (Jvm.Cond.and given_1 narrow_1).before args0 about1 = true := by decide +kernel
theorem w_applies : (headSpec (Jvm.Cond.code x code maxLocals ret :: tables_1) room_1).applies x e0.platform about1 = true :=
  (Spec.applies_iff w_frames).mpr ⟨w_running, w_runnable, w_alone, w_named, w_hears, w_ripe, w_room, w_tables⟩
theorem atStart : AtStart classFile x code maxLocals ret World_1 tables_1 room_1 Calls_1 rest_1 Pre_1 launch0 p0 e0 about1 theMethod args0 below0 :=
  ⟨lists_1, trivial, launch0.admits_env _ _ _, launch0.least_env, fairChoices_fair.cas, fairChoices_fair.clock, w_frames, w_args, w_heap, w_applies, trivial, trivial, w_case⟩
end start1
theorem witness_1 : WitnessClaimed_1 := ⟨start1.p0, start1.e0, start1.about1, start1.theMethod, start1.args0, start1.below0, start1.atStart⟩
end Jvm.Pilot.@@N@@
