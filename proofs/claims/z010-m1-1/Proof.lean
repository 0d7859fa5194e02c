import JvmDerived
import JvmDerived.Pilot.@@N@@Statement
import JvmDerived.Pilot.@@N@@Code
set_option linter.unusedVariables false
set_option linter.unusedSimpArgs false
@@BLOCK:NumsL.lean.txt@@
namespace Jvm.RoadKit
open Sem ClassFile Op Lib Jvm.Stand Jvm.Free Jvm.LawKit
section New
variable {p : Program} {l : Launch} {e : Env} {R : Room} {s : State} {m : MethodId} {args : Array Value} {below : List Frame} {meth : Method} {c : Code} {T : State} {locs : List Loc} {cells slots : Nat}
theorem retI (X : Stand p l e R s m args below meth c T locs cells slots) (hx : p.tables.exec = Jvm.exec) {pc : Nat} {Ls : Array Slot} {z : Int32} {rest : List Value} (hret : meth.sig.returnType = some .int) (hd : decode c.code pc = .ok (.ireturn, 1)) {fs : List Frame}
    (hl : ∀ (f : JFrame) (acts : List Action), f.method = m → f.locked = none → f.entered = [] → (doReturn e (T.setTop f) acts (some (.int z))).1 = T.setFrames fs) : Steps p.tables e below (T.setTop (mkF m pc Ls (.int z :: rest))) (T.setFrames fs) := by
  have hm' : T.vm.method? m = some meth := X.method'
  have hn : narrow .int (.int z) = .int z := rfl
  show Steps p.tables e below (T.setTop { method := m, pc := pc, locals := Ls, stack := _ :: rest, locked := none }) _
  jvm_step X.here [X.here.top, hx, hd, hm', hret, hn]
  first | (intro acts; rw [hl _ acts rfl rfl rfl]) | rw [hl _ _ rfl rfl rfl]
  exact Steps.refl _
end New
end Jvm.RoadKit
namespace Jvm.Pilot.@@N@@
open Jvm Jvm.ClassFile Sem Op Lib Jvm.Free Jvm.Stand Jvm.LawKit Jvm.RoadKit Bundle Jvm.Pilot.@@N@@.Jvm.D
theorem d2_0 : decode jdk_29_method_59_code 0 = .ok (.iload_n 0, 1) := by decide +kernel
theorem d2_1 : decode jdk_29_method_59_code 1 = .ok (.ifCond .ge 8, 3) := by decide +kernel
theorem d2_4 : decode jdk_29_method_59_code 4 = .ok (.iload_n 0, 1) := by decide +kernel
theorem d2_5 : decode jdk_29_method_59_code 5 = .ok (.ineg, 1) := by decide +kernel
theorem d2_6 : decode jdk_29_method_59_code 6 = .ok (.goto 4, 3) := by decide +kernel
theorem d2_9 : decode jdk_29_method_59_code 9 = .ok (.iload_n 0, 1) := by decide +kernel
theorem d2_10 : decode jdk_29_method_59_code 10 = .ok (.ireturn, 1) := by decide +kernel
theorem ef_2 (m : MethodId) (p1 : Int32) : entryFrame m #[(.int p1)] 1 = (mkF m 0 #[.val (.int p1)] []) := by first | (simp [entryFrame, mkF, argsToLocals, Value.category]; done) | rfl
def own_F2 (p1 : Int32) : Int32 := if p1 < (0 : Int32) then (-p1) else p1
def Q2 (Z : State) (p1 : Int32) (h0 : Heap) (n0 : Nat) (v : Option Value) (h : Heap) (L : List Loc) : Prop := v = some (.int (own_F2 p1)) ∧ Fr n0 L ∧ h = h0
set_option maxRecDepth 65536 in
set_option maxHeartbeats 40000000 in
theorem rm2 (l : Launch) (Z : State) (a0 : Array Value) (hw : ∀ d ∈ tables_1, d.before a0 Z = true) (ws : List Jvm.Cond) (p1 : Int32) (h0 : Heap) (n0 : Nat) (Z0 : n0 ≤ h0.size) :
    MetFree l (⟨"java/lang/Math", "abs", "(I)I"⟩ : MethodName) (head1 (Jvm.Cond.code (⟨"java/lang/Math", "abs", "(I)I"⟩ : MethodName) jdk_29_method_59_code 1 (some .int) :: ws) ({ frames := 0, cells := 0, slots := 0, locals := 0 } : Room)) (fun a U => a = #[(.int p1)] ∧ Z.Warmed39 U.vm ∧ U.heap = h0) (fun _ _ _ _ _ => True) (fun _ U o U' => ∃ v L, o = .returned v ∧ Q2 Z p1 h0 n0 v U'.heap L ∧ FrameEnd U o U' L ({ frames := 0, cells := 0, slots := 0, locals := 0 } : Room).cells ({ frames := 0, cells := 0, slots := 0, locals := 0 } : Room).slots) := by
  refine MetFree.of_bodySF (Jvm.Free.JP.mathPlain rfl (by decide +kernel)) hisR ?_
  intro p e s m args below meth c s₁ Bd hml0 hP hK
  obtain ⟨rfl, hZ, hh⟩ := hP
  have hx := Bd.exec
  have hby := Bd.bytes
  have hml : c.maxLocals = 1 := hml0
  have hown : s.vm.findClass "java/lang/Math" = some m.cls := findClass_of_methodNamed Bd.named
  have X0 : Stand p l e ({ frames := 0, cells := 0, slots := 0, locals := 0 } : Room) s m #[(.int p1)] below meth c s₁ [] 0 0 := Stand.of_body Bd
  have e0 : s₁.heap = h0 := by rw [← hh, Bd.state]; rfl
  have N0 := Fr.nil n0
  have pre0 : ∀ t, Steps p.tables e below (s₁.setTop (mkF m 0 #[.val (.int p1)] [])) t → Steps p.tables e below (s₁.setTop (entryFrame m #[(.int p1)] 1)) t := fun t k => castTop (ef_2 m p1) k
  obtain ⟨fs, hr, hrun, hended, hW, hsame⟩ := X0.leave (v := some (.int (own_F2 p1))) (fun h => by rw [Bd.returns] at h; cases h)
  refine ⟨_, _, pre0 _ ?_, hrun, hended, _, _, rfl, ?_, ⟨_, rfl⟩, hW, hsame.mono (by decide) (by decide)⟩
  · show Steps p.tables e below (s₁.setTop (mkF m 0 #[.val (.int p1)] [])) _
    refine XS.iloadN X0.here hx rfl (hb hby d2_0) rfl ?_
    show Steps p.tables e below (s₁.setTop (mkF m 1 #[.val (.int p1)] [(.int p1)])) _
    by_cases hc1 : p1 < (0 : Int32)
    · refine XS.ifNo X0.here hx rfl (hb hby d2_1) rfl ((if0 _ _).trans (tlt hc1).2.1) ?_
      show Steps p.tables e below (s₁.setTop (mkF m 4 #[.val (.int p1)] [])) _
      refine XS.iloadN X0.here hx rfl (hb hby d2_4) rfl ?_
      show Steps p.tables e below (s₁.setTop (mkF m 5 #[.val (.int p1)] [(.int p1)])) _
      refine XS.ineg X0.here hx rfl (hb hby d2_5) rfl ?_
      show Steps p.tables e below (s₁.setTop (mkF m 6 #[.val (.int p1)] [(.int (-p1))])) _
      refine XS.goto X0.here hx rfl (pc0 := 6) (pc' := 10) rfl (hb hby d2_6) (by decide) (by decide) ?_
      show Steps p.tables e below (s₁.setTop (mkF m 10 #[.val (.int p1)] [(.int (-p1))])) _
      have hv : (own_F2 p1) = (-p1) := by unfold own_F2; rw [if_pos hc1]
      rw [hv] at hr
      exact retI X0 hx Bd.returns (hb hby d2_10) hr
    · refine XS.ifYes X0.here hx rfl (pc0 := 1) (pc' := 9) rfl (hb hby d2_1) rfl ((if0 _ _).trans (flt hc1).2.1) (by decide) (by decide) ?_
      show Steps p.tables e below (s₁.setTop (mkF m 9 #[.val (.int p1)] [])) _
      refine XS.iloadN X0.here hx rfl (hb hby d2_9) rfl ?_
      show Steps p.tables e below (s₁.setTop (mkF m 10 #[.val (.int p1)] [(.int p1)])) _
      have hv : (own_F2 p1) = p1 := by unfold own_F2; rw [if_neg hc1]
      rw [hv] at hr
      exact retI X0 hx Bd.returns (hb hby d2_10) hr
  · show Q2 Z p1 h0 n0 _ s₁.heap _
    rw [e0]
    exact ⟨rfl, N0, rfl⟩
theorem d3_0 : decode jdk_29_method_65_code 0 = .ok (.iload_n 0, 1) := by decide +kernel
theorem d3_1 : decode jdk_29_method_65_code 1 = .ok (.iload_n 1, 1) := by decide +kernel
theorem d3_2 : decode jdk_29_method_65_code 2 = .ok (.if_icmp .lt 7, 3) := by decide +kernel
theorem d3_5 : decode jdk_29_method_65_code 5 = .ok (.iload_n 0, 1) := by decide +kernel
theorem d3_6 : decode jdk_29_method_65_code 6 = .ok (.goto 4, 3) := by decide +kernel
theorem d3_9 : decode jdk_29_method_65_code 9 = .ok (.iload_n 1, 1) := by decide +kernel
theorem d3_10 : decode jdk_29_method_65_code 10 = .ok (.ireturn, 1) := by decide +kernel
theorem ef_3 (m : MethodId) (p1 : Int32) (p2 : Int32) : entryFrame m #[(.int p1), (.int p2)] 2 = (mkF m 0 #[.val (.int p1), .val (.int p2)] []) := by first | (simp [entryFrame, mkF, argsToLocals, Value.category]; done) | rfl
def own_F3 (p1 : Int32) (p2 : Int32) : Int32 := if p1 < p2 then p2 else p1
def Q3 (Z : State) (p1 : Int32) (p2 : Int32) (h0 : Heap) (n0 : Nat) (v : Option Value) (h : Heap) (L : List Loc) : Prop := v = some (.int (own_F3 p1 p2)) ∧ Fr n0 L ∧ h = h0
set_option maxRecDepth 65536 in
set_option maxHeartbeats 40000000 in
theorem rm3 (l : Launch) (Z : State) (a0 : Array Value) (hw : ∀ d ∈ tables_1, d.before a0 Z = true) (ws : List Jvm.Cond) (p1 : Int32) (p2 : Int32) (h0 : Heap) (n0 : Nat) (Z0 : n0 ≤ h0.size) :
    MetFree l (⟨"java/lang/Math", "max", "(II)I"⟩ : MethodName) (head1 (Jvm.Cond.code (⟨"java/lang/Math", "max", "(II)I"⟩ : MethodName) jdk_29_method_65_code 2 (some .int) :: ws) ({ frames := 0, cells := 0, slots := 0, locals := 0 } : Room)) (fun a U => a = #[(.int p1), (.int p2)] ∧ Z.Warmed39 U.vm ∧ U.heap = h0) (fun _ _ _ _ _ => True) (fun _ U o U' => ∃ v L, o = .returned v ∧ Q3 Z p1 p2 h0 n0 v U'.heap L ∧ FrameEnd U o U' L ({ frames := 0, cells := 0, slots := 0, locals := 0 } : Room).cells ({ frames := 0, cells := 0, slots := 0, locals := 0 } : Room).slots) := by
  refine MetFree.of_bodySF (Jvm.Free.JP.mathPlain rfl (by decide +kernel)) hisR ?_
  intro p e s m args below meth c s₁ Bd hml0 hP hK
  obtain ⟨rfl, hZ, hh⟩ := hP
  have hx := Bd.exec
  have hby := Bd.bytes
  have hml : c.maxLocals = 2 := hml0
  have hown : s.vm.findClass "java/lang/Math" = some m.cls := findClass_of_methodNamed Bd.named
  have X0 : Stand p l e ({ frames := 0, cells := 0, slots := 0, locals := 0 } : Room) s m #[(.int p1), (.int p2)] below meth c s₁ [] 0 0 := Stand.of_body Bd
  have e0 : s₁.heap = h0 := by rw [← hh, Bd.state]; rfl
  have N0 := Fr.nil n0
  have pre0 : ∀ t, Steps p.tables e below (s₁.setTop (mkF m 0 #[.val (.int p1), .val (.int p2)] [])) t → Steps p.tables e below (s₁.setTop (entryFrame m #[(.int p1), (.int p2)] 2)) t := fun t k => castTop (ef_3 m p1 p2) k
  obtain ⟨fs, hr, hrun, hended, hW, hsame⟩ := X0.leave (v := some (.int (own_F3 p1 p2))) (fun h => by rw [Bd.returns] at h; cases h)
  refine ⟨_, _, pre0 _ ?_, hrun, hended, _, _, rfl, ?_, ⟨_, rfl⟩, hW, hsame.mono (by decide) (by decide)⟩
  · show Steps p.tables e below (s₁.setTop (mkF m 0 #[.val (.int p1), .val (.int p2)] [])) _
    refine XS.iloadN X0.here hx rfl (hb hby d3_0) rfl ?_
    show Steps p.tables e below (s₁.setTop (mkF m 1 #[.val (.int p1), .val (.int p2)] [(.int p1)])) _
    refine XS.iloadN X0.here hx rfl (hb hby d3_1) rfl ?_
    show Steps p.tables e below (s₁.setTop (mkF m 2 #[.val (.int p1), .val (.int p2)] [(.int p2), (.int p1)])) _
    by_cases hc2 : p1 < p2
    · refine XS.icmpYes X0.here hx rfl (pc0 := 2) (pc' := 9) rfl (hb hby d3_2) rfl (tlt hc2).1 (by decide) (by decide) ?_
      show Steps p.tables e below (s₁.setTop (mkF m 9 #[.val (.int p1), .val (.int p2)] [])) _
      refine XS.iloadN X0.here hx rfl (hb hby d3_9) rfl ?_
      show Steps p.tables e below (s₁.setTop (mkF m 10 #[.val (.int p1), .val (.int p2)] [(.int p2)])) _
      have hv : (own_F3 p1 p2) = p2 := by unfold own_F3; rw [if_pos hc2]
      rw [hv] at hr
      exact retI X0 hx Bd.returns (hb hby d3_10) hr
    · refine XS.icmpNo X0.here hx rfl (hb hby d3_2) rfl (flt hc2).1 ?_
      show Steps p.tables e below (s₁.setTop (mkF m 5 #[.val (.int p1), .val (.int p2)] [])) _
      refine XS.iloadN X0.here hx rfl (hb hby d3_5) rfl ?_
      show Steps p.tables e below (s₁.setTop (mkF m 6 #[.val (.int p1), .val (.int p2)] [(.int p1)])) _
      refine XS.goto X0.here hx rfl (pc0 := 6) (pc' := 10) rfl (hb hby d3_6) (by decide) (by decide) ?_
      show Steps p.tables e below (s₁.setTop (mkF m 10 #[.val (.int p1), .val (.int p2)] [(.int p1)])) _
      have hv : (own_F3 p1 p2) = p1 := by unfold own_F3; rw [if_neg hc2]
      rw [hv] at hr
      exact retI X0 hx Bd.returns (hb hby d3_10) hr
  · show Q3 Z p1 p2 h0 n0 _ s₁.heap _
    rw [e0]
    exact ⟨rfl, N0, rfl⟩
theorem d4_0 : decode jdk_29_method_69_code 0 = .ok (.iload_n 0, 1) := by decide +kernel
theorem d4_1 : decode jdk_29_method_69_code 1 = .ok (.iload_n 1, 1) := by decide +kernel
theorem d4_2 : decode jdk_29_method_69_code 2 = .ok (.if_icmp .gt 7, 3) := by decide +kernel
theorem d4_5 : decode jdk_29_method_69_code 5 = .ok (.iload_n 0, 1) := by decide +kernel
theorem d4_6 : decode jdk_29_method_69_code 6 = .ok (.goto 4, 3) := by decide +kernel
theorem d4_9 : decode jdk_29_method_69_code 9 = .ok (.iload_n 1, 1) := by decide +kernel
theorem d4_10 : decode jdk_29_method_69_code 10 = .ok (.ireturn, 1) := by decide +kernel
theorem ef_4 (m : MethodId) (p1 : Int32) (p2 : Int32) : entryFrame m #[(.int p1), (.int p2)] 2 = (mkF m 0 #[.val (.int p1), .val (.int p2)] []) := by first | (simp [entryFrame, mkF, argsToLocals, Value.category]; done) | rfl
def own_F4 (p1 : Int32) (p2 : Int32) : Int32 := if p2 < p1 then p2 else p1
def Q4 (Z : State) (p1 : Int32) (p2 : Int32) (h0 : Heap) (n0 : Nat) (v : Option Value) (h : Heap) (L : List Loc) : Prop := v = some (.int (own_F4 p1 p2)) ∧ Fr n0 L ∧ h = h0
set_option maxRecDepth 65536 in
set_option maxHeartbeats 40000000 in
theorem rm4 (l : Launch) (Z : State) (a0 : Array Value) (hw : ∀ d ∈ tables_1, d.before a0 Z = true) (ws : List Jvm.Cond) (p1 : Int32) (p2 : Int32) (h0 : Heap) (n0 : Nat) (Z0 : n0 ≤ h0.size) :
    MetFree l (⟨"java/lang/Math", "min", "(II)I"⟩ : MethodName) (head1 (Jvm.Cond.code (⟨"java/lang/Math", "min", "(II)I"⟩ : MethodName) jdk_29_method_69_code 2 (some .int) :: ws) ({ frames := 0, cells := 0, slots := 0, locals := 0 } : Room)) (fun a U => a = #[(.int p1), (.int p2)] ∧ Z.Warmed39 U.vm ∧ U.heap = h0) (fun _ _ _ _ _ => True) (fun _ U o U' => ∃ v L, o = .returned v ∧ Q4 Z p1 p2 h0 n0 v U'.heap L ∧ FrameEnd U o U' L ({ frames := 0, cells := 0, slots := 0, locals := 0 } : Room).cells ({ frames := 0, cells := 0, slots := 0, locals := 0 } : Room).slots) := by
  refine MetFree.of_bodySF (Jvm.Free.JP.mathPlain rfl (by decide +kernel)) hisR ?_
  intro p e s m args below meth c s₁ Bd hml0 hP hK
  obtain ⟨rfl, hZ, hh⟩ := hP
  have hx := Bd.exec
  have hby := Bd.bytes
  have hml : c.maxLocals = 2 := hml0
  have hown : s.vm.findClass "java/lang/Math" = some m.cls := findClass_of_methodNamed Bd.named
  have X0 : Stand p l e ({ frames := 0, cells := 0, slots := 0, locals := 0 } : Room) s m #[(.int p1), (.int p2)] below meth c s₁ [] 0 0 := Stand.of_body Bd
  have e0 : s₁.heap = h0 := by rw [← hh, Bd.state]; rfl
  have N0 := Fr.nil n0
  have pre0 : ∀ t, Steps p.tables e below (s₁.setTop (mkF m 0 #[.val (.int p1), .val (.int p2)] [])) t → Steps p.tables e below (s₁.setTop (entryFrame m #[(.int p1), (.int p2)] 2)) t := fun t k => castTop (ef_4 m p1 p2) k
  obtain ⟨fs, hr, hrun, hended, hW, hsame⟩ := X0.leave (v := some (.int (own_F4 p1 p2))) (fun h => by rw [Bd.returns] at h; cases h)
  refine ⟨_, _, pre0 _ ?_, hrun, hended, _, _, rfl, ?_, ⟨_, rfl⟩, hW, hsame.mono (by decide) (by decide)⟩
  · show Steps p.tables e below (s₁.setTop (mkF m 0 #[.val (.int p1), .val (.int p2)] [])) _
    refine XS.iloadN X0.here hx rfl (hb hby d4_0) rfl ?_
    show Steps p.tables e below (s₁.setTop (mkF m 1 #[.val (.int p1), .val (.int p2)] [(.int p1)])) _
    refine XS.iloadN X0.here hx rfl (hb hby d4_1) rfl ?_
    show Steps p.tables e below (s₁.setTop (mkF m 2 #[.val (.int p1), .val (.int p2)] [(.int p2), (.int p1)])) _
    by_cases hc2 : p2 < p1
    · refine XS.icmpYes X0.here hx rfl (pc0 := 2) (pc' := 9) rfl (hb hby d4_2) rfl (tlt hc2).2.2.1 (by decide) (by decide) ?_
      show Steps p.tables e below (s₁.setTop (mkF m 9 #[.val (.int p1), .val (.int p2)] [])) _
      refine XS.iloadN X0.here hx rfl (hb hby d4_9) rfl ?_
      show Steps p.tables e below (s₁.setTop (mkF m 10 #[.val (.int p1), .val (.int p2)] [(.int p2)])) _
      have hv : (own_F4 p1 p2) = p2 := by unfold own_F4; rw [if_pos hc2]
      rw [hv] at hr
      exact retI X0 hx Bd.returns (hb hby d4_10) hr
    · refine XS.icmpNo X0.here hx rfl (hb hby d4_2) rfl (flt hc2).2.2.1 ?_
      show Steps p.tables e below (s₁.setTop (mkF m 5 #[.val (.int p1), .val (.int p2)] [])) _
      refine XS.iloadN X0.here hx rfl (hb hby d4_5) rfl ?_
      show Steps p.tables e below (s₁.setTop (mkF m 6 #[.val (.int p1), .val (.int p2)] [(.int p1)])) _
      refine XS.goto X0.here hx rfl (pc0 := 6) (pc' := 10) rfl (hb hby d4_6) (by decide) (by decide) ?_
      show Steps p.tables e below (s₁.setTop (mkF m 10 #[.val (.int p1), .val (.int p2)] [(.int p1)])) _
      have hv : (own_F4 p1 p2) = p1 := by unfold own_F4; rw [if_neg hc2]
      rw [hv] at hr
      exact retI X0 hx Bd.returns (hb hby d4_10) hr
  · show Q4 Z p1 p2 h0 n0 _ s₁.heap _
    rw [e0]
    exact ⟨rfl, N0, rfl⟩
def own_F1 (p1 p2 p3 : Int32) : Int32 := if p1 = 0 then (if p2 = 0 then (10 : Int32) * p3 else (-10 : Int32) * p3) else (if p2 = p1 then (20 : Int32) * p2 else (-10 : Int32) * own_F2 (p2 - p1))
theorem pd_1_0 : parseMethodDescriptor "(I)I" = some ⟨[.int], some .int⟩ := by decide +kernel
theorem d1_0 : decode prog_30_method_2_code 0 = .ok (.iload_n 0, 1) := by decide +kernel
theorem d1_1 : decode prog_30_method_2_code 1 = .ok (.ifCond .ne 19, 3) := by decide +kernel
theorem d1_4 : decode prog_30_method_2_code 4 = .ok (.iload_n 1, 1) := by decide +kernel
theorem d1_5 : decode prog_30_method_2_code 5 = .ok (.ifCond .ne 10, 3) := by decide +kernel
theorem d1_8 : decode prog_30_method_2_code 8 = .ok (.bipush 10, 2) := by decide +kernel
theorem d1_10 : decode prog_30_method_2_code 10 = .ok (.iload_n 2, 1) := by decide +kernel
theorem d1_11 : decode prog_30_method_2_code 11 = .ok (.imul, 1) := by decide +kernel
theorem d1_12 : decode prog_30_method_2_code 12 = .ok (.goto 7, 3) := by decide +kernel
theorem d1_15 : decode prog_30_method_2_code 15 = .ok (.bipush (-10), 2) := by decide +kernel
theorem d1_17 : decode prog_30_method_2_code 17 = .ok (.iload_n 2, 1) := by decide +kernel
theorem d1_18 : decode prog_30_method_2_code 18 = .ok (.imul, 1) := by decide +kernel
theorem d1_19 : decode prog_30_method_2_code 19 = .ok (.ireturn, 1) := by decide +kernel
theorem d1_20 : decode prog_30_method_2_code 20 = .ok (.iload_n 1, 1) := by decide +kernel
theorem d1_21 : decode prog_30_method_2_code 21 = .ok (.iload_n 0, 1) := by decide +kernel
theorem d1_22 : decode prog_30_method_2_code 22 = .ok (.if_icmp .ne 10, 3) := by decide +kernel
theorem d1_25 : decode prog_30_method_2_code 25 = .ok (.bipush 20, 2) := by decide +kernel
theorem d1_27 : decode prog_30_method_2_code 27 = .ok (.iload_n 1, 1) := by decide +kernel
theorem d1_28 : decode prog_30_method_2_code 28 = .ok (.imul, 1) := by decide +kernel
theorem d1_29 : decode prog_30_method_2_code 29 = .ok (.goto 12, 3) := by decide +kernel
theorem d1_32 : decode prog_30_method_2_code 32 = .ok (.bipush (-10), 2) := by decide +kernel
theorem d1_34 : decode prog_30_method_2_code 34 = .ok (.iload_n 1, 1) := by decide +kernel
theorem d1_35 : decode prog_30_method_2_code 35 = .ok (.iload_n 0, 1) := by decide +kernel
theorem d1_36 : decode prog_30_method_2_code 36 = .ok (.isub, 1) := by decide +kernel
theorem d1_37 : decode prog_30_method_2_code 37 = .ok (.invokestatic 7, 3) := by decide +kernel
theorem d1_40 : decode prog_30_method_2_code 40 = .ok (.imul, 1) := by decide +kernel
theorem d1_41 : decode prog_30_method_2_code 41 = .ok (.ireturn, 1) := by decide +kernel
theorem pn_1 : plainName "tallybones/Scoring" = true := by first | (simp [plainName, overriddenIn]; done) | decide +kernel
theorem ef_1 (m : MethodId) (p1 : Int32) (p2 : Int32) (p3 : Int32) : entryFrame m #[(.int p1), (.int p2), (.int p3)] 3 = (mkF m 0 #[.val (.int p1), .val (.int p2), .val (.int p3)] []) := by first | (simp [entryFrame, mkF, argsToLocals, Value.category]; done) | rfl
def Q1 (Z : State) (p1 : Int32) (p2 : Int32) (p3 : Int32) (h0 : Heap) (n0 : Nat) (v : Option Value) (h : Heap) (L : List Loc) : Prop := v = some (.int (own_F1 p1 p2 p3)) ∧ Fr n0 L ∧ h = h0
set_option maxRecDepth 65536 in
set_option maxHeartbeats 40000000 in
theorem rm1 (l : Launch) (Z : State) (a0 : Array Value) (hw : ∀ d ∈ tables_1, d.before a0 Z = true) (ws : List Jvm.Cond) (p1 : Int32) (p2 : Int32) (p3 : Int32) (h0 : Heap) (n0 : Nat) (Z0 : n0 ≤ h0.size) :
    MetFree l (⟨"tallybones/Scoring", "bidPoints", "(III)I"⟩ : MethodName) (head1 (Jvm.Cond.code (⟨"tallybones/Scoring", "bidPoints", "(III)I"⟩ : MethodName) prog_30_method_2_code 3 (some .int) :: ws) ({ frames := 1, cells := 0, slots := 0, locals := 13 } : Room)) (fun a U => a = #[(.int p1), (.int p2), (.int p3)] ∧ Z.Warmed39 U.vm ∧ U.heap = h0) (fun _ _ _ _ _ => True) (fun _ U o U' => ∃ v L, o = .returned v ∧ Q1 Z p1 p2 p3 h0 n0 v U'.heap L ∧ FrameEnd U o U' L ({ frames := 1, cells := 0, slots := 0, locals := 13 } : Room).cells ({ frames := 1, cells := 0, slots := 0, locals := 13 } : Room).slots) := by
  refine MetFree.of_bodySF (plainFor_of_name pn_1) hisR ?_
  intro p e s m args below meth c s₁ Bd hml0 hP hK
  obtain ⟨rfl, hZ, hh⟩ := hP
  have hx := Bd.exec
  have hby := Bd.bytes
  have hml : c.maxLocals = 3 := hml0
  have hown : s.vm.findClass "tallybones/Scoring" = some m.cls := findClass_of_methodNamed Bd.named
  have hnm := (name_of_methodNamed Bd.named Bd.method).1
  have X0 : Stand p l e ({ frames := 1, cells := 0, slots := 0, locals := 13 } : Room) s m #[(.int p1), (.int p2), (.int p3)] below meth c s₁ [] 0 0 := Stand.of_body Bd
  have e0 : s₁.heap = h0 := by rw [← hh, Bd.state]; rfl
  have N0 := Fr.nil n0
  have pre0 : ∀ t, Steps p.tables e below (s₁.setTop (mkF m 0 #[.val (.int p1), .val (.int p2), .val (.int p3)] [])) t → Steps p.tables e below (s₁.setTop (entryFrame m #[(.int p1), (.int p2), (.int p3)] 3)) t := fun t k => castTop (ef_1 m p1 p2 p3) k
  by_cases hb0 : p1 = (0 : Int32)
  · by_cases ht0 : p2 = (0 : Int32)
    · obtain ⟨fs, hr, hrun, hended, hW, hsame⟩ := X0.leave (v := some (.int (own_F1 p1 p2 p3))) (fun h => by rw [Bd.returns] at h; cases h)
      refine ⟨_, _, pre0 _ ?_, hrun, hended, _, _, rfl, ?_, ⟨_, rfl⟩, hW, hsame.mono (by decide) (by decide)⟩
      · show Steps p.tables e below (s₁.setTop (mkF m 0 #[.val (.int p1), .val (.int p2), .val (.int p3)] [])) _
        refine XS.iloadN X0.here hx rfl (hb hby d1_0) rfl ?_
        show Steps p.tables e below (s₁.setTop (mkF m 1 #[.val (.int p1), .val (.int p2), .val (.int p3)] [(.int p1)])) _
        refine XS.ifNo X0.here hx rfl (hb hby d1_1) rfl ((if0 _ _).trans (teq hb0).2) ?_
        show Steps p.tables e below (s₁.setTop (mkF m 4 #[.val (.int p1), .val (.int p2), .val (.int p3)] [])) _
        refine XS.iloadN X0.here hx rfl (hb hby d1_4) rfl ?_
        show Steps p.tables e below (s₁.setTop (mkF m 5 #[.val (.int p1), .val (.int p2), .val (.int p3)] [(.int p2)])) _
        refine XS.ifNo X0.here hx rfl (hb hby d1_5) rfl ((if0 _ _).trans (teq ht0).2) ?_
        show Steps p.tables e below (s₁.setTop (mkF m 8 #[.val (.int p1), .val (.int p2), .val (.int p3)] [])) _
        refine XS.bipush X0.here hx rfl (hb hby d1_8) ?_
        show Steps p.tables e below (s₁.setTop (mkF m 10 #[.val (.int p1), .val (.int p2), .val (.int p3)] [(.int (10 : Int32))])) _
        refine XS.iloadN X0.here hx rfl (hb hby d1_10) rfl ?_
        show Steps p.tables e below (s₁.setTop (mkF m 11 #[.val (.int p1), .val (.int p2), .val (.int p3)] [(.int p3), (.int (10 : Int32))])) _
        refine XS.imul X0.here hx rfl (hb hby d1_11) rfl ?_
        show Steps p.tables e below (s₁.setTop (mkF m 12 #[.val (.int p1), .val (.int p2), .val (.int p3)] [(.int ((10 : Int32) * p3))])) _
        refine XS.goto X0.here hx rfl (pc0 := 12) (pc' := 19) rfl (hb hby d1_12) (by decide) (by decide) ?_
        show Steps p.tables e below (s₁.setTop (mkF m 19 #[.val (.int p1), .val (.int p2), .val (.int p3)] [(.int ((10 : Int32) * p3))])) _
        rw [show own_F1 p1 p2 p3 = ((10 : Int32) * p3) from by unfold own_F1; rw [if_pos hb0, if_pos ht0]] at hr
        exact retI X0 hx Bd.returns (hb hby d1_19) hr
      · show Q1 Z p1 p2 p3 h0 n0 _ s₁.heap _
        exact ⟨rfl, N0, e0⟩
    · obtain ⟨fs, hr, hrun, hended, hW, hsame⟩ := X0.leave (v := some (.int (own_F1 p1 p2 p3))) (fun h => by rw [Bd.returns] at h; cases h)
      refine ⟨_, _, pre0 _ ?_, hrun, hended, _, _, rfl, ?_, ⟨_, rfl⟩, hW, hsame.mono (by decide) (by decide)⟩
      · show Steps p.tables e below (s₁.setTop (mkF m 0 #[.val (.int p1), .val (.int p2), .val (.int p3)] [])) _
        refine XS.iloadN X0.here hx rfl (hb hby d1_0) rfl ?_
        show Steps p.tables e below (s₁.setTop (mkF m 1 #[.val (.int p1), .val (.int p2), .val (.int p3)] [(.int p1)])) _
        refine XS.ifNo X0.here hx rfl (hb hby d1_1) rfl ((if0 _ _).trans (teq hb0).2) ?_
        show Steps p.tables e below (s₁.setTop (mkF m 4 #[.val (.int p1), .val (.int p2), .val (.int p3)] [])) _
        refine XS.iloadN X0.here hx rfl (hb hby d1_4) rfl ?_
        show Steps p.tables e below (s₁.setTop (mkF m 5 #[.val (.int p1), .val (.int p2), .val (.int p3)] [(.int p2)])) _
        refine XS.ifYes X0.here hx rfl (pc0 := 5) (pc' := 15) rfl (hb hby d1_5) rfl ((if0 _ _).trans (feq ht0).2) (by decide) (by decide) ?_
        show Steps p.tables e below (s₁.setTop (mkF m 15 #[.val (.int p1), .val (.int p2), .val (.int p3)] [])) _
        refine XS.bipush X0.here hx rfl (hb hby d1_15) ?_
        show Steps p.tables e below (s₁.setTop (mkF m 17 #[.val (.int p1), .val (.int p2), .val (.int p3)] [(.int (-10 : Int32))])) _
        refine XS.iloadN X0.here hx rfl (hb hby d1_17) rfl ?_
        show Steps p.tables e below (s₁.setTop (mkF m 18 #[.val (.int p1), .val (.int p2), .val (.int p3)] [(.int p3), (.int (-10 : Int32))])) _
        refine XS.imul X0.here hx rfl (hb hby d1_18) rfl ?_
        show Steps p.tables e below (s₁.setTop (mkF m 19 #[.val (.int p1), .val (.int p2), .val (.int p3)] [(.int ((-10 : Int32) * p3))])) _
        rw [show own_F1 p1 p2 p3 = ((-10 : Int32) * p3) from by unfold own_F1; rw [if_pos hb0, if_neg ht0]] at hr
        exact retI X0 hx Bd.returns (hb hby d1_19) hr
      · show Q1 Z p1 p2 p3 h0 n0 _ s₁.heap _
        exact ⟨rfl, N0, e0⟩
  · by_cases hbt : p2 = p1
    · obtain ⟨fs, hr, hrun, hended, hW, hsame⟩ := X0.leave (v := some (.int (own_F1 p1 p2 p3))) (fun h => by rw [Bd.returns] at h; cases h)
      refine ⟨_, _, pre0 _ ?_, hrun, hended, _, _, rfl, ?_, ⟨_, rfl⟩, hW, hsame.mono (by decide) (by decide)⟩
      · show Steps p.tables e below (s₁.setTop (mkF m 0 #[.val (.int p1), .val (.int p2), .val (.int p3)] [])) _
        refine XS.iloadN X0.here hx rfl (hb hby d1_0) rfl ?_
        show Steps p.tables e below (s₁.setTop (mkF m 1 #[.val (.int p1), .val (.int p2), .val (.int p3)] [(.int p1)])) _
        refine XS.ifYes X0.here hx rfl (pc0 := 1) (pc' := 20) rfl (hb hby d1_1) rfl ((if0 _ _).trans (feq hb0).2) (by decide) (by decide) ?_
        show Steps p.tables e below (s₁.setTop (mkF m 20 #[.val (.int p1), .val (.int p2), .val (.int p3)] [])) _
        refine XS.iloadN X0.here hx rfl (hb hby d1_20) rfl ?_
        show Steps p.tables e below (s₁.setTop (mkF m 21 #[.val (.int p1), .val (.int p2), .val (.int p3)] [(.int p2)])) _
        refine XS.iloadN X0.here hx rfl (hb hby d1_21) rfl ?_
        show Steps p.tables e below (s₁.setTop (mkF m 22 #[.val (.int p1), .val (.int p2), .val (.int p3)] [(.int p1), (.int p2)])) _
        refine XS.icmpNo X0.here hx rfl (hb hby d1_22) rfl (teq hbt).2 ?_
        show Steps p.tables e below (s₁.setTop (mkF m 25 #[.val (.int p1), .val (.int p2), .val (.int p3)] [])) _
        refine XS.bipush X0.here hx rfl (hb hby d1_25) ?_
        show Steps p.tables e below (s₁.setTop (mkF m 27 #[.val (.int p1), .val (.int p2), .val (.int p3)] [(.int (20 : Int32))])) _
        refine XS.iloadN X0.here hx rfl (hb hby d1_27) rfl ?_
        show Steps p.tables e below (s₁.setTop (mkF m 28 #[.val (.int p1), .val (.int p2), .val (.int p3)] [(.int p2), (.int (20 : Int32))])) _
        refine XS.imul X0.here hx rfl (hb hby d1_28) rfl ?_
        show Steps p.tables e below (s₁.setTop (mkF m 29 #[.val (.int p1), .val (.int p2), .val (.int p3)] [(.int ((20 : Int32) * p2))])) _
        refine XS.goto X0.here hx rfl (pc0 := 29) (pc' := 41) rfl (hb hby d1_29) (by decide) (by decide) ?_
        show Steps p.tables e below (s₁.setTop (mkF m 41 #[.val (.int p1), .val (.int p2), .val (.int p3)] [(.int ((20 : Int32) * p2))])) _
        rw [show own_F1 p1 p2 p3 = ((20 : Int32) * p2) from by unfold own_F1; rw [if_neg hb0, if_pos hbt]] at hr
        exact retI X0 hx Bd.returns (hb hby d1_41) hr
      · show Q1 Z p1 p2 p3 h0 n0 _ s₁.heap _
        exact ⟨rfl, N0, e0⟩
    · obtain ⟨_, _, ⟨T5, L5, k5, n5⟩, -, X5, ⟨Lc5, hQ5, l5, y5, z5⟩, st5⟩ := Jvm.LawKit.callS X0 hx (y := (⟨"java/lang/Math", "abs", "(I)I"⟩ : MethodName)) hown (mvT hZ (hw _ (List.mem_of_getElem? (i := 5) rfl))) (mvT hZ (hw _ (List.mem_of_getElem? (i := 6) rfl))) (mvT hZ (hw _ (List.mem_of_getElem? (i := 7) rfl))) (mvT hZ (hw _ (List.mem_of_getElem? (i := 8) rfl))) (by decide) (backOf (W := 1) (rm2 l Z a0 hw [] (p2 - p1) h0 n0 Z0) hZ (hw _ (List.mem_of_getElem? (i := 8) rfl)) (hw _ (List.mem_of_getElem? (i := 7) rfl)) (by decide) (by decide)) (g := (mkF m 37 #[.val (.int p1), .val (.int p2), .val (.int p3)] [(.int (p2 - p1)), (.int (-10 : Int32))])) rfl (by rw [hml]; rfl) (argsL := [(.int (p2 - p1))]) (rest := [(.int (-10 : Int32))]) (lenOf pd_1_0 rfl) rfl (by show 2 * 0 + _ ≤ _; exact Nat.le_of_eq rfl) (hb hby d1_37) (fun _ _ => ⟨rfl, e0, (by decide : 0 + 0 ≤ _), (by decide : 0 + 0 ≤ _)⟩)
      dsimp only [Pt.U, Pt.locs, Pt.cells, Pt.slots] at X5 l5 y5 z5 st5 hQ5
      subst l5 y5 z5
      obtain ⟨rfl, N5q, q5⟩ := hQ5
      have N5 := Fr.app N0 N5q
      obtain ⟨fs, hr, hrun, hended, hW, hsame⟩ := X5.leave (v := some (.int (own_F1 p1 p2 p3))) (fun h => by rw [Bd.returns] at h; cases h)
      refine ⟨_, _, pre0 _ ?_, hrun, hended, _, _, rfl, ?_, ⟨_, rfl⟩, hW, hsame.mono (by decide) (by decide)⟩
      · show Steps p.tables e below (s₁.setTop (mkF m 0 #[.val (.int p1), .val (.int p2), .val (.int p3)] [])) _
        refine XS.iloadN X0.here hx rfl (hb hby d1_0) rfl ?_
        show Steps p.tables e below (s₁.setTop (mkF m 1 #[.val (.int p1), .val (.int p2), .val (.int p3)] [(.int p1)])) _
        refine XS.ifYes X0.here hx rfl (pc0 := 1) (pc' := 20) rfl (hb hby d1_1) rfl ((if0 _ _).trans (feq hb0).2) (by decide) (by decide) ?_
        show Steps p.tables e below (s₁.setTop (mkF m 20 #[.val (.int p1), .val (.int p2), .val (.int p3)] [])) _
        refine XS.iloadN X0.here hx rfl (hb hby d1_20) rfl ?_
        show Steps p.tables e below (s₁.setTop (mkF m 21 #[.val (.int p1), .val (.int p2), .val (.int p3)] [(.int p2)])) _
        refine XS.iloadN X0.here hx rfl (hb hby d1_21) rfl ?_
        show Steps p.tables e below (s₁.setTop (mkF m 22 #[.val (.int p1), .val (.int p2), .val (.int p3)] [(.int p1), (.int p2)])) _
        refine XS.icmpYes X0.here hx rfl (pc0 := 22) (pc' := 32) rfl (hb hby d1_22) rfl (feq hbt).2 (by decide) (by decide) ?_
        show Steps p.tables e below (s₁.setTop (mkF m 32 #[.val (.int p1), .val (.int p2), .val (.int p3)] [])) _
        refine XS.bipush X0.here hx rfl (hb hby d1_32) ?_
        show Steps p.tables e below (s₁.setTop (mkF m 34 #[.val (.int p1), .val (.int p2), .val (.int p3)] [(.int (-10 : Int32))])) _
        refine XS.iloadN X0.here hx rfl (hb hby d1_34) rfl ?_
        show Steps p.tables e below (s₁.setTop (mkF m 35 #[.val (.int p1), .val (.int p2), .val (.int p3)] [(.int p2), (.int (-10 : Int32))])) _
        refine XS.iloadN X0.here hx rfl (hb hby d1_35) rfl ?_
        show Steps p.tables e below (s₁.setTop (mkF m 36 #[.val (.int p1), .val (.int p2), .val (.int p3)] [(.int p1), (.int p2), (.int (-10 : Int32))])) _
        refine XS.isub X0.here hx rfl (hb hby d1_36) rfl ?_
        show Steps p.tables e below (s₁.setTop (mkF m 37 #[.val (.int p1), .val (.int p2), .val (.int p3)] [(.int (p2 - p1)), (.int (-10 : Int32))])) _
        refine st5 _ ?_
        show Steps p.tables e below (T5.setTop (mkF m 40 #[.val (.int p1), .val (.int p2), .val (.int p3)] [(.int (own_F2 (p2 - p1))), (.int (-10 : Int32))])) _
        refine XS.imul X5.here hx rfl (hb hby d1_40) rfl ?_
        show Steps p.tables e below (T5.setTop (mkF m 41 #[.val (.int p1), .val (.int p2), .val (.int p3)] [(.int ((-10 : Int32) * (own_F2 (p2 - p1))))])) _
        rw [show own_F1 p1 p2 p3 = ((-10 : Int32) * (own_F2 (p2 - p1))) from by unfold own_F1; rw [if_neg hb0, if_neg hbt]] at hr
        exact retI X5 hx Bd.returns (hb hby d1_41) hr
      · show Q1 Z p1 p2 p3 h0 n0 _ T5.heap _
        exact ⟨rfl, N5, q5⟩
def own_S1 (p1 : Int32) (p2 : Int32) (p3 : Int32) (p4 : Int32) (p5 : Int32) : Int32 := if (p5 &&& (1 : Int32)) = (0 : Int32) then (p1 &&& (65535 : Int32)) else (0 : Int32)
set_option maxRecDepth 65536 in
set_option maxHeartbeats 40000000 in
theorem own_seg1 {p : Program} {l : Launch} {e : Env} {R : Room} {s : State} {m : MethodId} {args : Array Value} {below : List Frame} {meth : Method} {c : Code} {T0 : State} {locs : List Loc} {cells slots : Nat} {Z : State} {a0 : Array Value} (p1 : Int32) (p2 : Int32) (p3 : Int32) (p4 : Int32) (p5 : Int32) (X0 : Stand p l e R s m args below meth c T0 locs cells slots) (hx : p.tables.exec = Jvm.exec) (hZ : Z.Warmed39 s.vm) (hw : ∀ d ∈ tables_1, d.before a0 Z = true) (hby : c.code = code) (hown : s.vm.findClass "tallybones/ScoringBidPointsPinLaw" = some m.cls) {target : State} (kt : Steps p.tables e below (T0.setTop (mkF m 29 #[.val (.int p1), .val (.int p2), .val (.int p3), .val (.int p4), .val (.int p5), .val (.int (p3 &&& (65535 : Int32))), .val (.int (p4 &&& (65535 : Int32))), .val (.int (own_S1 p1 p2 p3 p4 p5)), .unset, .unset, .unset, .unset] [])) target) :
    Steps p.tables e below (T0.setTop (mkF m 0 #[.val (.int p1), .val (.int p2), .val (.int p3), .val (.int p4), .val (.int p5), .unset, .unset, .unset, .unset, .unset, .unset, .unset] [])) target := by
  show Steps p.tables e below (T0.setTop (mkF m 0 #[.val (.int p1), .val (.int p2), .val (.int p3), .val (.int p4), .val (.int p5), .unset, .unset, .unset, .unset, .unset, .unset, .unset] [])) _
  refine XS.iloadN X0.here hx rfl (hb hby at_0) rfl ?_
  show Steps p.tables e below (T0.setTop (mkF m 1 #[.val (.int p1), .val (.int p2), .val (.int p3), .val (.int p4), .val (.int p5), .unset, .unset, .unset, .unset, .unset, .unset, .unset] [(.int p3)])) _
  refine X0.ldcInt hx hown (mvT hZ (hw _ (List.mem_of_getElem? (i := 0) rfl))) (g := (mkF m 1 #[.val (.int p1), .val (.int p2), .val (.int p3), .val (.int p4), .val (.int p5), .unset, .unset, .unset, .unset, .unset, .unset, .unset] [(.int p3)])) rfl (hb hby at_1) _ ?_
  show Steps p.tables e below (T0.setTop (mkF m 3 #[.val (.int p1), .val (.int p2), .val (.int p3), .val (.int p4), .val (.int p5), .unset, .unset, .unset, .unset, .unset, .unset, .unset] [(.int (65535 : Int32)), (.int p3)])) _
  refine XS.iand X0.here hx rfl (hb hby at_3) rfl ?_
  show Steps p.tables e below (T0.setTop (mkF m 4 #[.val (.int p1), .val (.int p2), .val (.int p3), .val (.int p4), .val (.int p5), .unset, .unset, .unset, .unset, .unset, .unset, .unset] [(.int (p3 &&& (65535 : Int32)))])) _
  refine XS.istore X0.here hx rfl (hb hby at_4) rfl (l' := #[.val (.int p1), .val (.int p2), .val (.int p3), .val (.int p4), .val (.int p5), .val (.int (p3 &&& (65535 : Int32))), .unset, .unset, .unset, .unset, .unset, .unset]) rfl ?_
  show Steps p.tables e below (T0.setTop (mkF m 6 #[.val (.int p1), .val (.int p2), .val (.int p3), .val (.int p4), .val (.int p5), .val (.int (p3 &&& (65535 : Int32))), .unset, .unset, .unset, .unset, .unset, .unset] [])) _
  refine XS.iloadN X0.here hx rfl (hb hby at_6) rfl ?_
  show Steps p.tables e below (T0.setTop (mkF m 7 #[.val (.int p1), .val (.int p2), .val (.int p3), .val (.int p4), .val (.int p5), .val (.int (p3 &&& (65535 : Int32))), .unset, .unset, .unset, .unset, .unset, .unset] [(.int p4)])) _
  refine X0.ldcInt hx hown (mvT hZ (hw _ (List.mem_of_getElem? (i := 0) rfl))) (g := (mkF m 7 #[.val (.int p1), .val (.int p2), .val (.int p3), .val (.int p4), .val (.int p5), .val (.int (p3 &&& (65535 : Int32))), .unset, .unset, .unset, .unset, .unset, .unset] [(.int p4)])) rfl (hb hby at_7) _ ?_
  show Steps p.tables e below (T0.setTop (mkF m 9 #[.val (.int p1), .val (.int p2), .val (.int p3), .val (.int p4), .val (.int p5), .val (.int (p3 &&& (65535 : Int32))), .unset, .unset, .unset, .unset, .unset, .unset] [(.int (65535 : Int32)), (.int p4)])) _
  refine XS.iand X0.here hx rfl (hb hby at_9) rfl ?_
  show Steps p.tables e below (T0.setTop (mkF m 10 #[.val (.int p1), .val (.int p2), .val (.int p3), .val (.int p4), .val (.int p5), .val (.int (p3 &&& (65535 : Int32))), .unset, .unset, .unset, .unset, .unset, .unset] [(.int (p4 &&& (65535 : Int32)))])) _
  refine XS.istore X0.here hx rfl (hb hby at_10) rfl (l' := #[.val (.int p1), .val (.int p2), .val (.int p3), .val (.int p4), .val (.int p5), .val (.int (p3 &&& (65535 : Int32))), .val (.int (p4 &&& (65535 : Int32))), .unset, .unset, .unset, .unset, .unset]) rfl ?_
  show Steps p.tables e below (T0.setTop (mkF m 12 #[.val (.int p1), .val (.int p2), .val (.int p3), .val (.int p4), .val (.int p5), .val (.int (p3 &&& (65535 : Int32))), .val (.int (p4 &&& (65535 : Int32))), .unset, .unset, .unset, .unset, .unset] [])) _
  refine XS.iload X0.here hx rfl (hb hby at_12) rfl ?_
  show Steps p.tables e below (T0.setTop (mkF m 14 #[.val (.int p1), .val (.int p2), .val (.int p3), .val (.int p4), .val (.int p5), .val (.int (p3 &&& (65535 : Int32))), .val (.int (p4 &&& (65535 : Int32))), .unset, .unset, .unset, .unset, .unset] [(.int p5)])) _
  refine XS.iconst X0.here hx rfl (hb hby at_14) ?_
  show Steps p.tables e below (T0.setTop (mkF m 15 #[.val (.int p1), .val (.int p2), .val (.int p3), .val (.int p4), .val (.int p5), .val (.int (p3 &&& (65535 : Int32))), .val (.int (p4 &&& (65535 : Int32))), .unset, .unset, .unset, .unset, .unset] [(.int (1 : Int32)), (.int p5)])) _
  refine XS.iand X0.here hx rfl (hb hby at_15) rfl ?_
  show Steps p.tables e below (T0.setTop (mkF m 16 #[.val (.int p1), .val (.int p2), .val (.int p3), .val (.int p4), .val (.int p5), .val (.int (p3 &&& (65535 : Int32))), .val (.int (p4 &&& (65535 : Int32))), .unset, .unset, .unset, .unset, .unset] [(.int (p5 &&& (1 : Int32)))])) _
  by_cases hc16 : (p5 &&& (1 : Int32)) = (0 : Int32)
  · refine XS.ifYes X0.here hx rfl (pc0 := 16) (pc' := 23) rfl (hb hby at_16) rfl ((if0 _ _).trans (teq hc16).1) (by decide) (by decide) ?_
    show Steps p.tables e below (T0.setTop (mkF m 23 #[.val (.int p1), .val (.int p2), .val (.int p3), .val (.int p4), .val (.int p5), .val (.int (p3 &&& (65535 : Int32))), .val (.int (p4 &&& (65535 : Int32))), .unset, .unset, .unset, .unset, .unset] [])) _
    refine XS.iloadN X0.here hx rfl (hb hby at_23) rfl ?_
    show Steps p.tables e below (T0.setTop (mkF m 24 #[.val (.int p1), .val (.int p2), .val (.int p3), .val (.int p4), .val (.int p5), .val (.int (p3 &&& (65535 : Int32))), .val (.int (p4 &&& (65535 : Int32))), .unset, .unset, .unset, .unset, .unset] [(.int p1)])) _
    refine X0.ldcInt hx hown (mvT hZ (hw _ (List.mem_of_getElem? (i := 0) rfl))) (g := (mkF m 24 #[.val (.int p1), .val (.int p2), .val (.int p3), .val (.int p4), .val (.int p5), .val (.int (p3 &&& (65535 : Int32))), .val (.int (p4 &&& (65535 : Int32))), .unset, .unset, .unset, .unset, .unset] [(.int p1)])) rfl (hb hby at_24) _ ?_
    show Steps p.tables e below (T0.setTop (mkF m 26 #[.val (.int p1), .val (.int p2), .val (.int p3), .val (.int p4), .val (.int p5), .val (.int (p3 &&& (65535 : Int32))), .val (.int (p4 &&& (65535 : Int32))), .unset, .unset, .unset, .unset, .unset] [(.int (65535 : Int32)), (.int p1)])) _
    refine XS.iand X0.here hx rfl (hb hby at_26) rfl ?_
    show Steps p.tables e below (T0.setTop (mkF m 27 #[.val (.int p1), .val (.int p2), .val (.int p3), .val (.int p4), .val (.int p5), .val (.int (p3 &&& (65535 : Int32))), .val (.int (p4 &&& (65535 : Int32))), .unset, .unset, .unset, .unset, .unset] [(.int (p1 &&& (65535 : Int32)))])) _
    refine XS.istore X0.here hx rfl (hb hby at_27) rfl (l' := #[.val (.int p1), .val (.int p2), .val (.int p3), .val (.int p4), .val (.int p5), .val (.int (p3 &&& (65535 : Int32))), .val (.int (p4 &&& (65535 : Int32))), .val (.int (p1 &&& (65535 : Int32))), .unset, .unset, .unset, .unset]) rfl ?_
    show Steps p.tables e below (T0.setTop (mkF m 29 #[.val (.int p1), .val (.int p2), .val (.int p3), .val (.int p4), .val (.int p5), .val (.int (p3 &&& (65535 : Int32))), .val (.int (p4 &&& (65535 : Int32))), .val (.int (p1 &&& (65535 : Int32))), .unset, .unset, .unset, .unset] [])) _
    have hv : (own_S1 p1 p2 p3 p4 p5) = (p1 &&& (65535 : Int32)) := by unfold own_S1; rw [if_pos hc16]
    rw [hv] at kt
    exact kt
  · refine XS.ifNo X0.here hx rfl (hb hby at_16) rfl ((if0 _ _).trans (feq hc16).1) ?_
    show Steps p.tables e below (T0.setTop (mkF m 19 #[.val (.int p1), .val (.int p2), .val (.int p3), .val (.int p4), .val (.int p5), .val (.int (p3 &&& (65535 : Int32))), .val (.int (p4 &&& (65535 : Int32))), .unset, .unset, .unset, .unset, .unset] [])) _
    refine XS.iconst X0.here hx rfl (hb hby at_19) ?_
    show Steps p.tables e below (T0.setTop (mkF m 20 #[.val (.int p1), .val (.int p2), .val (.int p3), .val (.int p4), .val (.int p5), .val (.int (p3 &&& (65535 : Int32))), .val (.int (p4 &&& (65535 : Int32))), .unset, .unset, .unset, .unset, .unset] [(.int (0 : Int32))])) _
    refine XS.goto X0.here hx rfl (pc0 := 20) (pc' := 27) rfl (hb hby at_20) (by decide) (by decide) ?_
    show Steps p.tables e below (T0.setTop (mkF m 27 #[.val (.int p1), .val (.int p2), .val (.int p3), .val (.int p4), .val (.int p5), .val (.int (p3 &&& (65535 : Int32))), .val (.int (p4 &&& (65535 : Int32))), .unset, .unset, .unset, .unset, .unset] [(.int (0 : Int32))])) _
    refine XS.istore X0.here hx rfl (hb hby at_27) rfl (l' := #[.val (.int p1), .val (.int p2), .val (.int p3), .val (.int p4), .val (.int p5), .val (.int (p3 &&& (65535 : Int32))), .val (.int (p4 &&& (65535 : Int32))), .val (.int (0 : Int32)), .unset, .unset, .unset, .unset]) rfl ?_
    show Steps p.tables e below (T0.setTop (mkF m 29 #[.val (.int p1), .val (.int p2), .val (.int p3), .val (.int p4), .val (.int p5), .val (.int (p3 &&& (65535 : Int32))), .val (.int (p4 &&& (65535 : Int32))), .val (.int (0 : Int32)), .unset, .unset, .unset, .unset] [])) _
    have hv : (own_S1 p1 p2 p3 p4 p5) = (0 : Int32) := by unfold own_S1; rw [if_neg hc16]
    rw [hv] at kt
    exact kt
def own_S2 (p1 : Int32) (p2 : Int32) (p3 : Int32) (p4 : Int32) (p5 : Int32) (i7 : Int32) : Int32 := if (p5 &&& (2 : Int32)) = (0 : Int32) then (p2 &&& (65535 : Int32)) else i7
set_option maxRecDepth 65536 in
set_option maxHeartbeats 40000000 in
theorem own_seg2 {p : Program} {l : Launch} {e : Env} {R : Room} {s : State} {m : MethodId} {args : Array Value} {below : List Frame} {meth : Method} {c : Code} {T0 : State} {locs : List Loc} {cells slots : Nat} {Z : State} {a0 : Array Value} (p1 : Int32) (p2 : Int32) (p3 : Int32) (p4 : Int32) (p5 : Int32) (i7 : Int32) (X0 : Stand p l e R s m args below meth c T0 locs cells slots) (hx : p.tables.exec = Jvm.exec) (hZ : Z.Warmed39 s.vm) (hw : ∀ d ∈ tables_1, d.before a0 Z = true) (hby : c.code = code) (hown : s.vm.findClass "tallybones/ScoringBidPointsPinLaw" = some m.cls) {target : State} (kt : Steps p.tables e below (T0.setTop (mkF m 47 #[.val (.int p1), .val (.int p2), .val (.int p3), .val (.int p4), .val (.int p5), .val (.int (p3 &&& (65535 : Int32))), .val (.int (p4 &&& (65535 : Int32))), .val (.int i7), .val (.int (own_S2 p1 p2 p3 p4 p5 i7)), .unset, .unset, .unset] [])) target) :
    Steps p.tables e below (T0.setTop (mkF m 29 #[.val (.int p1), .val (.int p2), .val (.int p3), .val (.int p4), .val (.int p5), .val (.int (p3 &&& (65535 : Int32))), .val (.int (p4 &&& (65535 : Int32))), .val (.int i7), .unset, .unset, .unset, .unset] [])) target := by
  show Steps p.tables e below (T0.setTop (mkF m 29 #[.val (.int p1), .val (.int p2), .val (.int p3), .val (.int p4), .val (.int p5), .val (.int (p3 &&& (65535 : Int32))), .val (.int (p4 &&& (65535 : Int32))), .val (.int i7), .unset, .unset, .unset, .unset] [])) _
  refine XS.iload X0.here hx rfl (hb hby at_29) rfl ?_
  show Steps p.tables e below (T0.setTop (mkF m 31 #[.val (.int p1), .val (.int p2), .val (.int p3), .val (.int p4), .val (.int p5), .val (.int (p3 &&& (65535 : Int32))), .val (.int (p4 &&& (65535 : Int32))), .val (.int i7), .unset, .unset, .unset, .unset] [(.int p5)])) _
  refine XS.iconst X0.here hx rfl (hb hby at_31) ?_
  show Steps p.tables e below (T0.setTop (mkF m 32 #[.val (.int p1), .val (.int p2), .val (.int p3), .val (.int p4), .val (.int p5), .val (.int (p3 &&& (65535 : Int32))), .val (.int (p4 &&& (65535 : Int32))), .val (.int i7), .unset, .unset, .unset, .unset] [(.int (2 : Int32)), (.int p5)])) _
  refine XS.iand X0.here hx rfl (hb hby at_32) rfl ?_
  show Steps p.tables e below (T0.setTop (mkF m 33 #[.val (.int p1), .val (.int p2), .val (.int p3), .val (.int p4), .val (.int p5), .val (.int (p3 &&& (65535 : Int32))), .val (.int (p4 &&& (65535 : Int32))), .val (.int i7), .unset, .unset, .unset, .unset] [(.int (p5 &&& (2 : Int32)))])) _
  by_cases hc33 : (p5 &&& (2 : Int32)) = (0 : Int32)
  · refine XS.ifYes X0.here hx rfl (pc0 := 33) (pc' := 41) rfl (hb hby at_33) rfl ((if0 _ _).trans (teq hc33).1) (by decide) (by decide) ?_
    show Steps p.tables e below (T0.setTop (mkF m 41 #[.val (.int p1), .val (.int p2), .val (.int p3), .val (.int p4), .val (.int p5), .val (.int (p3 &&& (65535 : Int32))), .val (.int (p4 &&& (65535 : Int32))), .val (.int i7), .unset, .unset, .unset, .unset] [])) _
    refine XS.iloadN X0.here hx rfl (hb hby at_41) rfl ?_
    show Steps p.tables e below (T0.setTop (mkF m 42 #[.val (.int p1), .val (.int p2), .val (.int p3), .val (.int p4), .val (.int p5), .val (.int (p3 &&& (65535 : Int32))), .val (.int (p4 &&& (65535 : Int32))), .val (.int i7), .unset, .unset, .unset, .unset] [(.int p2)])) _
    refine X0.ldcInt hx hown (mvT hZ (hw _ (List.mem_of_getElem? (i := 0) rfl))) (g := (mkF m 42 #[.val (.int p1), .val (.int p2), .val (.int p3), .val (.int p4), .val (.int p5), .val (.int (p3 &&& (65535 : Int32))), .val (.int (p4 &&& (65535 : Int32))), .val (.int i7), .unset, .unset, .unset, .unset] [(.int p2)])) rfl (hb hby at_42) _ ?_
    show Steps p.tables e below (T0.setTop (mkF m 44 #[.val (.int p1), .val (.int p2), .val (.int p3), .val (.int p4), .val (.int p5), .val (.int (p3 &&& (65535 : Int32))), .val (.int (p4 &&& (65535 : Int32))), .val (.int i7), .unset, .unset, .unset, .unset] [(.int (65535 : Int32)), (.int p2)])) _
    refine XS.iand X0.here hx rfl (hb hby at_44) rfl ?_
    show Steps p.tables e below (T0.setTop (mkF m 45 #[.val (.int p1), .val (.int p2), .val (.int p3), .val (.int p4), .val (.int p5), .val (.int (p3 &&& (65535 : Int32))), .val (.int (p4 &&& (65535 : Int32))), .val (.int i7), .unset, .unset, .unset, .unset] [(.int (p2 &&& (65535 : Int32)))])) _
    refine XS.istore X0.here hx rfl (hb hby at_45) rfl (l' := #[.val (.int p1), .val (.int p2), .val (.int p3), .val (.int p4), .val (.int p5), .val (.int (p3 &&& (65535 : Int32))), .val (.int (p4 &&& (65535 : Int32))), .val (.int i7), .val (.int (p2 &&& (65535 : Int32))), .unset, .unset, .unset]) rfl ?_
    show Steps p.tables e below (T0.setTop (mkF m 47 #[.val (.int p1), .val (.int p2), .val (.int p3), .val (.int p4), .val (.int p5), .val (.int (p3 &&& (65535 : Int32))), .val (.int (p4 &&& (65535 : Int32))), .val (.int i7), .val (.int (p2 &&& (65535 : Int32))), .unset, .unset, .unset] [])) _
    have hv : (own_S2 p1 p2 p3 p4 p5 i7) = (p2 &&& (65535 : Int32)) := by unfold own_S2; rw [if_pos hc33]
    rw [hv] at kt
    exact kt
  · refine XS.ifNo X0.here hx rfl (hb hby at_33) rfl ((if0 _ _).trans (feq hc33).1) ?_
    show Steps p.tables e below (T0.setTop (mkF m 36 #[.val (.int p1), .val (.int p2), .val (.int p3), .val (.int p4), .val (.int p5), .val (.int (p3 &&& (65535 : Int32))), .val (.int (p4 &&& (65535 : Int32))), .val (.int i7), .unset, .unset, .unset, .unset] [])) _
    refine XS.iload X0.here hx rfl (hb hby at_36) rfl ?_
    show Steps p.tables e below (T0.setTop (mkF m 38 #[.val (.int p1), .val (.int p2), .val (.int p3), .val (.int p4), .val (.int p5), .val (.int (p3 &&& (65535 : Int32))), .val (.int (p4 &&& (65535 : Int32))), .val (.int i7), .unset, .unset, .unset, .unset] [(.int i7)])) _
    refine XS.goto X0.here hx rfl (pc0 := 38) (pc' := 45) rfl (hb hby at_38) (by decide) (by decide) ?_
    show Steps p.tables e below (T0.setTop (mkF m 45 #[.val (.int p1), .val (.int p2), .val (.int p3), .val (.int p4), .val (.int p5), .val (.int (p3 &&& (65535 : Int32))), .val (.int (p4 &&& (65535 : Int32))), .val (.int i7), .unset, .unset, .unset, .unset] [(.int i7)])) _
    refine XS.istore X0.here hx rfl (hb hby at_45) rfl (l' := #[.val (.int p1), .val (.int p2), .val (.int p3), .val (.int p4), .val (.int p5), .val (.int (p3 &&& (65535 : Int32))), .val (.int (p4 &&& (65535 : Int32))), .val (.int i7), .val (.int i7), .unset, .unset, .unset]) rfl ?_
    show Steps p.tables e below (T0.setTop (mkF m 47 #[.val (.int p1), .val (.int p2), .val (.int p3), .val (.int p4), .val (.int p5), .val (.int (p3 &&& (65535 : Int32))), .val (.int (p4 &&& (65535 : Int32))), .val (.int i7), .val (.int i7), .unset, .unset, .unset] [])) _
    have hv : (own_S2 p1 p2 p3 p4 p5 i7) = i7 := by unfold own_S2; rw [if_neg hc33]
    rw [hv] at kt
    exact kt
theorem own_low (a : Int32) : 0 ≤ (a &&& (65535 : Int32)).toInt ∧ (a &&& (65535 : Int32)).toInt ≤ 65535 := by
  have e : (a &&& (65535 : Int32)).toInt = a.toInt % 2 ^ 16 := Jvm.Kit.i32_mask a _ (k := 16) (by decide) (by decide)
  rw [e]; omega
theorem own_B (p1 p2 p3 p4 p5 : Int32) : 0 ≤ (own_S1 p1 p2 p3 p4 p5).toInt ∧ (own_S1 p1 p2 p3 p4 p5).toInt ≤ 65535 := by
  have e0 : (0 : Int32).toInt = 0 := rfl
  unfold own_S1
  split
  · exact own_low p1
  · rw [e0]; omega
theorem own_T (p1 p2 p3 p4 p5 b : Int32) (hb : 0 ≤ b.toInt ∧ b.toInt ≤ 65535) : 0 ≤ (own_S2 p1 p2 p3 p4 p5 b).toInt ∧ (own_S2 p1 p2 p3 p4 p5 b).toInt ≤ 65535 := by
  unfold own_S2
  split
  · exact own_low p2
  · exact hb
theorem own_far {b t : Int32} (hb : 0 ≤ b.toInt ∧ b.toInt ≤ 65535) (ht : 0 ≤ t.toInt ∧ t.toInt ≤ 65535) : own_F2 (t - b) = own_F3 t b - own_F4 t b := by
  have e0 : (0 : Int32).toInt = 0 := rfl
  have es : (t - b).toInt = t.toInt - b.toInt := Jvm.Kit.i32_sub (by omega) (by omega)
  have e1 : (t - b) < (0 : Int32) ↔ t < b := by rw [Int32.lt_iff_toInt_lt, Int32.lt_iff_toInt_lt, es, e0]; omega
  unfold own_F2 own_F3 own_F4
  by_cases h : t < b
  · have h' : ¬ b < t := by rw [Int32.lt_iff_toInt_lt] at h ⊢; omega
    rw [if_pos (e1.mpr h), if_pos h, if_neg h']
    rw [Int32.neg_sub]
  · rw [if_neg (fun q => h (e1.mp q)), if_neg h]
    by_cases h2 : b < t
    · rw [if_pos h2]
    · rw [if_neg h2]
      have hi : t = b := by rw [← Int32.toInt_inj]; rw [Int32.lt_iff_toInt_lt] at h h2; omega
      rw [hi]
theorem pn_0 : plainName "tallybones/ScoringBidPointsPinLaw" = true := by first | (simp [plainName, overriddenIn]; done) | decide +kernel
theorem pd_0_0 : parseMethodDescriptor "(III)I" = some ⟨[.int, .int, .int], some .int⟩ := by decide +kernel
theorem pd_0_1 : parseMethodDescriptor "(II)I" = some ⟨[.int, .int], some .int⟩ := by decide +kernel
theorem ef_0 (m : MethodId) (p1 : Int32) (p2 : Int32) (p3 : Int32) (p4 : Int32) (p5 : Int32) : entryFrame m #[(.int p1), (.int p2), (.int p3), (.int p4), (.int p5)] maxLocals = (mkF m 0 #[.val (.int p1), .val (.int p2), .val (.int p3), .val (.int p4), .val (.int p5), .unset, .unset, .unset, .unset, .unset, .unset, .unset] []) := by first | (simp [entryFrame, mkF, argsToLocals, Value.category, maxLocals]; done) | rfl
def Q0 (Z : State) (p1 : Int32) (p2 : Int32) (p3 : Int32) (p4 : Int32) (p5 : Int32) (h0 : Heap) (n0 : Nat) (v : Option Value) (h : Heap) (L : List Loc) : Prop := v = some (.int (1 : Int32)) ∧ Fr n0 L
set_option maxRecDepth 65536 in
set_option maxHeartbeats 40000000 in
theorem rm0 (l : Launch) (Z : State) (a0 : Array Value) (hw : ∀ d ∈ tables_1, d.before a0 Z = true) (ws : List Jvm.Cond) (p1 : Int32) (p2 : Int32) (p3 : Int32) (p4 : Int32) (p5 : Int32) (h0 : Heap) (n0 : Nat) (Z0 : n0 ≤ h0.size) :
    MetFree l x (head1 (Jvm.Cond.code x code maxLocals ret :: ws) room_1) (fun a U => a = #[(.int p1), (.int p2), (.int p3), (.int p4), (.int p5)] ∧ Z.Warmed39 U.vm ∧ U.heap = h0) (fun _ _ _ _ _ => True) (fun _ U o U' => ∃ v L, o = .returned v ∧ Q0 Z p1 p2 p3 p4 p5 h0 n0 v U'.heap L ∧ FrameEnd U o U' L room_1.cells room_1.slots) := by
  refine MetFree.of_bodySF (plainFor_of_name pn_0) hisR ?_
  intro p e s m args below meth c s₁ Bd hml0 hP hK
  obtain ⟨rfl, hZ, hh⟩ := hP
  have hx := Bd.exec
  have hby := Bd.bytes
  have hml : c.maxLocals = 12 := hml0
  have hown : s.vm.findClass "tallybones/ScoringBidPointsPinLaw" = some m.cls := findClass_of_methodNamed Bd.named
  have hnm := (name_of_methodNamed Bd.named Bd.method).1
  have X0 : Stand p l e room_1 s m #[(.int p1), (.int p2), (.int p3), (.int p4), (.int p5)] below meth c s₁ [] 0 0 := Stand.of_body Bd
  have e0 : s₁.heap = h0 := by rw [← hh, Bd.state]; rfl
  have N0 := Fr.nil n0
  have pre0 : ∀ t, Steps p.tables e below (s₁.setTop (mkF m 0 #[.val (.int p1), .val (.int p2), .val (.int p3), .val (.int p4), .val (.int p5), .unset, .unset, .unset, .unset, .unset, .unset, .unset] [])) t → Steps p.tables e below (s₁.setTop (entryFrame m #[(.int p1), (.int p2), (.int p3), (.int p4), (.int p5)] maxLocals)) t := fun t k => castTop (ef_0 m p1 p2 p3 p4 p5) k
  obtain ⟨B, hB⟩ : ∃ z, z = own_S1 p1 p2 p3 p4 p5 := ⟨_, rfl⟩
  obtain ⟨T, hT⟩ : ∃ z, z = own_S2 p1 p2 p3 p4 p5 B := ⟨_, rfl⟩
  have hbB : 0 ≤ B.toInt ∧ B.toInt ≤ 65535 := by rw [hB]; exact own_B p1 p2 p3 p4 p5
  have htT : 0 ≤ T.toInt ∧ T.toInt ≤ 65535 := by rw [hT]; exact own_T p1 p2 p3 p4 p5 B hbB
  have sg : ∀ target, Steps p.tables e below (s₁.setTop (mkF m 47 #[.val (.int p1), .val (.int p2), .val (.int p3), .val (.int p4), .val (.int p5), .val (.int (p3 &&& (65535 : Int32))), .val (.int (p4 &&& (65535 : Int32))), .val (.int B), .val (.int T), .unset, .unset, .unset] [])) target → Steps p.tables e below (s₁.setTop (mkF m 0 #[.val (.int p1), .val (.int p2), .val (.int p3), .val (.int p4), .val (.int p5), .unset, .unset, .unset, .unset, .unset, .unset, .unset] [])) target := by
    intro target kt
    refine own_seg1 p1 p2 p3 p4 p5 X0 hx hZ hw hby hown ?_
    rw [← hB]
    refine own_seg2 p1 p2 p3 p4 p5 B X0 hx hZ hw hby hown ?_
    rw [← hT]
    exact kt
  by_cases hb0 : B = (0 : Int32)
  · by_cases ht0 : T = (0 : Int32)
    · have k1 : (own_F1 B T (p3 &&& (65535 : Int32))) = ((10 : Int32) * (p3 &&& (65535 : Int32))) := by unfold own_F1; rw [if_pos hb0, if_pos ht0]
      obtain ⟨_, _, ⟨T5, L5, k5, n5⟩, -, X5, ⟨Lc5, hQ5, l5, y5, z5⟩, st5⟩ := Jvm.LawKit.callS X0 hx (y := (⟨"tallybones/Scoring", "bidPoints", "(III)I"⟩ : MethodName)) hown (mvT hZ (hw _ (List.mem_of_getElem? (i := 1) rfl))) (mvT hZ (hw _ (List.mem_of_getElem? (i := 2) rfl))) (mvT hZ (hw _ (List.mem_of_getElem? (i := 3) rfl))) (mvT hZ (hw _ (List.mem_of_getElem? (i := 4) rfl))) (by decide) (backOf (W := 0) (rm1 l Z a0 hw [] B T (p3 &&& (65535 : Int32)) h0 n0 Z0) hZ (hw _ (List.mem_of_getElem? (i := 4) rfl)) (hw _ (List.mem_of_getElem? (i := 3) rfl)) (by decide) (by decide)) (g := (mkF m 53 #[.val (.int p1), .val (.int p2), .val (.int p3), .val (.int p4), .val (.int p5), .val (.int (p3 &&& (65535 : Int32))), .val (.int (p4 &&& (65535 : Int32))), .val (.int B), .val (.int T), .unset, .unset, .unset] [(.int (p3 &&& (65535 : Int32))), (.int T), (.int B)])) rfl (by rw [hml]; rfl) (argsL := [(.int B), (.int T), (.int (p3 &&& (65535 : Int32)))]) (rest := []) (lenOf pd_0_0 rfl) rfl (by show 2 * 0 + _ ≤ _; exact Nat.le_of_eq rfl) (hb hby at_53) (fun _ _ => ⟨rfl, e0, (by decide : 0 + 0 ≤ _), (by decide : 0 + 0 ≤ _)⟩)
      dsimp only [Pt.U, Pt.locs, Pt.cells, Pt.slots] at X5 l5 y5 z5 st5 hQ5
      subst l5 y5 z5
      obtain ⟨rfl, N5q, q5⟩ := hQ5
      have N5 := Fr.app N0 N5q
      obtain ⟨fs, hr, hrun, hended, hW, hsame⟩ := X5.leave (v := some (.int (1 : Int32))) (fun h => by rw [Bd.returns] at h; cases h)
      refine ⟨_, _, pre0 _ ?_, hrun, hended, _, _, rfl, ?_, ⟨_, rfl⟩, hW, hsame.mono (by decide) (by decide)⟩
      · refine sg _ ?_
        show Steps p.tables e below (s₁.setTop (mkF m 47 #[.val (.int p1), .val (.int p2), .val (.int p3), .val (.int p4), .val (.int p5), .val (.int (p3 &&& (65535 : Int32))), .val (.int (p4 &&& (65535 : Int32))), .val (.int B), .val (.int T), .unset, .unset, .unset] [])) _
        refine XS.iload X0.here hx rfl (hb hby at_47) rfl ?_
        show Steps p.tables e below (s₁.setTop (mkF m 49 #[.val (.int p1), .val (.int p2), .val (.int p3), .val (.int p4), .val (.int p5), .val (.int (p3 &&& (65535 : Int32))), .val (.int (p4 &&& (65535 : Int32))), .val (.int B), .val (.int T), .unset, .unset, .unset] [(.int B)])) _
        refine XS.iload X0.here hx rfl (hb hby at_49) rfl ?_
        show Steps p.tables e below (s₁.setTop (mkF m 51 #[.val (.int p1), .val (.int p2), .val (.int p3), .val (.int p4), .val (.int p5), .val (.int (p3 &&& (65535 : Int32))), .val (.int (p4 &&& (65535 : Int32))), .val (.int B), .val (.int T), .unset, .unset, .unset] [(.int T), (.int B)])) _
        refine XS.iload X0.here hx rfl (hb hby at_51) rfl ?_
        show Steps p.tables e below (s₁.setTop (mkF m 53 #[.val (.int p1), .val (.int p2), .val (.int p3), .val (.int p4), .val (.int p5), .val (.int (p3 &&& (65535 : Int32))), .val (.int (p4 &&& (65535 : Int32))), .val (.int B), .val (.int T), .unset, .unset, .unset] [(.int (p3 &&& (65535 : Int32))), (.int T), (.int B)])) _
        refine st5 _ ?_
        show Steps p.tables e below (T5.setTop (mkF m 56 #[.val (.int p1), .val (.int p2), .val (.int p3), .val (.int p4), .val (.int p5), .val (.int (p3 &&& (65535 : Int32))), .val (.int (p4 &&& (65535 : Int32))), .val (.int B), .val (.int T), .unset, .unset, .unset] [(.int (own_F1 B T (p3 &&& (65535 : Int32))))])) _
        refine XS.istore X5.here hx rfl (hb hby at_56) rfl (l' := #[.val (.int p1), .val (.int p2), .val (.int p3), .val (.int p4), .val (.int p5), .val (.int (p3 &&& (65535 : Int32))), .val (.int (p4 &&& (65535 : Int32))), .val (.int B), .val (.int T), .val (.int (own_F1 B T (p3 &&& (65535 : Int32)))), .unset, .unset]) rfl ?_
        show Steps p.tables e below (T5.setTop (mkF m 58 #[.val (.int p1), .val (.int p2), .val (.int p3), .val (.int p4), .val (.int p5), .val (.int (p3 &&& (65535 : Int32))), .val (.int (p4 &&& (65535 : Int32))), .val (.int B), .val (.int T), .val (.int (own_F1 B T (p3 &&& (65535 : Int32)))), .unset, .unset] [])) _
        refine XS.iload X5.here hx rfl (hb hby at_58) rfl ?_
        show Steps p.tables e below (T5.setTop (mkF m 60 #[.val (.int p1), .val (.int p2), .val (.int p3), .val (.int p4), .val (.int p5), .val (.int (p3 &&& (65535 : Int32))), .val (.int (p4 &&& (65535 : Int32))), .val (.int B), .val (.int T), .val (.int (own_F1 B T (p3 &&& (65535 : Int32)))), .unset, .unset] [(.int B)])) _
        refine XS.ifNo X5.here hx rfl (hb hby at_60) rfl ((if0 _ _).trans (teq hb0).2) ?_
        show Steps p.tables e below (T5.setTop (mkF m 63 #[.val (.int p1), .val (.int p2), .val (.int p3), .val (.int p4), .val (.int p5), .val (.int (p3 &&& (65535 : Int32))), .val (.int (p4 &&& (65535 : Int32))), .val (.int B), .val (.int T), .val (.int (own_F1 B T (p3 &&& (65535 : Int32)))), .unset, .unset] [])) _
        refine XS.iload X5.here hx rfl (hb hby at_63) rfl ?_
        show Steps p.tables e below (T5.setTop (mkF m 65 #[.val (.int p1), .val (.int p2), .val (.int p3), .val (.int p4), .val (.int p5), .val (.int (p3 &&& (65535 : Int32))), .val (.int (p4 &&& (65535 : Int32))), .val (.int B), .val (.int T), .val (.int (own_F1 B T (p3 &&& (65535 : Int32)))), .unset, .unset] [(.int T)])) _
        refine XS.ifNo X5.here hx rfl (hb hby at_65) rfl ((if0 _ _).trans (teq ht0).2) ?_
        show Steps p.tables e below (T5.setTop (mkF m 68 #[.val (.int p1), .val (.int p2), .val (.int p3), .val (.int p4), .val (.int p5), .val (.int (p3 &&& (65535 : Int32))), .val (.int (p4 &&& (65535 : Int32))), .val (.int B), .val (.int T), .val (.int (own_F1 B T (p3 &&& (65535 : Int32)))), .unset, .unset] [])) _
        refine XS.bipush X5.here hx rfl (hb hby at_68) ?_
        show Steps p.tables e below (T5.setTop (mkF m 70 #[.val (.int p1), .val (.int p2), .val (.int p3), .val (.int p4), .val (.int p5), .val (.int (p3 &&& (65535 : Int32))), .val (.int (p4 &&& (65535 : Int32))), .val (.int B), .val (.int T), .val (.int (own_F1 B T (p3 &&& (65535 : Int32)))), .unset, .unset] [(.int (10 : Int32))])) _
        refine XS.iload X5.here hx rfl (hb hby at_70) rfl ?_
        show Steps p.tables e below (T5.setTop (mkF m 72 #[.val (.int p1), .val (.int p2), .val (.int p3), .val (.int p4), .val (.int p5), .val (.int (p3 &&& (65535 : Int32))), .val (.int (p4 &&& (65535 : Int32))), .val (.int B), .val (.int T), .val (.int (own_F1 B T (p3 &&& (65535 : Int32)))), .unset, .unset] [(.int (p3 &&& (65535 : Int32))), (.int (10 : Int32))])) _
        refine XS.imul X5.here hx rfl (hb hby at_72) rfl ?_
        show Steps p.tables e below (T5.setTop (mkF m 73 #[.val (.int p1), .val (.int p2), .val (.int p3), .val (.int p4), .val (.int p5), .val (.int (p3 &&& (65535 : Int32))), .val (.int (p4 &&& (65535 : Int32))), .val (.int B), .val (.int T), .val (.int (own_F1 B T (p3 &&& (65535 : Int32)))), .unset, .unset] [(.int ((10 : Int32) * (p3 &&& (65535 : Int32))))])) _
        refine XS.istore X5.here hx rfl (hb hby at_73) rfl (l' := #[.val (.int p1), .val (.int p2), .val (.int p3), .val (.int p4), .val (.int p5), .val (.int (p3 &&& (65535 : Int32))), .val (.int (p4 &&& (65535 : Int32))), .val (.int B), .val (.int T), .val (.int (own_F1 B T (p3 &&& (65535 : Int32)))), .val (.int ((10 : Int32) * (p3 &&& (65535 : Int32)))), .unset]) rfl ?_
        show Steps p.tables e below (T5.setTop (mkF m 75 #[.val (.int p1), .val (.int p2), .val (.int p3), .val (.int p4), .val (.int p5), .val (.int (p3 &&& (65535 : Int32))), .val (.int (p4 &&& (65535 : Int32))), .val (.int B), .val (.int T), .val (.int (own_F1 B T (p3 &&& (65535 : Int32)))), .val (.int ((10 : Int32) * (p3 &&& (65535 : Int32)))), .unset] [])) _
        refine XS.goto X5.here hx rfl (pc0 := 75) (pc' := 129) rfl (hb hby at_75) (by decide) (by decide) ?_
        show Steps p.tables e below (T5.setTop (mkF m 129 #[.val (.int p1), .val (.int p2), .val (.int p3), .val (.int p4), .val (.int p5), .val (.int (p3 &&& (65535 : Int32))), .val (.int (p4 &&& (65535 : Int32))), .val (.int B), .val (.int T), .val (.int (own_F1 B T (p3 &&& (65535 : Int32)))), .val (.int ((10 : Int32) * (p3 &&& (65535 : Int32)))), .unset] [])) _
        refine XS.iload X5.here hx rfl (hb hby at_129) rfl ?_
        show Steps p.tables e below (T5.setTop (mkF m 131 #[.val (.int p1), .val (.int p2), .val (.int p3), .val (.int p4), .val (.int p5), .val (.int (p3 &&& (65535 : Int32))), .val (.int (p4 &&& (65535 : Int32))), .val (.int B), .val (.int T), .val (.int (own_F1 B T (p3 &&& (65535 : Int32)))), .val (.int ((10 : Int32) * (p3 &&& (65535 : Int32)))), .unset] [(.int (own_F1 B T (p3 &&& (65535 : Int32))))])) _
        refine XS.iload X5.here hx rfl (hb hby at_131) rfl ?_
        show Steps p.tables e below (T5.setTop (mkF m 133 #[.val (.int p1), .val (.int p2), .val (.int p3), .val (.int p4), .val (.int p5), .val (.int (p3 &&& (65535 : Int32))), .val (.int (p4 &&& (65535 : Int32))), .val (.int B), .val (.int T), .val (.int (own_F1 B T (p3 &&& (65535 : Int32)))), .val (.int ((10 : Int32) * (p3 &&& (65535 : Int32)))), .unset] [(.int ((10 : Int32) * (p3 &&& (65535 : Int32)))), (.int (own_F1 B T (p3 &&& (65535 : Int32))))])) _
        refine XS.icmpNo X5.here hx rfl (hb hby at_133) rfl (teq k1).2 ?_
        show Steps p.tables e below (T5.setTop (mkF m 136 #[.val (.int p1), .val (.int p2), .val (.int p3), .val (.int p4), .val (.int p5), .val (.int (p3 &&& (65535 : Int32))), .val (.int (p4 &&& (65535 : Int32))), .val (.int B), .val (.int T), .val (.int (own_F1 B T (p3 &&& (65535 : Int32)))), .val (.int ((10 : Int32) * (p3 &&& (65535 : Int32)))), .unset] [])) _
        refine XS.iconst X5.here hx rfl (hb hby at_136) ?_
        show Steps p.tables e below (T5.setTop (mkF m 137 #[.val (.int p1), .val (.int p2), .val (.int p3), .val (.int p4), .val (.int p5), .val (.int (p3 &&& (65535 : Int32))), .val (.int (p4 &&& (65535 : Int32))), .val (.int B), .val (.int T), .val (.int (own_F1 B T (p3 &&& (65535 : Int32)))), .val (.int ((10 : Int32) * (p3 &&& (65535 : Int32)))), .unset] [(.int (1 : Int32))])) _
        refine XS.goto X5.here hx rfl (pc0 := 137) (pc' := 141) rfl (hb hby at_137) (by decide) (by decide) ?_
        show Steps p.tables e below (T5.setTop (mkF m 141 #[.val (.int p1), .val (.int p2), .val (.int p3), .val (.int p4), .val (.int p5), .val (.int (p3 &&& (65535 : Int32))), .val (.int (p4 &&& (65535 : Int32))), .val (.int B), .val (.int T), .val (.int (own_F1 B T (p3 &&& (65535 : Int32)))), .val (.int ((10 : Int32) * (p3 &&& (65535 : Int32)))), .unset] [(.int (1 : Int32))])) _
        refine XS.istore X5.here hx rfl (hb hby at_141) rfl (l' := #[.val (.int p1), .val (.int p2), .val (.int p3), .val (.int p4), .val (.int p5), .val (.int (p3 &&& (65535 : Int32))), .val (.int (p4 &&& (65535 : Int32))), .val (.int B), .val (.int T), .val (.int (own_F1 B T (p3 &&& (65535 : Int32)))), .val (.int ((10 : Int32) * (p3 &&& (65535 : Int32)))), .val (.int (1 : Int32))]) rfl ?_
        show Steps p.tables e below (T5.setTop (mkF m 143 #[.val (.int p1), .val (.int p2), .val (.int p3), .val (.int p4), .val (.int p5), .val (.int (p3 &&& (65535 : Int32))), .val (.int (p4 &&& (65535 : Int32))), .val (.int B), .val (.int T), .val (.int (own_F1 B T (p3 &&& (65535 : Int32)))), .val (.int ((10 : Int32) * (p3 &&& (65535 : Int32)))), .val (.int (1 : Int32))] [])) _
        refine XS.iload X5.here hx rfl (hb hby at_143) rfl ?_
        show Steps p.tables e below (T5.setTop (mkF m 145 #[.val (.int p1), .val (.int p2), .val (.int p3), .val (.int p4), .val (.int p5), .val (.int (p3 &&& (65535 : Int32))), .val (.int (p4 &&& (65535 : Int32))), .val (.int B), .val (.int T), .val (.int (own_F1 B T (p3 &&& (65535 : Int32)))), .val (.int ((10 : Int32) * (p3 &&& (65535 : Int32)))), .val (.int (1 : Int32))] [(.int B)])) _
        refine XS.ifYes X5.here hx rfl (pc0 := 145) (pc' := 174) rfl (hb hby at_145) rfl ((if0 _ _).trans (teq hb0).1) (by decide) (by decide) ?_
        show Steps p.tables e below (T5.setTop (mkF m 174 #[.val (.int p1), .val (.int p2), .val (.int p3), .val (.int p4), .val (.int p5), .val (.int (p3 &&& (65535 : Int32))), .val (.int (p4 &&& (65535 : Int32))), .val (.int B), .val (.int T), .val (.int (own_F1 B T (p3 &&& (65535 : Int32)))), .val (.int ((10 : Int32) * (p3 &&& (65535 : Int32)))), .val (.int (1 : Int32))] [])) _
        refine XS.iload X5.here hx rfl (hb hby at_174) rfl ?_
        show Steps p.tables e below (T5.setTop (mkF m 176 #[.val (.int p1), .val (.int p2), .val (.int p3), .val (.int p4), .val (.int p5), .val (.int (p3 &&& (65535 : Int32))), .val (.int (p4 &&& (65535 : Int32))), .val (.int B), .val (.int T), .val (.int (own_F1 B T (p3 &&& (65535 : Int32)))), .val (.int ((10 : Int32) * (p3 &&& (65535 : Int32)))), .val (.int (1 : Int32))] [(.int (1 : Int32))])) _
        exact retN X5 hx (t := .boolean) Bd.returns (by simp) (hb hby at_176) hr
      · show Q0 Z p1 p2 p3 p4 p5 h0 n0 _ T5.heap _
        exact ⟨rfl, N5⟩
    · have k1 : (own_F1 B T (p3 &&& (65535 : Int32))) = ((-10 : Int32) * (p3 &&& (65535 : Int32))) := by unfold own_F1; rw [if_pos hb0, if_neg ht0]
      obtain ⟨_, _, ⟨T5, L5, k5, n5⟩, -, X5, ⟨Lc5, hQ5, l5, y5, z5⟩, st5⟩ := Jvm.LawKit.callS X0 hx (y := (⟨"tallybones/Scoring", "bidPoints", "(III)I"⟩ : MethodName)) hown (mvT hZ (hw _ (List.mem_of_getElem? (i := 1) rfl))) (mvT hZ (hw _ (List.mem_of_getElem? (i := 2) rfl))) (mvT hZ (hw _ (List.mem_of_getElem? (i := 3) rfl))) (mvT hZ (hw _ (List.mem_of_getElem? (i := 4) rfl))) (by decide) (backOf (W := 0) (rm1 l Z a0 hw [] B T (p3 &&& (65535 : Int32)) h0 n0 Z0) hZ (hw _ (List.mem_of_getElem? (i := 4) rfl)) (hw _ (List.mem_of_getElem? (i := 3) rfl)) (by decide) (by decide)) (g := (mkF m 53 #[.val (.int p1), .val (.int p2), .val (.int p3), .val (.int p4), .val (.int p5), .val (.int (p3 &&& (65535 : Int32))), .val (.int (p4 &&& (65535 : Int32))), .val (.int B), .val (.int T), .unset, .unset, .unset] [(.int (p3 &&& (65535 : Int32))), (.int T), (.int B)])) rfl (by rw [hml]; rfl) (argsL := [(.int B), (.int T), (.int (p3 &&& (65535 : Int32)))]) (rest := []) (lenOf pd_0_0 rfl) rfl (by show 2 * 0 + _ ≤ _; exact Nat.le_of_eq rfl) (hb hby at_53) (fun _ _ => ⟨rfl, e0, (by decide : 0 + 0 ≤ _), (by decide : 0 + 0 ≤ _)⟩)
      dsimp only [Pt.U, Pt.locs, Pt.cells, Pt.slots] at X5 l5 y5 z5 st5 hQ5
      subst l5 y5 z5
      obtain ⟨rfl, N5q, q5⟩ := hQ5
      have N5 := Fr.app N0 N5q
      obtain ⟨fs, hr, hrun, hended, hW, hsame⟩ := X5.leave (v := some (.int (1 : Int32))) (fun h => by rw [Bd.returns] at h; cases h)
      refine ⟨_, _, pre0 _ ?_, hrun, hended, _, _, rfl, ?_, ⟨_, rfl⟩, hW, hsame.mono (by decide) (by decide)⟩
      · refine sg _ ?_
        show Steps p.tables e below (s₁.setTop (mkF m 47 #[.val (.int p1), .val (.int p2), .val (.int p3), .val (.int p4), .val (.int p5), .val (.int (p3 &&& (65535 : Int32))), .val (.int (p4 &&& (65535 : Int32))), .val (.int B), .val (.int T), .unset, .unset, .unset] [])) _
        refine XS.iload X0.here hx rfl (hb hby at_47) rfl ?_
        show Steps p.tables e below (s₁.setTop (mkF m 49 #[.val (.int p1), .val (.int p2), .val (.int p3), .val (.int p4), .val (.int p5), .val (.int (p3 &&& (65535 : Int32))), .val (.int (p4 &&& (65535 : Int32))), .val (.int B), .val (.int T), .unset, .unset, .unset] [(.int B)])) _
        refine XS.iload X0.here hx rfl (hb hby at_49) rfl ?_
        show Steps p.tables e below (s₁.setTop (mkF m 51 #[.val (.int p1), .val (.int p2), .val (.int p3), .val (.int p4), .val (.int p5), .val (.int (p3 &&& (65535 : Int32))), .val (.int (p4 &&& (65535 : Int32))), .val (.int B), .val (.int T), .unset, .unset, .unset] [(.int T), (.int B)])) _
        refine XS.iload X0.here hx rfl (hb hby at_51) rfl ?_
        show Steps p.tables e below (s₁.setTop (mkF m 53 #[.val (.int p1), .val (.int p2), .val (.int p3), .val (.int p4), .val (.int p5), .val (.int (p3 &&& (65535 : Int32))), .val (.int (p4 &&& (65535 : Int32))), .val (.int B), .val (.int T), .unset, .unset, .unset] [(.int (p3 &&& (65535 : Int32))), (.int T), (.int B)])) _
        refine st5 _ ?_
        show Steps p.tables e below (T5.setTop (mkF m 56 #[.val (.int p1), .val (.int p2), .val (.int p3), .val (.int p4), .val (.int p5), .val (.int (p3 &&& (65535 : Int32))), .val (.int (p4 &&& (65535 : Int32))), .val (.int B), .val (.int T), .unset, .unset, .unset] [(.int (own_F1 B T (p3 &&& (65535 : Int32))))])) _
        refine XS.istore X5.here hx rfl (hb hby at_56) rfl (l' := #[.val (.int p1), .val (.int p2), .val (.int p3), .val (.int p4), .val (.int p5), .val (.int (p3 &&& (65535 : Int32))), .val (.int (p4 &&& (65535 : Int32))), .val (.int B), .val (.int T), .val (.int (own_F1 B T (p3 &&& (65535 : Int32)))), .unset, .unset]) rfl ?_
        show Steps p.tables e below (T5.setTop (mkF m 58 #[.val (.int p1), .val (.int p2), .val (.int p3), .val (.int p4), .val (.int p5), .val (.int (p3 &&& (65535 : Int32))), .val (.int (p4 &&& (65535 : Int32))), .val (.int B), .val (.int T), .val (.int (own_F1 B T (p3 &&& (65535 : Int32)))), .unset, .unset] [])) _
        refine XS.iload X5.here hx rfl (hb hby at_58) rfl ?_
        show Steps p.tables e below (T5.setTop (mkF m 60 #[.val (.int p1), .val (.int p2), .val (.int p3), .val (.int p4), .val (.int p5), .val (.int (p3 &&& (65535 : Int32))), .val (.int (p4 &&& (65535 : Int32))), .val (.int B), .val (.int T), .val (.int (own_F1 B T (p3 &&& (65535 : Int32)))), .unset, .unset] [(.int B)])) _
        refine XS.ifNo X5.here hx rfl (hb hby at_60) rfl ((if0 _ _).trans (teq hb0).2) ?_
        show Steps p.tables e below (T5.setTop (mkF m 63 #[.val (.int p1), .val (.int p2), .val (.int p3), .val (.int p4), .val (.int p5), .val (.int (p3 &&& (65535 : Int32))), .val (.int (p4 &&& (65535 : Int32))), .val (.int B), .val (.int T), .val (.int (own_F1 B T (p3 &&& (65535 : Int32)))), .unset, .unset] [])) _
        refine XS.iload X5.here hx rfl (hb hby at_63) rfl ?_
        show Steps p.tables e below (T5.setTop (mkF m 65 #[.val (.int p1), .val (.int p2), .val (.int p3), .val (.int p4), .val (.int p5), .val (.int (p3 &&& (65535 : Int32))), .val (.int (p4 &&& (65535 : Int32))), .val (.int B), .val (.int T), .val (.int (own_F1 B T (p3 &&& (65535 : Int32)))), .unset, .unset] [(.int T)])) _
        refine XS.ifYes X5.here hx rfl (pc0 := 65) (pc' := 78) rfl (hb hby at_65) rfl ((if0 _ _).trans (feq ht0).2) (by decide) (by decide) ?_
        show Steps p.tables e below (T5.setTop (mkF m 78 #[.val (.int p1), .val (.int p2), .val (.int p3), .val (.int p4), .val (.int p5), .val (.int (p3 &&& (65535 : Int32))), .val (.int (p4 &&& (65535 : Int32))), .val (.int B), .val (.int T), .val (.int (own_F1 B T (p3 &&& (65535 : Int32)))), .unset, .unset] [])) _
        refine XS.bipush X5.here hx rfl (hb hby at_78) ?_
        show Steps p.tables e below (T5.setTop (mkF m 80 #[.val (.int p1), .val (.int p2), .val (.int p3), .val (.int p4), .val (.int p5), .val (.int (p3 &&& (65535 : Int32))), .val (.int (p4 &&& (65535 : Int32))), .val (.int B), .val (.int T), .val (.int (own_F1 B T (p3 &&& (65535 : Int32)))), .unset, .unset] [(.int (-10 : Int32))])) _
        refine XS.iload X5.here hx rfl (hb hby at_80) rfl ?_
        show Steps p.tables e below (T5.setTop (mkF m 82 #[.val (.int p1), .val (.int p2), .val (.int p3), .val (.int p4), .val (.int p5), .val (.int (p3 &&& (65535 : Int32))), .val (.int (p4 &&& (65535 : Int32))), .val (.int B), .val (.int T), .val (.int (own_F1 B T (p3 &&& (65535 : Int32)))), .unset, .unset] [(.int (p3 &&& (65535 : Int32))), (.int (-10 : Int32))])) _
        refine XS.imul X5.here hx rfl (hb hby at_82) rfl ?_
        show Steps p.tables e below (T5.setTop (mkF m 83 #[.val (.int p1), .val (.int p2), .val (.int p3), .val (.int p4), .val (.int p5), .val (.int (p3 &&& (65535 : Int32))), .val (.int (p4 &&& (65535 : Int32))), .val (.int B), .val (.int T), .val (.int (own_F1 B T (p3 &&& (65535 : Int32)))), .unset, .unset] [(.int ((-10 : Int32) * (p3 &&& (65535 : Int32))))])) _
        refine XS.istore X5.here hx rfl (hb hby at_83) rfl (l' := #[.val (.int p1), .val (.int p2), .val (.int p3), .val (.int p4), .val (.int p5), .val (.int (p3 &&& (65535 : Int32))), .val (.int (p4 &&& (65535 : Int32))), .val (.int B), .val (.int T), .val (.int (own_F1 B T (p3 &&& (65535 : Int32)))), .val (.int ((-10 : Int32) * (p3 &&& (65535 : Int32)))), .unset]) rfl ?_
        show Steps p.tables e below (T5.setTop (mkF m 85 #[.val (.int p1), .val (.int p2), .val (.int p3), .val (.int p4), .val (.int p5), .val (.int (p3 &&& (65535 : Int32))), .val (.int (p4 &&& (65535 : Int32))), .val (.int B), .val (.int T), .val (.int (own_F1 B T (p3 &&& (65535 : Int32)))), .val (.int ((-10 : Int32) * (p3 &&& (65535 : Int32)))), .unset] [])) _
        refine XS.goto X5.here hx rfl (pc0 := 85) (pc' := 129) rfl (hb hby at_85) (by decide) (by decide) ?_
        show Steps p.tables e below (T5.setTop (mkF m 129 #[.val (.int p1), .val (.int p2), .val (.int p3), .val (.int p4), .val (.int p5), .val (.int (p3 &&& (65535 : Int32))), .val (.int (p4 &&& (65535 : Int32))), .val (.int B), .val (.int T), .val (.int (own_F1 B T (p3 &&& (65535 : Int32)))), .val (.int ((-10 : Int32) * (p3 &&& (65535 : Int32)))), .unset] [])) _
        refine XS.iload X5.here hx rfl (hb hby at_129) rfl ?_
        show Steps p.tables e below (T5.setTop (mkF m 131 #[.val (.int p1), .val (.int p2), .val (.int p3), .val (.int p4), .val (.int p5), .val (.int (p3 &&& (65535 : Int32))), .val (.int (p4 &&& (65535 : Int32))), .val (.int B), .val (.int T), .val (.int (own_F1 B T (p3 &&& (65535 : Int32)))), .val (.int ((-10 : Int32) * (p3 &&& (65535 : Int32)))), .unset] [(.int (own_F1 B T (p3 &&& (65535 : Int32))))])) _
        refine XS.iload X5.here hx rfl (hb hby at_131) rfl ?_
        show Steps p.tables e below (T5.setTop (mkF m 133 #[.val (.int p1), .val (.int p2), .val (.int p3), .val (.int p4), .val (.int p5), .val (.int (p3 &&& (65535 : Int32))), .val (.int (p4 &&& (65535 : Int32))), .val (.int B), .val (.int T), .val (.int (own_F1 B T (p3 &&& (65535 : Int32)))), .val (.int ((-10 : Int32) * (p3 &&& (65535 : Int32)))), .unset] [(.int ((-10 : Int32) * (p3 &&& (65535 : Int32)))), (.int (own_F1 B T (p3 &&& (65535 : Int32))))])) _
        refine XS.icmpNo X5.here hx rfl (hb hby at_133) rfl (teq k1).2 ?_
        show Steps p.tables e below (T5.setTop (mkF m 136 #[.val (.int p1), .val (.int p2), .val (.int p3), .val (.int p4), .val (.int p5), .val (.int (p3 &&& (65535 : Int32))), .val (.int (p4 &&& (65535 : Int32))), .val (.int B), .val (.int T), .val (.int (own_F1 B T (p3 &&& (65535 : Int32)))), .val (.int ((-10 : Int32) * (p3 &&& (65535 : Int32)))), .unset] [])) _
        refine XS.iconst X5.here hx rfl (hb hby at_136) ?_
        show Steps p.tables e below (T5.setTop (mkF m 137 #[.val (.int p1), .val (.int p2), .val (.int p3), .val (.int p4), .val (.int p5), .val (.int (p3 &&& (65535 : Int32))), .val (.int (p4 &&& (65535 : Int32))), .val (.int B), .val (.int T), .val (.int (own_F1 B T (p3 &&& (65535 : Int32)))), .val (.int ((-10 : Int32) * (p3 &&& (65535 : Int32)))), .unset] [(.int (1 : Int32))])) _
        refine XS.goto X5.here hx rfl (pc0 := 137) (pc' := 141) rfl (hb hby at_137) (by decide) (by decide) ?_
        show Steps p.tables e below (T5.setTop (mkF m 141 #[.val (.int p1), .val (.int p2), .val (.int p3), .val (.int p4), .val (.int p5), .val (.int (p3 &&& (65535 : Int32))), .val (.int (p4 &&& (65535 : Int32))), .val (.int B), .val (.int T), .val (.int (own_F1 B T (p3 &&& (65535 : Int32)))), .val (.int ((-10 : Int32) * (p3 &&& (65535 : Int32)))), .unset] [(.int (1 : Int32))])) _
        refine XS.istore X5.here hx rfl (hb hby at_141) rfl (l' := #[.val (.int p1), .val (.int p2), .val (.int p3), .val (.int p4), .val (.int p5), .val (.int (p3 &&& (65535 : Int32))), .val (.int (p4 &&& (65535 : Int32))), .val (.int B), .val (.int T), .val (.int (own_F1 B T (p3 &&& (65535 : Int32)))), .val (.int ((-10 : Int32) * (p3 &&& (65535 : Int32)))), .val (.int (1 : Int32))]) rfl ?_
        show Steps p.tables e below (T5.setTop (mkF m 143 #[.val (.int p1), .val (.int p2), .val (.int p3), .val (.int p4), .val (.int p5), .val (.int (p3 &&& (65535 : Int32))), .val (.int (p4 &&& (65535 : Int32))), .val (.int B), .val (.int T), .val (.int (own_F1 B T (p3 &&& (65535 : Int32)))), .val (.int ((-10 : Int32) * (p3 &&& (65535 : Int32)))), .val (.int (1 : Int32))] [])) _
        refine XS.iload X5.here hx rfl (hb hby at_143) rfl ?_
        show Steps p.tables e below (T5.setTop (mkF m 145 #[.val (.int p1), .val (.int p2), .val (.int p3), .val (.int p4), .val (.int p5), .val (.int (p3 &&& (65535 : Int32))), .val (.int (p4 &&& (65535 : Int32))), .val (.int B), .val (.int T), .val (.int (own_F1 B T (p3 &&& (65535 : Int32)))), .val (.int ((-10 : Int32) * (p3 &&& (65535 : Int32)))), .val (.int (1 : Int32))] [(.int B)])) _
        refine XS.ifYes X5.here hx rfl (pc0 := 145) (pc' := 174) rfl (hb hby at_145) rfl ((if0 _ _).trans (teq hb0).1) (by decide) (by decide) ?_
        show Steps p.tables e below (T5.setTop (mkF m 174 #[.val (.int p1), .val (.int p2), .val (.int p3), .val (.int p4), .val (.int p5), .val (.int (p3 &&& (65535 : Int32))), .val (.int (p4 &&& (65535 : Int32))), .val (.int B), .val (.int T), .val (.int (own_F1 B T (p3 &&& (65535 : Int32)))), .val (.int ((-10 : Int32) * (p3 &&& (65535 : Int32)))), .val (.int (1 : Int32))] [])) _
        refine XS.iload X5.here hx rfl (hb hby at_174) rfl ?_
        show Steps p.tables e below (T5.setTop (mkF m 176 #[.val (.int p1), .val (.int p2), .val (.int p3), .val (.int p4), .val (.int p5), .val (.int (p3 &&& (65535 : Int32))), .val (.int (p4 &&& (65535 : Int32))), .val (.int B), .val (.int T), .val (.int (own_F1 B T (p3 &&& (65535 : Int32)))), .val (.int ((-10 : Int32) * (p3 &&& (65535 : Int32)))), .val (.int (1 : Int32))] [(.int (1 : Int32))])) _
        exact retN X5 hx (t := .boolean) Bd.returns (by simp) (hb hby at_176) hr
      · show Q0 Z p1 p2 p3 p4 p5 h0 n0 _ T5.heap _
        exact ⟨rfl, N5⟩
  · by_cases hbt : T = B
    · have k1 : (own_F1 B T (p3 &&& (65535 : Int32))) = ((20 : Int32) * B) := by unfold own_F1; rw [if_neg hb0, if_pos hbt, hbt]
      have k2 : (own_F1 B T (p4 &&& (65535 : Int32))) = (own_F1 B T (p3 &&& (65535 : Int32))) := by unfold own_F1; rw [if_neg hb0, if_neg hb0, if_pos hbt]
      obtain ⟨_, _, ⟨T5, L5, k5, n5⟩, -, X5, ⟨Lc5, hQ5, l5, y5, z5⟩, st5⟩ := Jvm.LawKit.callS X0 hx (y := (⟨"tallybones/Scoring", "bidPoints", "(III)I"⟩ : MethodName)) hown (mvT hZ (hw _ (List.mem_of_getElem? (i := 1) rfl))) (mvT hZ (hw _ (List.mem_of_getElem? (i := 2) rfl))) (mvT hZ (hw _ (List.mem_of_getElem? (i := 3) rfl))) (mvT hZ (hw _ (List.mem_of_getElem? (i := 4) rfl))) (by decide) (backOf (W := 0) (rm1 l Z a0 hw [] B T (p3 &&& (65535 : Int32)) h0 n0 Z0) hZ (hw _ (List.mem_of_getElem? (i := 4) rfl)) (hw _ (List.mem_of_getElem? (i := 3) rfl)) (by decide) (by decide)) (g := (mkF m 53 #[.val (.int p1), .val (.int p2), .val (.int p3), .val (.int p4), .val (.int p5), .val (.int (p3 &&& (65535 : Int32))), .val (.int (p4 &&& (65535 : Int32))), .val (.int B), .val (.int T), .unset, .unset, .unset] [(.int (p3 &&& (65535 : Int32))), (.int T), (.int B)])) rfl (by rw [hml]; rfl) (argsL := [(.int B), (.int T), (.int (p3 &&& (65535 : Int32)))]) (rest := []) (lenOf pd_0_0 rfl) rfl (by show 2 * 0 + _ ≤ _; exact Nat.le_of_eq rfl) (hb hby at_53) (fun _ _ => ⟨rfl, e0, (by decide : 0 + 0 ≤ _), (by decide : 0 + 0 ≤ _)⟩)
      dsimp only [Pt.U, Pt.locs, Pt.cells, Pt.slots] at X5 l5 y5 z5 st5 hQ5
      subst l5 y5 z5
      obtain ⟨rfl, N5q, q5⟩ := hQ5
      have N5 := Fr.app N0 N5q
      obtain ⟨_, _, ⟨T8, L8, k8, n8⟩, -, X8, ⟨Lc8, hQ8, l8, y8, z8⟩, st8⟩ := Jvm.LawKit.callS X5 hx (y := (⟨"tallybones/Scoring", "bidPoints", "(III)I"⟩ : MethodName)) hown (mvT hZ (hw _ (List.mem_of_getElem? (i := 1) rfl))) (mvT hZ (hw _ (List.mem_of_getElem? (i := 2) rfl))) (mvT hZ (hw _ (List.mem_of_getElem? (i := 3) rfl))) (mvT hZ (hw _ (List.mem_of_getElem? (i := 4) rfl))) (by decide) (backOf (W := 0) (rm1 l Z a0 hw [] B T (p4 &&& (65535 : Int32)) h0 n0 Z0) hZ (hw _ (List.mem_of_getElem? (i := 4) rfl)) (hw _ (List.mem_of_getElem? (i := 3) rfl)) (by decide) (by decide)) (g := (mkF m 159 #[.val (.int p1), .val (.int p2), .val (.int p3), .val (.int p4), .val (.int p5), .val (.int (p3 &&& (65535 : Int32))), .val (.int (p4 &&& (65535 : Int32))), .val (.int B), .val (.int T), .val (.int (own_F1 B T (p3 &&& (65535 : Int32)))), .val (.int ((20 : Int32) * B)), .val (.int (1 : Int32))] [(.int (p4 &&& (65535 : Int32))), (.int T), (.int B)])) rfl (by rw [hml]; rfl) (argsL := [(.int B), (.int T), (.int (p4 &&& (65535 : Int32)))]) (rest := []) (lenOf pd_0_0 rfl) rfl (by show 2 * 0 + _ ≤ _; exact Nat.le_of_eq rfl) (hb hby at_159) (fun _ _ => ⟨rfl, q5, (by decide : 0 + 0 ≤ _), (by decide : 0 + 0 ≤ _)⟩)
      dsimp only [Pt.U, Pt.locs, Pt.cells, Pt.slots] at X8 l8 y8 z8 st8 hQ8
      subst l8 y8 z8
      obtain ⟨rfl, N8q, q8⟩ := hQ8
      have N8 := Fr.app N5 N8q
      obtain ⟨fs, hr, hrun, hended, hW, hsame⟩ := X8.leave (v := some (.int (1 : Int32))) (fun h => by rw [Bd.returns] at h; cases h)
      refine ⟨_, _, pre0 _ ?_, hrun, hended, _, _, rfl, ?_, ⟨_, rfl⟩, hW, hsame.mono (by decide) (by decide)⟩
      · refine sg _ ?_
        show Steps p.tables e below (s₁.setTop (mkF m 47 #[.val (.int p1), .val (.int p2), .val (.int p3), .val (.int p4), .val (.int p5), .val (.int (p3 &&& (65535 : Int32))), .val (.int (p4 &&& (65535 : Int32))), .val (.int B), .val (.int T), .unset, .unset, .unset] [])) _
        refine XS.iload X0.here hx rfl (hb hby at_47) rfl ?_
        show Steps p.tables e below (s₁.setTop (mkF m 49 #[.val (.int p1), .val (.int p2), .val (.int p3), .val (.int p4), .val (.int p5), .val (.int (p3 &&& (65535 : Int32))), .val (.int (p4 &&& (65535 : Int32))), .val (.int B), .val (.int T), .unset, .unset, .unset] [(.int B)])) _
        refine XS.iload X0.here hx rfl (hb hby at_49) rfl ?_
        show Steps p.tables e below (s₁.setTop (mkF m 51 #[.val (.int p1), .val (.int p2), .val (.int p3), .val (.int p4), .val (.int p5), .val (.int (p3 &&& (65535 : Int32))), .val (.int (p4 &&& (65535 : Int32))), .val (.int B), .val (.int T), .unset, .unset, .unset] [(.int T), (.int B)])) _
        refine XS.iload X0.here hx rfl (hb hby at_51) rfl ?_
        show Steps p.tables e below (s₁.setTop (mkF m 53 #[.val (.int p1), .val (.int p2), .val (.int p3), .val (.int p4), .val (.int p5), .val (.int (p3 &&& (65535 : Int32))), .val (.int (p4 &&& (65535 : Int32))), .val (.int B), .val (.int T), .unset, .unset, .unset] [(.int (p3 &&& (65535 : Int32))), (.int T), (.int B)])) _
        refine st5 _ ?_
        show Steps p.tables e below (T5.setTop (mkF m 56 #[.val (.int p1), .val (.int p2), .val (.int p3), .val (.int p4), .val (.int p5), .val (.int (p3 &&& (65535 : Int32))), .val (.int (p4 &&& (65535 : Int32))), .val (.int B), .val (.int T), .unset, .unset, .unset] [(.int (own_F1 B T (p3 &&& (65535 : Int32))))])) _
        refine XS.istore X5.here hx rfl (hb hby at_56) rfl (l' := #[.val (.int p1), .val (.int p2), .val (.int p3), .val (.int p4), .val (.int p5), .val (.int (p3 &&& (65535 : Int32))), .val (.int (p4 &&& (65535 : Int32))), .val (.int B), .val (.int T), .val (.int (own_F1 B T (p3 &&& (65535 : Int32)))), .unset, .unset]) rfl ?_
        show Steps p.tables e below (T5.setTop (mkF m 58 #[.val (.int p1), .val (.int p2), .val (.int p3), .val (.int p4), .val (.int p5), .val (.int (p3 &&& (65535 : Int32))), .val (.int (p4 &&& (65535 : Int32))), .val (.int B), .val (.int T), .val (.int (own_F1 B T (p3 &&& (65535 : Int32)))), .unset, .unset] [])) _
        refine XS.iload X5.here hx rfl (hb hby at_58) rfl ?_
        show Steps p.tables e below (T5.setTop (mkF m 60 #[.val (.int p1), .val (.int p2), .val (.int p3), .val (.int p4), .val (.int p5), .val (.int (p3 &&& (65535 : Int32))), .val (.int (p4 &&& (65535 : Int32))), .val (.int B), .val (.int T), .val (.int (own_F1 B T (p3 &&& (65535 : Int32)))), .unset, .unset] [(.int B)])) _
        refine XS.ifYes X5.here hx rfl (pc0 := 60) (pc' := 88) rfl (hb hby at_60) rfl ((if0 _ _).trans (feq hb0).2) (by decide) (by decide) ?_
        show Steps p.tables e below (T5.setTop (mkF m 88 #[.val (.int p1), .val (.int p2), .val (.int p3), .val (.int p4), .val (.int p5), .val (.int (p3 &&& (65535 : Int32))), .val (.int (p4 &&& (65535 : Int32))), .val (.int B), .val (.int T), .val (.int (own_F1 B T (p3 &&& (65535 : Int32)))), .unset, .unset] [])) _
        refine XS.iload X5.here hx rfl (hb hby at_88) rfl ?_
        show Steps p.tables e below (T5.setTop (mkF m 90 #[.val (.int p1), .val (.int p2), .val (.int p3), .val (.int p4), .val (.int p5), .val (.int (p3 &&& (65535 : Int32))), .val (.int (p4 &&& (65535 : Int32))), .val (.int B), .val (.int T), .val (.int (own_F1 B T (p3 &&& (65535 : Int32)))), .unset, .unset] [(.int T)])) _
        refine XS.iload X5.here hx rfl (hb hby at_90) rfl ?_
        show Steps p.tables e below (T5.setTop (mkF m 92 #[.val (.int p1), .val (.int p2), .val (.int p3), .val (.int p4), .val (.int p5), .val (.int (p3 &&& (65535 : Int32))), .val (.int (p4 &&& (65535 : Int32))), .val (.int B), .val (.int T), .val (.int (own_F1 B T (p3 &&& (65535 : Int32)))), .unset, .unset] [(.int B), (.int T)])) _
        refine XS.icmpNo X5.here hx rfl (hb hby at_92) rfl (teq hbt).2 ?_
        show Steps p.tables e below (T5.setTop (mkF m 95 #[.val (.int p1), .val (.int p2), .val (.int p3), .val (.int p4), .val (.int p5), .val (.int (p3 &&& (65535 : Int32))), .val (.int (p4 &&& (65535 : Int32))), .val (.int B), .val (.int T), .val (.int (own_F1 B T (p3 &&& (65535 : Int32)))), .unset, .unset] [])) _
        refine XS.bipush X5.here hx rfl (hb hby at_95) ?_
        show Steps p.tables e below (T5.setTop (mkF m 97 #[.val (.int p1), .val (.int p2), .val (.int p3), .val (.int p4), .val (.int p5), .val (.int (p3 &&& (65535 : Int32))), .val (.int (p4 &&& (65535 : Int32))), .val (.int B), .val (.int T), .val (.int (own_F1 B T (p3 &&& (65535 : Int32)))), .unset, .unset] [(.int (20 : Int32))])) _
        refine XS.iload X5.here hx rfl (hb hby at_97) rfl ?_
        show Steps p.tables e below (T5.setTop (mkF m 99 #[.val (.int p1), .val (.int p2), .val (.int p3), .val (.int p4), .val (.int p5), .val (.int (p3 &&& (65535 : Int32))), .val (.int (p4 &&& (65535 : Int32))), .val (.int B), .val (.int T), .val (.int (own_F1 B T (p3 &&& (65535 : Int32)))), .unset, .unset] [(.int B), (.int (20 : Int32))])) _
        refine XS.imul X5.here hx rfl (hb hby at_99) rfl ?_
        show Steps p.tables e below (T5.setTop (mkF m 100 #[.val (.int p1), .val (.int p2), .val (.int p3), .val (.int p4), .val (.int p5), .val (.int (p3 &&& (65535 : Int32))), .val (.int (p4 &&& (65535 : Int32))), .val (.int B), .val (.int T), .val (.int (own_F1 B T (p3 &&& (65535 : Int32)))), .unset, .unset] [(.int ((20 : Int32) * B))])) _
        refine XS.istore X5.here hx rfl (hb hby at_100) rfl (l' := #[.val (.int p1), .val (.int p2), .val (.int p3), .val (.int p4), .val (.int p5), .val (.int (p3 &&& (65535 : Int32))), .val (.int (p4 &&& (65535 : Int32))), .val (.int B), .val (.int T), .val (.int (own_F1 B T (p3 &&& (65535 : Int32)))), .val (.int ((20 : Int32) * B)), .unset]) rfl ?_
        show Steps p.tables e below (T5.setTop (mkF m 102 #[.val (.int p1), .val (.int p2), .val (.int p3), .val (.int p4), .val (.int p5), .val (.int (p3 &&& (65535 : Int32))), .val (.int (p4 &&& (65535 : Int32))), .val (.int B), .val (.int T), .val (.int (own_F1 B T (p3 &&& (65535 : Int32)))), .val (.int ((20 : Int32) * B)), .unset] [])) _
        refine XS.goto X5.here hx rfl (pc0 := 102) (pc' := 129) rfl (hb hby at_102) (by decide) (by decide) ?_
        show Steps p.tables e below (T5.setTop (mkF m 129 #[.val (.int p1), .val (.int p2), .val (.int p3), .val (.int p4), .val (.int p5), .val (.int (p3 &&& (65535 : Int32))), .val (.int (p4 &&& (65535 : Int32))), .val (.int B), .val (.int T), .val (.int (own_F1 B T (p3 &&& (65535 : Int32)))), .val (.int ((20 : Int32) * B)), .unset] [])) _
        refine XS.iload X5.here hx rfl (hb hby at_129) rfl ?_
        show Steps p.tables e below (T5.setTop (mkF m 131 #[.val (.int p1), .val (.int p2), .val (.int p3), .val (.int p4), .val (.int p5), .val (.int (p3 &&& (65535 : Int32))), .val (.int (p4 &&& (65535 : Int32))), .val (.int B), .val (.int T), .val (.int (own_F1 B T (p3 &&& (65535 : Int32)))), .val (.int ((20 : Int32) * B)), .unset] [(.int (own_F1 B T (p3 &&& (65535 : Int32))))])) _
        refine XS.iload X5.here hx rfl (hb hby at_131) rfl ?_
        show Steps p.tables e below (T5.setTop (mkF m 133 #[.val (.int p1), .val (.int p2), .val (.int p3), .val (.int p4), .val (.int p5), .val (.int (p3 &&& (65535 : Int32))), .val (.int (p4 &&& (65535 : Int32))), .val (.int B), .val (.int T), .val (.int (own_F1 B T (p3 &&& (65535 : Int32)))), .val (.int ((20 : Int32) * B)), .unset] [(.int ((20 : Int32) * B)), (.int (own_F1 B T (p3 &&& (65535 : Int32))))])) _
        refine XS.icmpNo X5.here hx rfl (hb hby at_133) rfl (teq k1).2 ?_
        show Steps p.tables e below (T5.setTop (mkF m 136 #[.val (.int p1), .val (.int p2), .val (.int p3), .val (.int p4), .val (.int p5), .val (.int (p3 &&& (65535 : Int32))), .val (.int (p4 &&& (65535 : Int32))), .val (.int B), .val (.int T), .val (.int (own_F1 B T (p3 &&& (65535 : Int32)))), .val (.int ((20 : Int32) * B)), .unset] [])) _
        refine XS.iconst X5.here hx rfl (hb hby at_136) ?_
        show Steps p.tables e below (T5.setTop (mkF m 137 #[.val (.int p1), .val (.int p2), .val (.int p3), .val (.int p4), .val (.int p5), .val (.int (p3 &&& (65535 : Int32))), .val (.int (p4 &&& (65535 : Int32))), .val (.int B), .val (.int T), .val (.int (own_F1 B T (p3 &&& (65535 : Int32)))), .val (.int ((20 : Int32) * B)), .unset] [(.int (1 : Int32))])) _
        refine XS.goto X5.here hx rfl (pc0 := 137) (pc' := 141) rfl (hb hby at_137) (by decide) (by decide) ?_
        show Steps p.tables e below (T5.setTop (mkF m 141 #[.val (.int p1), .val (.int p2), .val (.int p3), .val (.int p4), .val (.int p5), .val (.int (p3 &&& (65535 : Int32))), .val (.int (p4 &&& (65535 : Int32))), .val (.int B), .val (.int T), .val (.int (own_F1 B T (p3 &&& (65535 : Int32)))), .val (.int ((20 : Int32) * B)), .unset] [(.int (1 : Int32))])) _
        refine XS.istore X5.here hx rfl (hb hby at_141) rfl (l' := #[.val (.int p1), .val (.int p2), .val (.int p3), .val (.int p4), .val (.int p5), .val (.int (p3 &&& (65535 : Int32))), .val (.int (p4 &&& (65535 : Int32))), .val (.int B), .val (.int T), .val (.int (own_F1 B T (p3 &&& (65535 : Int32)))), .val (.int ((20 : Int32) * B)), .val (.int (1 : Int32))]) rfl ?_
        show Steps p.tables e below (T5.setTop (mkF m 143 #[.val (.int p1), .val (.int p2), .val (.int p3), .val (.int p4), .val (.int p5), .val (.int (p3 &&& (65535 : Int32))), .val (.int (p4 &&& (65535 : Int32))), .val (.int B), .val (.int T), .val (.int (own_F1 B T (p3 &&& (65535 : Int32)))), .val (.int ((20 : Int32) * B)), .val (.int (1 : Int32))] [])) _
        refine XS.iload X5.here hx rfl (hb hby at_143) rfl ?_
        show Steps p.tables e below (T5.setTop (mkF m 145 #[.val (.int p1), .val (.int p2), .val (.int p3), .val (.int p4), .val (.int p5), .val (.int (p3 &&& (65535 : Int32))), .val (.int (p4 &&& (65535 : Int32))), .val (.int B), .val (.int T), .val (.int (own_F1 B T (p3 &&& (65535 : Int32)))), .val (.int ((20 : Int32) * B)), .val (.int (1 : Int32))] [(.int B)])) _
        refine XS.ifNo X5.here hx rfl (hb hby at_145) rfl ((if0 _ _).trans (feq hb0).1) ?_
        show Steps p.tables e below (T5.setTop (mkF m 148 #[.val (.int p1), .val (.int p2), .val (.int p3), .val (.int p4), .val (.int p5), .val (.int (p3 &&& (65535 : Int32))), .val (.int (p4 &&& (65535 : Int32))), .val (.int B), .val (.int T), .val (.int (own_F1 B T (p3 &&& (65535 : Int32)))), .val (.int ((20 : Int32) * B)), .val (.int (1 : Int32))] [])) _
        refine XS.iload X5.here hx rfl (hb hby at_148) rfl ?_
        show Steps p.tables e below (T5.setTop (mkF m 150 #[.val (.int p1), .val (.int p2), .val (.int p3), .val (.int p4), .val (.int p5), .val (.int (p3 &&& (65535 : Int32))), .val (.int (p4 &&& (65535 : Int32))), .val (.int B), .val (.int T), .val (.int (own_F1 B T (p3 &&& (65535 : Int32)))), .val (.int ((20 : Int32) * B)), .val (.int (1 : Int32))] [(.int (1 : Int32))])) _
        refine XS.ifNo X5.here hx rfl (hb hby at_150) rfl ((if0 _ _).trans (feq (show ¬ ((1 : Int32) = (0 : Int32)) from by decide)).1) ?_
        show Steps p.tables e below (T5.setTop (mkF m 153 #[.val (.int p1), .val (.int p2), .val (.int p3), .val (.int p4), .val (.int p5), .val (.int (p3 &&& (65535 : Int32))), .val (.int (p4 &&& (65535 : Int32))), .val (.int B), .val (.int T), .val (.int (own_F1 B T (p3 &&& (65535 : Int32)))), .val (.int ((20 : Int32) * B)), .val (.int (1 : Int32))] [])) _
        refine XS.iload X5.here hx rfl (hb hby at_153) rfl ?_
        show Steps p.tables e below (T5.setTop (mkF m 155 #[.val (.int p1), .val (.int p2), .val (.int p3), .val (.int p4), .val (.int p5), .val (.int (p3 &&& (65535 : Int32))), .val (.int (p4 &&& (65535 : Int32))), .val (.int B), .val (.int T), .val (.int (own_F1 B T (p3 &&& (65535 : Int32)))), .val (.int ((20 : Int32) * B)), .val (.int (1 : Int32))] [(.int B)])) _
        refine XS.iload X5.here hx rfl (hb hby at_155) rfl ?_
        show Steps p.tables e below (T5.setTop (mkF m 157 #[.val (.int p1), .val (.int p2), .val (.int p3), .val (.int p4), .val (.int p5), .val (.int (p3 &&& (65535 : Int32))), .val (.int (p4 &&& (65535 : Int32))), .val (.int B), .val (.int T), .val (.int (own_F1 B T (p3 &&& (65535 : Int32)))), .val (.int ((20 : Int32) * B)), .val (.int (1 : Int32))] [(.int T), (.int B)])) _
        refine XS.iload X5.here hx rfl (hb hby at_157) rfl ?_
        show Steps p.tables e below (T5.setTop (mkF m 159 #[.val (.int p1), .val (.int p2), .val (.int p3), .val (.int p4), .val (.int p5), .val (.int (p3 &&& (65535 : Int32))), .val (.int (p4 &&& (65535 : Int32))), .val (.int B), .val (.int T), .val (.int (own_F1 B T (p3 &&& (65535 : Int32)))), .val (.int ((20 : Int32) * B)), .val (.int (1 : Int32))] [(.int (p4 &&& (65535 : Int32))), (.int T), (.int B)])) _
        refine st8 _ ?_
        show Steps p.tables e below (T8.setTop (mkF m 162 #[.val (.int p1), .val (.int p2), .val (.int p3), .val (.int p4), .val (.int p5), .val (.int (p3 &&& (65535 : Int32))), .val (.int (p4 &&& (65535 : Int32))), .val (.int B), .val (.int T), .val (.int (own_F1 B T (p3 &&& (65535 : Int32)))), .val (.int ((20 : Int32) * B)), .val (.int (1 : Int32))] [(.int (own_F1 B T (p4 &&& (65535 : Int32))))])) _
        refine XS.iload X8.here hx rfl (hb hby at_162) rfl ?_
        show Steps p.tables e below (T8.setTop (mkF m 164 #[.val (.int p1), .val (.int p2), .val (.int p3), .val (.int p4), .val (.int p5), .val (.int (p3 &&& (65535 : Int32))), .val (.int (p4 &&& (65535 : Int32))), .val (.int B), .val (.int T), .val (.int (own_F1 B T (p3 &&& (65535 : Int32)))), .val (.int ((20 : Int32) * B)), .val (.int (1 : Int32))] [(.int (own_F1 B T (p3 &&& (65535 : Int32)))), (.int (own_F1 B T (p4 &&& (65535 : Int32))))])) _
        refine XS.icmpNo X8.here hx rfl (hb hby at_164) rfl (teq k2).2 ?_
        show Steps p.tables e below (T8.setTop (mkF m 167 #[.val (.int p1), .val (.int p2), .val (.int p3), .val (.int p4), .val (.int p5), .val (.int (p3 &&& (65535 : Int32))), .val (.int (p4 &&& (65535 : Int32))), .val (.int B), .val (.int T), .val (.int (own_F1 B T (p3 &&& (65535 : Int32)))), .val (.int ((20 : Int32) * B)), .val (.int (1 : Int32))] [])) _
        refine XS.iconst X8.here hx rfl (hb hby at_167) ?_
        show Steps p.tables e below (T8.setTop (mkF m 168 #[.val (.int p1), .val (.int p2), .val (.int p3), .val (.int p4), .val (.int p5), .val (.int (p3 &&& (65535 : Int32))), .val (.int (p4 &&& (65535 : Int32))), .val (.int B), .val (.int T), .val (.int (own_F1 B T (p3 &&& (65535 : Int32)))), .val (.int ((20 : Int32) * B)), .val (.int (1 : Int32))] [(.int (1 : Int32))])) _
        refine XS.goto X8.here hx rfl (pc0 := 168) (pc' := 172) rfl (hb hby at_168) (by decide) (by decide) ?_
        show Steps p.tables e below (T8.setTop (mkF m 172 #[.val (.int p1), .val (.int p2), .val (.int p3), .val (.int p4), .val (.int p5), .val (.int (p3 &&& (65535 : Int32))), .val (.int (p4 &&& (65535 : Int32))), .val (.int B), .val (.int T), .val (.int (own_F1 B T (p3 &&& (65535 : Int32)))), .val (.int ((20 : Int32) * B)), .val (.int (1 : Int32))] [(.int (1 : Int32))])) _
        refine XS.istore X8.here hx rfl (hb hby at_172) rfl (l' := #[.val (.int p1), .val (.int p2), .val (.int p3), .val (.int p4), .val (.int p5), .val (.int (p3 &&& (65535 : Int32))), .val (.int (p4 &&& (65535 : Int32))), .val (.int B), .val (.int T), .val (.int (own_F1 B T (p3 &&& (65535 : Int32)))), .val (.int ((20 : Int32) * B)), .val (.int (1 : Int32))]) rfl ?_
        show Steps p.tables e below (T8.setTop (mkF m 174 #[.val (.int p1), .val (.int p2), .val (.int p3), .val (.int p4), .val (.int p5), .val (.int (p3 &&& (65535 : Int32))), .val (.int (p4 &&& (65535 : Int32))), .val (.int B), .val (.int T), .val (.int (own_F1 B T (p3 &&& (65535 : Int32)))), .val (.int ((20 : Int32) * B)), .val (.int (1 : Int32))] [])) _
        refine XS.iload X8.here hx rfl (hb hby at_174) rfl ?_
        show Steps p.tables e below (T8.setTop (mkF m 176 #[.val (.int p1), .val (.int p2), .val (.int p3), .val (.int p4), .val (.int p5), .val (.int (p3 &&& (65535 : Int32))), .val (.int (p4 &&& (65535 : Int32))), .val (.int B), .val (.int T), .val (.int (own_F1 B T (p3 &&& (65535 : Int32)))), .val (.int ((20 : Int32) * B)), .val (.int (1 : Int32))] [(.int (1 : Int32))])) _
        exact retN X8 hx (t := .boolean) Bd.returns (by simp) (hb hby at_176) hr
      · show Q0 Z p1 p2 p3 p4 p5 h0 n0 _ T8.heap _
        exact ⟨rfl, N8⟩
    · have k1 : (own_F1 B T (p3 &&& (65535 : Int32))) = ((-10 : Int32) * ((own_F3 T B) - (own_F4 T B))) := by unfold own_F1; rw [if_neg hb0, if_neg hbt, own_far hbB htT]
      have k2 : (own_F1 B T (p4 &&& (65535 : Int32))) = (own_F1 B T (p3 &&& (65535 : Int32))) := by unfold own_F1; rw [if_neg hb0, if_neg hb0, if_neg hbt]
      obtain ⟨_, _, ⟨T5, L5, k5, n5⟩, -, X5, ⟨Lc5, hQ5, l5, y5, z5⟩, st5⟩ := Jvm.LawKit.callS X0 hx (y := (⟨"tallybones/Scoring", "bidPoints", "(III)I"⟩ : MethodName)) hown (mvT hZ (hw _ (List.mem_of_getElem? (i := 1) rfl))) (mvT hZ (hw _ (List.mem_of_getElem? (i := 2) rfl))) (mvT hZ (hw _ (List.mem_of_getElem? (i := 3) rfl))) (mvT hZ (hw _ (List.mem_of_getElem? (i := 4) rfl))) (by decide) (backOf (W := 0) (rm1 l Z a0 hw [] B T (p3 &&& (65535 : Int32)) h0 n0 Z0) hZ (hw _ (List.mem_of_getElem? (i := 4) rfl)) (hw _ (List.mem_of_getElem? (i := 3) rfl)) (by decide) (by decide)) (g := (mkF m 53 #[.val (.int p1), .val (.int p2), .val (.int p3), .val (.int p4), .val (.int p5), .val (.int (p3 &&& (65535 : Int32))), .val (.int (p4 &&& (65535 : Int32))), .val (.int B), .val (.int T), .unset, .unset, .unset] [(.int (p3 &&& (65535 : Int32))), (.int T), (.int B)])) rfl (by rw [hml]; rfl) (argsL := [(.int B), (.int T), (.int (p3 &&& (65535 : Int32)))]) (rest := []) (lenOf pd_0_0 rfl) rfl (by show 2 * 0 + _ ≤ _; exact Nat.le_of_eq rfl) (hb hby at_53) (fun _ _ => ⟨rfl, e0, (by decide : 0 + 0 ≤ _), (by decide : 0 + 0 ≤ _)⟩)
      dsimp only [Pt.U, Pt.locs, Pt.cells, Pt.slots] at X5 l5 y5 z5 st5 hQ5
      subst l5 y5 z5
      obtain ⟨rfl, N5q, q5⟩ := hQ5
      have N5 := Fr.app N0 N5q
      obtain ⟨_, _, ⟨T6, L6, k6, n6⟩, -, X6, ⟨Lc6, hQ6, l6, y6, z6⟩, st6⟩ := Jvm.LawKit.callS X5 hx (y := (⟨"java/lang/Math", "max", "(II)I"⟩ : MethodName)) hown (mvT hZ (hw _ (List.mem_of_getElem? (i := 9) rfl))) (mvT hZ (hw _ (List.mem_of_getElem? (i := 10) rfl))) (mvT hZ (hw _ (List.mem_of_getElem? (i := 7) rfl))) (mvT hZ (hw _ (List.mem_of_getElem? (i := 11) rfl))) (by decide) (backOf (W := 0) (rm3 l Z a0 hw [] T B h0 n0 Z0) hZ (hw _ (List.mem_of_getElem? (i := 11) rfl)) (hw _ (List.mem_of_getElem? (i := 7) rfl)) (by decide) (by decide)) (g := (mkF m 109 #[.val (.int p1), .val (.int p2), .val (.int p3), .val (.int p4), .val (.int p5), .val (.int (p3 &&& (65535 : Int32))), .val (.int (p4 &&& (65535 : Int32))), .val (.int B), .val (.int T), .val (.int (own_F1 B T (p3 &&& (65535 : Int32)))), .unset, .unset] [(.int B), (.int T)])) rfl (by rw [hml]; rfl) (argsL := [(.int T), (.int B)]) (rest := []) (lenOf pd_0_1 rfl) rfl (by show 2 * 0 + _ ≤ _; exact Nat.le_of_eq rfl) (hb hby at_109) (fun _ _ => ⟨rfl, q5, (by decide : 0 + 0 ≤ _), (by decide : 0 + 0 ≤ _)⟩)
      dsimp only [Pt.U, Pt.locs, Pt.cells, Pt.slots] at X6 l6 y6 z6 st6 hQ6
      subst l6 y6 z6
      obtain ⟨rfl, N6q, q6⟩ := hQ6
      have N6 := Fr.app N5 N6q
      obtain ⟨_, _, ⟨T7, L7, k7, n7⟩, -, X7, ⟨Lc7, hQ7, l7, y7, z7⟩, st7⟩ := Jvm.LawKit.callS X6 hx (y := (⟨"java/lang/Math", "min", "(II)I"⟩ : MethodName)) hown (mvT hZ (hw _ (List.mem_of_getElem? (i := 12) rfl))) (mvT hZ (hw _ (List.mem_of_getElem? (i := 13) rfl))) (mvT hZ (hw _ (List.mem_of_getElem? (i := 7) rfl))) (mvT hZ (hw _ (List.mem_of_getElem? (i := 14) rfl))) (by decide) (backOf (W := 1) (rm4 l Z a0 hw [] T B h0 n0 Z0) hZ (hw _ (List.mem_of_getElem? (i := 14) rfl)) (hw _ (List.mem_of_getElem? (i := 7) rfl)) (by decide) (by decide)) (g := (mkF m 116 #[.val (.int p1), .val (.int p2), .val (.int p3), .val (.int p4), .val (.int p5), .val (.int (p3 &&& (65535 : Int32))), .val (.int (p4 &&& (65535 : Int32))), .val (.int B), .val (.int T), .val (.int (own_F1 B T (p3 &&& (65535 : Int32)))), .unset, .unset] [(.int B), (.int T), (.int (own_F3 T B))])) rfl (by rw [hml]; rfl) (argsL := [(.int T), (.int B)]) (rest := [(.int (own_F3 T B))]) (lenOf pd_0_1 rfl) rfl (by show 2 * 0 + _ ≤ _; exact Nat.le_of_eq rfl) (hb hby at_116) (fun _ _ => ⟨rfl, q6, (by decide : 0 + 0 ≤ _), (by decide : 0 + 0 ≤ _)⟩)
      dsimp only [Pt.U, Pt.locs, Pt.cells, Pt.slots] at X7 l7 y7 z7 st7 hQ7
      subst l7 y7 z7
      obtain ⟨rfl, N7q, q7⟩ := hQ7
      have N7 := Fr.app N6 N7q
      obtain ⟨_, _, ⟨T8, L8, k8, n8⟩, -, X8, ⟨Lc8, hQ8, l8, y8, z8⟩, st8⟩ := Jvm.LawKit.callS X7 hx (y := (⟨"tallybones/Scoring", "bidPoints", "(III)I"⟩ : MethodName)) hown (mvT hZ (hw _ (List.mem_of_getElem? (i := 1) rfl))) (mvT hZ (hw _ (List.mem_of_getElem? (i := 2) rfl))) (mvT hZ (hw _ (List.mem_of_getElem? (i := 3) rfl))) (mvT hZ (hw _ (List.mem_of_getElem? (i := 4) rfl))) (by decide) (backOf (W := 0) (rm1 l Z a0 hw [] B T (p4 &&& (65535 : Int32)) h0 n0 Z0) hZ (hw _ (List.mem_of_getElem? (i := 4) rfl)) (hw _ (List.mem_of_getElem? (i := 3) rfl)) (by decide) (by decide)) (g := (mkF m 159 #[.val (.int p1), .val (.int p2), .val (.int p3), .val (.int p4), .val (.int p5), .val (.int (p3 &&& (65535 : Int32))), .val (.int (p4 &&& (65535 : Int32))), .val (.int B), .val (.int T), .val (.int (own_F1 B T (p3 &&& (65535 : Int32)))), .val (.int ((-10 : Int32) * ((own_F3 T B) - (own_F4 T B)))), .val (.int (1 : Int32))] [(.int (p4 &&& (65535 : Int32))), (.int T), (.int B)])) rfl (by rw [hml]; rfl) (argsL := [(.int B), (.int T), (.int (p4 &&& (65535 : Int32)))]) (rest := []) (lenOf pd_0_0 rfl) rfl (by show 2 * 0 + _ ≤ _; exact Nat.le_of_eq rfl) (hb hby at_159) (fun _ _ => ⟨rfl, q7, (by decide : 0 + 0 ≤ _), (by decide : 0 + 0 ≤ _)⟩)
      dsimp only [Pt.U, Pt.locs, Pt.cells, Pt.slots] at X8 l8 y8 z8 st8 hQ8
      subst l8 y8 z8
      obtain ⟨rfl, N8q, q8⟩ := hQ8
      have N8 := Fr.app N7 N8q
      obtain ⟨fs, hr, hrun, hended, hW, hsame⟩ := X8.leave (v := some (.int (1 : Int32))) (fun h => by rw [Bd.returns] at h; cases h)
      refine ⟨_, _, pre0 _ ?_, hrun, hended, _, _, rfl, ?_, ⟨_, rfl⟩, hW, hsame.mono (by decide) (by decide)⟩
      · refine sg _ ?_
        show Steps p.tables e below (s₁.setTop (mkF m 47 #[.val (.int p1), .val (.int p2), .val (.int p3), .val (.int p4), .val (.int p5), .val (.int (p3 &&& (65535 : Int32))), .val (.int (p4 &&& (65535 : Int32))), .val (.int B), .val (.int T), .unset, .unset, .unset] [])) _
        refine XS.iload X0.here hx rfl (hb hby at_47) rfl ?_
        show Steps p.tables e below (s₁.setTop (mkF m 49 #[.val (.int p1), .val (.int p2), .val (.int p3), .val (.int p4), .val (.int p5), .val (.int (p3 &&& (65535 : Int32))), .val (.int (p4 &&& (65535 : Int32))), .val (.int B), .val (.int T), .unset, .unset, .unset] [(.int B)])) _
        refine XS.iload X0.here hx rfl (hb hby at_49) rfl ?_
        show Steps p.tables e below (s₁.setTop (mkF m 51 #[.val (.int p1), .val (.int p2), .val (.int p3), .val (.int p4), .val (.int p5), .val (.int (p3 &&& (65535 : Int32))), .val (.int (p4 &&& (65535 : Int32))), .val (.int B), .val (.int T), .unset, .unset, .unset] [(.int T), (.int B)])) _
        refine XS.iload X0.here hx rfl (hb hby at_51) rfl ?_
        show Steps p.tables e below (s₁.setTop (mkF m 53 #[.val (.int p1), .val (.int p2), .val (.int p3), .val (.int p4), .val (.int p5), .val (.int (p3 &&& (65535 : Int32))), .val (.int (p4 &&& (65535 : Int32))), .val (.int B), .val (.int T), .unset, .unset, .unset] [(.int (p3 &&& (65535 : Int32))), (.int T), (.int B)])) _
        refine st5 _ ?_
        show Steps p.tables e below (T5.setTop (mkF m 56 #[.val (.int p1), .val (.int p2), .val (.int p3), .val (.int p4), .val (.int p5), .val (.int (p3 &&& (65535 : Int32))), .val (.int (p4 &&& (65535 : Int32))), .val (.int B), .val (.int T), .unset, .unset, .unset] [(.int (own_F1 B T (p3 &&& (65535 : Int32))))])) _
        refine XS.istore X5.here hx rfl (hb hby at_56) rfl (l' := #[.val (.int p1), .val (.int p2), .val (.int p3), .val (.int p4), .val (.int p5), .val (.int (p3 &&& (65535 : Int32))), .val (.int (p4 &&& (65535 : Int32))), .val (.int B), .val (.int T), .val (.int (own_F1 B T (p3 &&& (65535 : Int32)))), .unset, .unset]) rfl ?_
        show Steps p.tables e below (T5.setTop (mkF m 58 #[.val (.int p1), .val (.int p2), .val (.int p3), .val (.int p4), .val (.int p5), .val (.int (p3 &&& (65535 : Int32))), .val (.int (p4 &&& (65535 : Int32))), .val (.int B), .val (.int T), .val (.int (own_F1 B T (p3 &&& (65535 : Int32)))), .unset, .unset] [])) _
        refine XS.iload X5.here hx rfl (hb hby at_58) rfl ?_
        show Steps p.tables e below (T5.setTop (mkF m 60 #[.val (.int p1), .val (.int p2), .val (.int p3), .val (.int p4), .val (.int p5), .val (.int (p3 &&& (65535 : Int32))), .val (.int (p4 &&& (65535 : Int32))), .val (.int B), .val (.int T), .val (.int (own_F1 B T (p3 &&& (65535 : Int32)))), .unset, .unset] [(.int B)])) _
        refine XS.ifYes X5.here hx rfl (pc0 := 60) (pc' := 88) rfl (hb hby at_60) rfl ((if0 _ _).trans (feq hb0).2) (by decide) (by decide) ?_
        show Steps p.tables e below (T5.setTop (mkF m 88 #[.val (.int p1), .val (.int p2), .val (.int p3), .val (.int p4), .val (.int p5), .val (.int (p3 &&& (65535 : Int32))), .val (.int (p4 &&& (65535 : Int32))), .val (.int B), .val (.int T), .val (.int (own_F1 B T (p3 &&& (65535 : Int32)))), .unset, .unset] [])) _
        refine XS.iload X5.here hx rfl (hb hby at_88) rfl ?_
        show Steps p.tables e below (T5.setTop (mkF m 90 #[.val (.int p1), .val (.int p2), .val (.int p3), .val (.int p4), .val (.int p5), .val (.int (p3 &&& (65535 : Int32))), .val (.int (p4 &&& (65535 : Int32))), .val (.int B), .val (.int T), .val (.int (own_F1 B T (p3 &&& (65535 : Int32)))), .unset, .unset] [(.int T)])) _
        refine XS.iload X5.here hx rfl (hb hby at_90) rfl ?_
        show Steps p.tables e below (T5.setTop (mkF m 92 #[.val (.int p1), .val (.int p2), .val (.int p3), .val (.int p4), .val (.int p5), .val (.int (p3 &&& (65535 : Int32))), .val (.int (p4 &&& (65535 : Int32))), .val (.int B), .val (.int T), .val (.int (own_F1 B T (p3 &&& (65535 : Int32)))), .unset, .unset] [(.int B), (.int T)])) _
        refine XS.icmpYes X5.here hx rfl (pc0 := 92) (pc' := 105) rfl (hb hby at_92) rfl (feq hbt).2 (by decide) (by decide) ?_
        show Steps p.tables e below (T5.setTop (mkF m 105 #[.val (.int p1), .val (.int p2), .val (.int p3), .val (.int p4), .val (.int p5), .val (.int (p3 &&& (65535 : Int32))), .val (.int (p4 &&& (65535 : Int32))), .val (.int B), .val (.int T), .val (.int (own_F1 B T (p3 &&& (65535 : Int32)))), .unset, .unset] [])) _
        refine XS.iload X5.here hx rfl (hb hby at_105) rfl ?_
        show Steps p.tables e below (T5.setTop (mkF m 107 #[.val (.int p1), .val (.int p2), .val (.int p3), .val (.int p4), .val (.int p5), .val (.int (p3 &&& (65535 : Int32))), .val (.int (p4 &&& (65535 : Int32))), .val (.int B), .val (.int T), .val (.int (own_F1 B T (p3 &&& (65535 : Int32)))), .unset, .unset] [(.int T)])) _
        refine XS.iload X5.here hx rfl (hb hby at_107) rfl ?_
        show Steps p.tables e below (T5.setTop (mkF m 109 #[.val (.int p1), .val (.int p2), .val (.int p3), .val (.int p4), .val (.int p5), .val (.int (p3 &&& (65535 : Int32))), .val (.int (p4 &&& (65535 : Int32))), .val (.int B), .val (.int T), .val (.int (own_F1 B T (p3 &&& (65535 : Int32)))), .unset, .unset] [(.int B), (.int T)])) _
        refine st6 _ ?_
        show Steps p.tables e below (T6.setTop (mkF m 112 #[.val (.int p1), .val (.int p2), .val (.int p3), .val (.int p4), .val (.int p5), .val (.int (p3 &&& (65535 : Int32))), .val (.int (p4 &&& (65535 : Int32))), .val (.int B), .val (.int T), .val (.int (own_F1 B T (p3 &&& (65535 : Int32)))), .unset, .unset] [(.int (own_F3 T B))])) _
        refine XS.iload X6.here hx rfl (hb hby at_112) rfl ?_
        show Steps p.tables e below (T6.setTop (mkF m 114 #[.val (.int p1), .val (.int p2), .val (.int p3), .val (.int p4), .val (.int p5), .val (.int (p3 &&& (65535 : Int32))), .val (.int (p4 &&& (65535 : Int32))), .val (.int B), .val (.int T), .val (.int (own_F1 B T (p3 &&& (65535 : Int32)))), .unset, .unset] [(.int T), (.int (own_F3 T B))])) _
        refine XS.iload X6.here hx rfl (hb hby at_114) rfl ?_
        show Steps p.tables e below (T6.setTop (mkF m 116 #[.val (.int p1), .val (.int p2), .val (.int p3), .val (.int p4), .val (.int p5), .val (.int (p3 &&& (65535 : Int32))), .val (.int (p4 &&& (65535 : Int32))), .val (.int B), .val (.int T), .val (.int (own_F1 B T (p3 &&& (65535 : Int32)))), .unset, .unset] [(.int B), (.int T), (.int (own_F3 T B))])) _
        refine st7 _ ?_
        show Steps p.tables e below (T7.setTop (mkF m 119 #[.val (.int p1), .val (.int p2), .val (.int p3), .val (.int p4), .val (.int p5), .val (.int (p3 &&& (65535 : Int32))), .val (.int (p4 &&& (65535 : Int32))), .val (.int B), .val (.int T), .val (.int (own_F1 B T (p3 &&& (65535 : Int32)))), .unset, .unset] [(.int (own_F4 T B)), (.int (own_F3 T B))])) _
        refine XS.isub X7.here hx rfl (hb hby at_119) rfl ?_
        show Steps p.tables e below (T7.setTop (mkF m 120 #[.val (.int p1), .val (.int p2), .val (.int p3), .val (.int p4), .val (.int p5), .val (.int (p3 &&& (65535 : Int32))), .val (.int (p4 &&& (65535 : Int32))), .val (.int B), .val (.int T), .val (.int (own_F1 B T (p3 &&& (65535 : Int32)))), .unset, .unset] [(.int ((own_F3 T B) - (own_F4 T B)))])) _
        refine XS.istore X7.here hx rfl (hb hby at_120) rfl (l' := #[.val (.int p1), .val (.int p2), .val (.int p3), .val (.int p4), .val (.int p5), .val (.int (p3 &&& (65535 : Int32))), .val (.int (p4 &&& (65535 : Int32))), .val (.int B), .val (.int T), .val (.int (own_F1 B T (p3 &&& (65535 : Int32)))), .unset, .val (.int ((own_F3 T B) - (own_F4 T B)))]) rfl ?_
        show Steps p.tables e below (T7.setTop (mkF m 122 #[.val (.int p1), .val (.int p2), .val (.int p3), .val (.int p4), .val (.int p5), .val (.int (p3 &&& (65535 : Int32))), .val (.int (p4 &&& (65535 : Int32))), .val (.int B), .val (.int T), .val (.int (own_F1 B T (p3 &&& (65535 : Int32)))), .unset, .val (.int ((own_F3 T B) - (own_F4 T B)))] [])) _
        refine XS.bipush X7.here hx rfl (hb hby at_122) ?_
        show Steps p.tables e below (T7.setTop (mkF m 124 #[.val (.int p1), .val (.int p2), .val (.int p3), .val (.int p4), .val (.int p5), .val (.int (p3 &&& (65535 : Int32))), .val (.int (p4 &&& (65535 : Int32))), .val (.int B), .val (.int T), .val (.int (own_F1 B T (p3 &&& (65535 : Int32)))), .unset, .val (.int ((own_F3 T B) - (own_F4 T B)))] [(.int (-10 : Int32))])) _
        refine XS.iload X7.here hx rfl (hb hby at_124) rfl ?_
        show Steps p.tables e below (T7.setTop (mkF m 126 #[.val (.int p1), .val (.int p2), .val (.int p3), .val (.int p4), .val (.int p5), .val (.int (p3 &&& (65535 : Int32))), .val (.int (p4 &&& (65535 : Int32))), .val (.int B), .val (.int T), .val (.int (own_F1 B T (p3 &&& (65535 : Int32)))), .unset, .val (.int ((own_F3 T B) - (own_F4 T B)))] [(.int ((own_F3 T B) - (own_F4 T B))), (.int (-10 : Int32))])) _
        refine XS.imul X7.here hx rfl (hb hby at_126) rfl ?_
        show Steps p.tables e below (T7.setTop (mkF m 127 #[.val (.int p1), .val (.int p2), .val (.int p3), .val (.int p4), .val (.int p5), .val (.int (p3 &&& (65535 : Int32))), .val (.int (p4 &&& (65535 : Int32))), .val (.int B), .val (.int T), .val (.int (own_F1 B T (p3 &&& (65535 : Int32)))), .unset, .val (.int ((own_F3 T B) - (own_F4 T B)))] [(.int ((-10 : Int32) * ((own_F3 T B) - (own_F4 T B))))])) _
        refine XS.istore X7.here hx rfl (hb hby at_127) rfl (l' := #[.val (.int p1), .val (.int p2), .val (.int p3), .val (.int p4), .val (.int p5), .val (.int (p3 &&& (65535 : Int32))), .val (.int (p4 &&& (65535 : Int32))), .val (.int B), .val (.int T), .val (.int (own_F1 B T (p3 &&& (65535 : Int32)))), .val (.int ((-10 : Int32) * ((own_F3 T B) - (own_F4 T B)))), .val (.int ((own_F3 T B) - (own_F4 T B)))]) rfl ?_
        show Steps p.tables e below (T7.setTop (mkF m 129 #[.val (.int p1), .val (.int p2), .val (.int p3), .val (.int p4), .val (.int p5), .val (.int (p3 &&& (65535 : Int32))), .val (.int (p4 &&& (65535 : Int32))), .val (.int B), .val (.int T), .val (.int (own_F1 B T (p3 &&& (65535 : Int32)))), .val (.int ((-10 : Int32) * ((own_F3 T B) - (own_F4 T B)))), .val (.int ((own_F3 T B) - (own_F4 T B)))] [])) _
        refine XS.iload X7.here hx rfl (hb hby at_129) rfl ?_
        show Steps p.tables e below (T7.setTop (mkF m 131 #[.val (.int p1), .val (.int p2), .val (.int p3), .val (.int p4), .val (.int p5), .val (.int (p3 &&& (65535 : Int32))), .val (.int (p4 &&& (65535 : Int32))), .val (.int B), .val (.int T), .val (.int (own_F1 B T (p3 &&& (65535 : Int32)))), .val (.int ((-10 : Int32) * ((own_F3 T B) - (own_F4 T B)))), .val (.int ((own_F3 T B) - (own_F4 T B)))] [(.int (own_F1 B T (p3 &&& (65535 : Int32))))])) _
        refine XS.iload X7.here hx rfl (hb hby at_131) rfl ?_
        show Steps p.tables e below (T7.setTop (mkF m 133 #[.val (.int p1), .val (.int p2), .val (.int p3), .val (.int p4), .val (.int p5), .val (.int (p3 &&& (65535 : Int32))), .val (.int (p4 &&& (65535 : Int32))), .val (.int B), .val (.int T), .val (.int (own_F1 B T (p3 &&& (65535 : Int32)))), .val (.int ((-10 : Int32) * ((own_F3 T B) - (own_F4 T B)))), .val (.int ((own_F3 T B) - (own_F4 T B)))] [(.int ((-10 : Int32) * ((own_F3 T B) - (own_F4 T B)))), (.int (own_F1 B T (p3 &&& (65535 : Int32))))])) _
        refine XS.icmpNo X7.here hx rfl (hb hby at_133) rfl (teq k1).2 ?_
        show Steps p.tables e below (T7.setTop (mkF m 136 #[.val (.int p1), .val (.int p2), .val (.int p3), .val (.int p4), .val (.int p5), .val (.int (p3 &&& (65535 : Int32))), .val (.int (p4 &&& (65535 : Int32))), .val (.int B), .val (.int T), .val (.int (own_F1 B T (p3 &&& (65535 : Int32)))), .val (.int ((-10 : Int32) * ((own_F3 T B) - (own_F4 T B)))), .val (.int ((own_F3 T B) - (own_F4 T B)))] [])) _
        refine XS.iconst X7.here hx rfl (hb hby at_136) ?_
        show Steps p.tables e below (T7.setTop (mkF m 137 #[.val (.int p1), .val (.int p2), .val (.int p3), .val (.int p4), .val (.int p5), .val (.int (p3 &&& (65535 : Int32))), .val (.int (p4 &&& (65535 : Int32))), .val (.int B), .val (.int T), .val (.int (own_F1 B T (p3 &&& (65535 : Int32)))), .val (.int ((-10 : Int32) * ((own_F3 T B) - (own_F4 T B)))), .val (.int ((own_F3 T B) - (own_F4 T B)))] [(.int (1 : Int32))])) _
        refine XS.goto X7.here hx rfl (pc0 := 137) (pc' := 141) rfl (hb hby at_137) (by decide) (by decide) ?_
        show Steps p.tables e below (T7.setTop (mkF m 141 #[.val (.int p1), .val (.int p2), .val (.int p3), .val (.int p4), .val (.int p5), .val (.int (p3 &&& (65535 : Int32))), .val (.int (p4 &&& (65535 : Int32))), .val (.int B), .val (.int T), .val (.int (own_F1 B T (p3 &&& (65535 : Int32)))), .val (.int ((-10 : Int32) * ((own_F3 T B) - (own_F4 T B)))), .val (.int ((own_F3 T B) - (own_F4 T B)))] [(.int (1 : Int32))])) _
        refine XS.istore X7.here hx rfl (hb hby at_141) rfl (l' := #[.val (.int p1), .val (.int p2), .val (.int p3), .val (.int p4), .val (.int p5), .val (.int (p3 &&& (65535 : Int32))), .val (.int (p4 &&& (65535 : Int32))), .val (.int B), .val (.int T), .val (.int (own_F1 B T (p3 &&& (65535 : Int32)))), .val (.int ((-10 : Int32) * ((own_F3 T B) - (own_F4 T B)))), .val (.int (1 : Int32))]) rfl ?_
        show Steps p.tables e below (T7.setTop (mkF m 143 #[.val (.int p1), .val (.int p2), .val (.int p3), .val (.int p4), .val (.int p5), .val (.int (p3 &&& (65535 : Int32))), .val (.int (p4 &&& (65535 : Int32))), .val (.int B), .val (.int T), .val (.int (own_F1 B T (p3 &&& (65535 : Int32)))), .val (.int ((-10 : Int32) * ((own_F3 T B) - (own_F4 T B)))), .val (.int (1 : Int32))] [])) _
        refine XS.iload X7.here hx rfl (hb hby at_143) rfl ?_
        show Steps p.tables e below (T7.setTop (mkF m 145 #[.val (.int p1), .val (.int p2), .val (.int p3), .val (.int p4), .val (.int p5), .val (.int (p3 &&& (65535 : Int32))), .val (.int (p4 &&& (65535 : Int32))), .val (.int B), .val (.int T), .val (.int (own_F1 B T (p3 &&& (65535 : Int32)))), .val (.int ((-10 : Int32) * ((own_F3 T B) - (own_F4 T B)))), .val (.int (1 : Int32))] [(.int B)])) _
        refine XS.ifNo X7.here hx rfl (hb hby at_145) rfl ((if0 _ _).trans (feq hb0).1) ?_
        show Steps p.tables e below (T7.setTop (mkF m 148 #[.val (.int p1), .val (.int p2), .val (.int p3), .val (.int p4), .val (.int p5), .val (.int (p3 &&& (65535 : Int32))), .val (.int (p4 &&& (65535 : Int32))), .val (.int B), .val (.int T), .val (.int (own_F1 B T (p3 &&& (65535 : Int32)))), .val (.int ((-10 : Int32) * ((own_F3 T B) - (own_F4 T B)))), .val (.int (1 : Int32))] [])) _
        refine XS.iload X7.here hx rfl (hb hby at_148) rfl ?_
        show Steps p.tables e below (T7.setTop (mkF m 150 #[.val (.int p1), .val (.int p2), .val (.int p3), .val (.int p4), .val (.int p5), .val (.int (p3 &&& (65535 : Int32))), .val (.int (p4 &&& (65535 : Int32))), .val (.int B), .val (.int T), .val (.int (own_F1 B T (p3 &&& (65535 : Int32)))), .val (.int ((-10 : Int32) * ((own_F3 T B) - (own_F4 T B)))), .val (.int (1 : Int32))] [(.int (1 : Int32))])) _
        refine XS.ifNo X7.here hx rfl (hb hby at_150) rfl ((if0 _ _).trans (feq (show ¬ ((1 : Int32) = (0 : Int32)) from by decide)).1) ?_
        show Steps p.tables e below (T7.setTop (mkF m 153 #[.val (.int p1), .val (.int p2), .val (.int p3), .val (.int p4), .val (.int p5), .val (.int (p3 &&& (65535 : Int32))), .val (.int (p4 &&& (65535 : Int32))), .val (.int B), .val (.int T), .val (.int (own_F1 B T (p3 &&& (65535 : Int32)))), .val (.int ((-10 : Int32) * ((own_F3 T B) - (own_F4 T B)))), .val (.int (1 : Int32))] [])) _
        refine XS.iload X7.here hx rfl (hb hby at_153) rfl ?_
        show Steps p.tables e below (T7.setTop (mkF m 155 #[.val (.int p1), .val (.int p2), .val (.int p3), .val (.int p4), .val (.int p5), .val (.int (p3 &&& (65535 : Int32))), .val (.int (p4 &&& (65535 : Int32))), .val (.int B), .val (.int T), .val (.int (own_F1 B T (p3 &&& (65535 : Int32)))), .val (.int ((-10 : Int32) * ((own_F3 T B) - (own_F4 T B)))), .val (.int (1 : Int32))] [(.int B)])) _
        refine XS.iload X7.here hx rfl (hb hby at_155) rfl ?_
        show Steps p.tables e below (T7.setTop (mkF m 157 #[.val (.int p1), .val (.int p2), .val (.int p3), .val (.int p4), .val (.int p5), .val (.int (p3 &&& (65535 : Int32))), .val (.int (p4 &&& (65535 : Int32))), .val (.int B), .val (.int T), .val (.int (own_F1 B T (p3 &&& (65535 : Int32)))), .val (.int ((-10 : Int32) * ((own_F3 T B) - (own_F4 T B)))), .val (.int (1 : Int32))] [(.int T), (.int B)])) _
        refine XS.iload X7.here hx rfl (hb hby at_157) rfl ?_
        show Steps p.tables e below (T7.setTop (mkF m 159 #[.val (.int p1), .val (.int p2), .val (.int p3), .val (.int p4), .val (.int p5), .val (.int (p3 &&& (65535 : Int32))), .val (.int (p4 &&& (65535 : Int32))), .val (.int B), .val (.int T), .val (.int (own_F1 B T (p3 &&& (65535 : Int32)))), .val (.int ((-10 : Int32) * ((own_F3 T B) - (own_F4 T B)))), .val (.int (1 : Int32))] [(.int (p4 &&& (65535 : Int32))), (.int T), (.int B)])) _
        refine st8 _ ?_
        show Steps p.tables e below (T8.setTop (mkF m 162 #[.val (.int p1), .val (.int p2), .val (.int p3), .val (.int p4), .val (.int p5), .val (.int (p3 &&& (65535 : Int32))), .val (.int (p4 &&& (65535 : Int32))), .val (.int B), .val (.int T), .val (.int (own_F1 B T (p3 &&& (65535 : Int32)))), .val (.int ((-10 : Int32) * ((own_F3 T B) - (own_F4 T B)))), .val (.int (1 : Int32))] [(.int (own_F1 B T (p4 &&& (65535 : Int32))))])) _
        refine XS.iload X8.here hx rfl (hb hby at_162) rfl ?_
        show Steps p.tables e below (T8.setTop (mkF m 164 #[.val (.int p1), .val (.int p2), .val (.int p3), .val (.int p4), .val (.int p5), .val (.int (p3 &&& (65535 : Int32))), .val (.int (p4 &&& (65535 : Int32))), .val (.int B), .val (.int T), .val (.int (own_F1 B T (p3 &&& (65535 : Int32)))), .val (.int ((-10 : Int32) * ((own_F3 T B) - (own_F4 T B)))), .val (.int (1 : Int32))] [(.int (own_F1 B T (p3 &&& (65535 : Int32)))), (.int (own_F1 B T (p4 &&& (65535 : Int32))))])) _
        refine XS.icmpNo X8.here hx rfl (hb hby at_164) rfl (teq k2).2 ?_
        show Steps p.tables e below (T8.setTop (mkF m 167 #[.val (.int p1), .val (.int p2), .val (.int p3), .val (.int p4), .val (.int p5), .val (.int (p3 &&& (65535 : Int32))), .val (.int (p4 &&& (65535 : Int32))), .val (.int B), .val (.int T), .val (.int (own_F1 B T (p3 &&& (65535 : Int32)))), .val (.int ((-10 : Int32) * ((own_F3 T B) - (own_F4 T B)))), .val (.int (1 : Int32))] [])) _
        refine XS.iconst X8.here hx rfl (hb hby at_167) ?_
        show Steps p.tables e below (T8.setTop (mkF m 168 #[.val (.int p1), .val (.int p2), .val (.int p3), .val (.int p4), .val (.int p5), .val (.int (p3 &&& (65535 : Int32))), .val (.int (p4 &&& (65535 : Int32))), .val (.int B), .val (.int T), .val (.int (own_F1 B T (p3 &&& (65535 : Int32)))), .val (.int ((-10 : Int32) * ((own_F3 T B) - (own_F4 T B)))), .val (.int (1 : Int32))] [(.int (1 : Int32))])) _
        refine XS.goto X8.here hx rfl (pc0 := 168) (pc' := 172) rfl (hb hby at_168) (by decide) (by decide) ?_
        show Steps p.tables e below (T8.setTop (mkF m 172 #[.val (.int p1), .val (.int p2), .val (.int p3), .val (.int p4), .val (.int p5), .val (.int (p3 &&& (65535 : Int32))), .val (.int (p4 &&& (65535 : Int32))), .val (.int B), .val (.int T), .val (.int (own_F1 B T (p3 &&& (65535 : Int32)))), .val (.int ((-10 : Int32) * ((own_F3 T B) - (own_F4 T B)))), .val (.int (1 : Int32))] [(.int (1 : Int32))])) _
        refine XS.istore X8.here hx rfl (hb hby at_172) rfl (l' := #[.val (.int p1), .val (.int p2), .val (.int p3), .val (.int p4), .val (.int p5), .val (.int (p3 &&& (65535 : Int32))), .val (.int (p4 &&& (65535 : Int32))), .val (.int B), .val (.int T), .val (.int (own_F1 B T (p3 &&& (65535 : Int32)))), .val (.int ((-10 : Int32) * ((own_F3 T B) - (own_F4 T B)))), .val (.int (1 : Int32))]) rfl ?_
        show Steps p.tables e below (T8.setTop (mkF m 174 #[.val (.int p1), .val (.int p2), .val (.int p3), .val (.int p4), .val (.int p5), .val (.int (p3 &&& (65535 : Int32))), .val (.int (p4 &&& (65535 : Int32))), .val (.int B), .val (.int T), .val (.int (own_F1 B T (p3 &&& (65535 : Int32)))), .val (.int ((-10 : Int32) * ((own_F3 T B) - (own_F4 T B)))), .val (.int (1 : Int32))] [])) _
        refine XS.iload X8.here hx rfl (hb hby at_174) rfl ?_
        show Steps p.tables e below (T8.setTop (mkF m 176 #[.val (.int p1), .val (.int p2), .val (.int p3), .val (.int p4), .val (.int p5), .val (.int (p3 &&& (65535 : Int32))), .val (.int (p4 &&& (65535 : Int32))), .val (.int B), .val (.int T), .val (.int (own_F1 B T (p3 &&& (65535 : Int32)))), .val (.int ((-10 : Int32) * ((own_F3 T B) - (own_F4 T B)))), .val (.int (1 : Int32))] [(.int (1 : Int32))])) _
        exact retN X8 hx (t := .boolean) Bd.returns (by simp) (hb hby at_176) hr
      · show Q0 Z p1 p2 p3 p4 p5 h0 n0 _ T8.heap _
        exact ⟨rfl, N8⟩
set_option maxRecDepth 65536 in
set_option maxHeartbeats 40000000 in
theorem comes_1 {Post : Tables → Env → Array Value → State → Outcome → State → Prop} (hpost : ∀ tb e args s v u, (limb_1_1.after args s (.returned v) u = true ∧ limb_1_2.after args s (.returned v) u = true ∧ True) → FrameEnd s (.returned v) u (Jvm.fieldLocs frame_1_writes args s ++ Jvm.arrayLocs frame_1_arrays args s ++ Jvm.staticLocs frame_1_statics s) 0 0 → Post tb e args s (.returned v) u) :
    ArmFor flags0 classFile x code maxLocals ret World_1 tables_1 room_1 Calls_1 rest_1 Pre_1 Post := by
  intro l hfl _ _ p e ha hc hk s m args below hf hA hF happ hP
  obtain ⟨hcalls, hrest, hpre⟩ := hP
  obtain ⟨-, -, -, hnamed, -, -, -, hat⟩ := (Spec.applies_iff hf).mp happ
  obtain ⟨hg, hn⟩ := and_e (Cond.before_iff.mp (show (Jvm.Cond.and given_1 narrow_1).before args s = true from hpre))
  obtain ⟨gc, r0⟩ := and_e hg
  obtain ⟨k0, r1⟩ := and_e r0
  obtain ⟨k1, r2⟩ := and_e r1
  obtain ⟨k2, r3⟩ := and_e r2
  obtain ⟨k3, r4⟩ := and_e r3
  obtain ⟨w0, w1, w2, w3, w4, rfl⟩ : ∃ w0 w1 w2 w3 w4 : Value, args = #[w0, w1, w2, w3, w4] := by
    have hs : args.size = 5 := by simpa [Cond.value, given_1] using gc
    obtain ⟨L⟩ := args
    match L, hs with
    | [w0, w1, w2, w3, w4], _ => exact ⟨w0, w1, w2, w3, w4, rfl⟩
  have hw := fun d (hd : d ∈ tables_1) => atoms_spec (ws := Jvm.Cond.code x code maxLocals ret :: tables_1) hat d (List.mem_cons_of_mem _ hd)
  obtain ⟨i0, ei0⟩ := is_v k0
  obtain rfl : w0 = (.int i0) := Option.some.inj ei0
  obtain ⟨i1, ei1⟩ := is_v k1
  obtain rfl : w1 = (.int i1) := Option.some.inj ei1
  obtain ⟨i2, ei2⟩ := is_v k2
  obtain rfl : w2 = (.int i2) := Option.some.inj ei2
  obtain ⟨i3, ei3⟩ := is_v k3
  obtain rfl : w3 = (.int i3) := Option.some.inj ei3
  obtain ⟨i4, ei4⟩ := is_v r4
  obtain rfl : w4 = (.int i4) := Option.some.inj ei4
  obtain ⟨n, o, h1, h2, h3, _, L, rfl, ⟨rfl, N⟩, hq⟩ := rm0 l s _ hw tables_1 i0 i1 i2 i3 i4 s.heap s.heap.size (Nat.le_refl _) p e ha hc hk s m _ below hf ((Spec.applies_iff_loose hf).mp happ).1 ⟨rfl, State.Warmed39.refl s, rfl⟩ trivial
  refine ⟨n, _, h1, h2, h3, hpost _ _ _ _ _ _ ⟨Cond.after_iff.mpr rfl, Cond.after_iff.mpr (eq_i res_at (Term.int_eval (1)) rfl), trivial⟩ ⟨hq.1, hq.2.1, (hq.2.2.sift fun y hy => Or.inr (N y hy)).mono (by decide) (by decide)⟩⟩
theorem main_1_1 : Claimed_1_1 := comes_1 fun _ _ _ _ _ _ h hF => ⟨h.1, hF⟩
theorem main_1_2 : Claimed_1_2 := comes_1 fun _ _ _ _ _ _ h hF => ⟨h.2.1, hF⟩
end Jvm.Pilot.@@N@@
namespace Jvm.Pilot.@@N@@
open Jvm Jvm.ClassFile Sem Op Lib Jvm.Free Jvm.Stand Jvm.Pilot.@@N@@.Jvm.D
/-! MADE BY PROGRAM (witnessworld.py) out of the Statement's table words and the real class files: 10 classes; the members and pool entries that the words name. The judged class is class 1, her method 1. -/
namespace start1
open Jvm.ClassFile
def u (s : String) : CpInfo := .utf8 (stringToUtf16 s)
/-- a pool by its gaps: so many unusable entries, then the entry; so many at the end -/
def gap : Nat → List CpInfo → List CpInfo
  | 0, r => r
  | n + 1, r => .unusable :: gap n r
def poolList (es : List (Nat × CpInfo)) (last : Nat) : List CpInfo := es.foldr (fun e r => gap e.1 (e.2 :: r)) (gap last [])
def pool (es : List (Nat × CpInfo)) (last : Nat) : Array CpInfo := ⟨poolList es last⟩
def fileOf (pool : Array CpInfo) (this : Nat) (attrs : Array Attribute := #[]) (ms : Array MethodInfo := #[]) (fl : Nat := 33) (sup : Nat := 0) (ifs : Array Nat := #[]) (fds : Array FieldInfo := #[]) : ClassFile where
  minorVersion := 0
  majorVersion := 65
  constantPool := pool
  accessFlags := fl
  thisClass := this
  superClass := sup
  interfaces := ifs
  fields := fds
  methods := ms
  attributes := attrs
def plain (name : String) (sup : Option ClassId) : Class where
  name := name
  kind := .ordinary
  loader := none
  accessFlags := 33
  super := sup
  interfaces := #[]
  cf := none
  fields := #[]
  methods := #[]
  instanceTypes := #[]
  staticTypes := #[]
  resolved := #[]
  callSites := []
  init := .initialized
  statics := none
  mirror := none

def pool0 : Array CpInfo := pool [(5, u "<init>"), (0, u "()V"), (1, .class_ 10), (1, u "java/lang/Object")] 113

def k0m0 : Method := { name := "<init>", desc := "()V", sig := { parameters := [], returnType := none }, accessFlags := 1, code := none }
/-- java/lang/Object -/
def k0 : Class := { plain "java/lang/Object" none with
  accessFlags := 33
  interfaces := #[]
  cf := some (fileOf pool0 8 #[] #[{ accessFlags := 1, nameIndex := 5, descriptorIndex := 6, attributes := #[] }] 33 0 #[] #[])
  fields := #[]
  methods := #[k0m0]
  instanceTypes := #[]
  staticTypes := #[]
  resolved := Array.replicate 124 none
  statics := none }

def pool1 : Array CpInfo := pool [(2, .class_ 4), (1, u "java/lang/Object"), (0, u "<init>"), (0, u "()V"), (0, .integer 65535), (0, .methodref 9 10), (0, .class_ 11), (0, .nameAndType 12 13), (0, u "tallybones/Scoring"), (0, u "bidPoints"), (0, u "(III)I"), (0, .methodref 15 16), (0, .class_ 17), (0, .nameAndType 18 19), (0, u "java/lang/Math"), (0, u "max"), (0, u "(II)I"), (0, .methodref 15 21), (0, .nameAndType 22 19), (0, u "min"), (0, .class_ 24), (0, u "tallybones/ScoringBidPointsPinLaw"), (2, u "law"), (0, u "(IIIII)Z")] 3

def k1m0 : Method := { name := "<init>", desc := "()V", sig := { parameters := [], returnType := none }, accessFlags := 2, code := none }
def k1c1 : Code := { maxStack := 3, maxLocals := 12, code := code, exceptionTable := #[], attributes := #[] }
def k1m1 : Method := { name := "law", desc := "(IIIII)Z", sig := { parameters := [.int, .int, .int, .int, .int], returnType := some .boolean }, accessFlags := 9, code := some k1c1 }
/-- tallybones/ScoringBidPointsPinLaw -/
def k1 : Class := { plain "tallybones/ScoringBidPointsPinLaw" (some 0) with
  accessFlags := 49
  interfaces := #[]
  cf := some (fileOf pool1 23 #[] #[{ accessFlags := 2, nameIndex := 5, descriptorIndex := 6, attributes := #[] }, { accessFlags := 9, nameIndex := 27, descriptorIndex := 28, attributes := #[] }] 49 2 #[] #[])
  fields := #[]
  methods := #[k1m0, k1m1]
  instanceTypes := #[]
  staticTypes := #[]
  resolved := Array.replicate 32 none
  statics := none }

def pool2 : Array CpInfo := pool [(2, .class_ 4), (1, u "java/lang/Object"), (0, u "<init>"), (0, u "()V"), (0, .methodref 8 9), (0, .class_ 10), (0, .nameAndType 11 12), (0, u "java/lang/Math"), (0, u "abs"), (0, u "(I)I"), (1, .class_ 16), (1, u "tallybones/Scoring"), (67, u "ALLIANCE"), (0, u "I"), (4, u "bidPoints"), (0, u "(III)I")] 16

def k2m0 : Method := { name := "<init>", desc := "()V", sig := { parameters := [], returnType := none }, accessFlags := 2, code := none }
def k2c1 : Code := { maxStack := 3, maxLocals := 3, code := prog_30_method_2_code, exceptionTable := #[], attributes := #[] }
def k2m1 : Method := { name := "bidPoints", desc := "(III)I", sig := { parameters := [.int, .int, .int], returnType := some .int }, accessFlags := 8, code := some k2c1 }
/-- tallybones/Scoring -/
def k2 : Class := { plain "tallybones/Scoring" (some 0) with
  accessFlags := 48
  interfaces := #[]
  cf := some (fileOf pool2 14 #[] #[{ accessFlags := 2, nameIndex := 5, descriptorIndex := 6, attributes := #[] }, { accessFlags := 8, nameIndex := 90, descriptorIndex := 91, attributes := #[] }] 48 2 #[] #[{ accessFlags := 24, nameIndex := 84, descriptorIndex := 85, attributes := #[] }])
  fields := #[{ name := "ALLIANCE", type := .int, accessFlags := 24, slot := 0, constantValue := 0 }]
  methods := #[k2m0, k2m1]
  instanceTypes := #[]
  staticTypes := #[.int]
  resolved := Array.replicate 108 none
  statics := none }

def pool3 : Array CpInfo := pool [(1, .class_ 2), (0, u "java/lang/Math"), (1, .class_ 6), (1, u "java/lang/Object"), (0, u "<init>"), (0, u "()V"), (89, .class_ 100), (1, u "java/lang/Math$RandomNumberGeneratorHolder"), (23, u "abs"), (34, u "(I)I"), (12, u "negativeZeroFloatBits"), (0, u "J"), (2, u "negativeZeroDoubleBits"), (21, u "max"), (2, u "min"), (43, u "$assertionsDisabled"), (0, u "Z"), (88, u "(II)I"), (2, u "twoToTheDoubleScaleDown"), (0, u "D"), (4, u "twoToTheDoubleScaleUp"), (9, u "E"), (3, u "PI"), (2, u "TAU"), (2, u "DEGREES_TO_RADIANS"), (0, u "RADIANS_TO_DEGREES")] 94

def k3m0 : Method := { name := "<init>", desc := "()V", sig := { parameters := [], returnType := none }, accessFlags := 2, code := none }
def k3c1 : Code := { maxStack := 1, maxLocals := 1, code := jdk_29_method_59_code, exceptionTable := #[], attributes := #[] }
def k3m1 : Method := { name := "abs", desc := "(I)I", sig := { parameters := [.int], returnType := some .int }, accessFlags := 9, code := some k3c1 }
def k3c2 : Code := { maxStack := 2, maxLocals := 2, code := jdk_29_method_65_code, exceptionTable := #[], attributes := #[] }
def k3m2 : Method := { name := "max", desc := "(II)I", sig := { parameters := [.int, .int], returnType := some .int }, accessFlags := 9, code := some k3c2 }
def k3c3 : Code := { maxStack := 2, maxLocals := 2, code := jdk_29_method_69_code, exceptionTable := #[], attributes := #[] }
def k3m3 : Method := { name := "min", desc := "(II)I", sig := { parameters := [.int, .int], returnType := some .int }, accessFlags := 9, code := some k3c3 }
/-- java/lang/Math -/
def k3 : Class := { plain "java/lang/Math" (some 0) with
  accessFlags := 49
  interfaces := #[]
  cf := some (fileOf pool3 1 #[.nestMembers #[98]] #[{ accessFlags := 2, nameIndex := 7, descriptorIndex := 8, attributes := #[] }, { accessFlags := 9, nameIndex := 124, descriptorIndex := 159, attributes := #[] }, { accessFlags := 9, nameIndex := 198, descriptorIndex := 335, attributes := #[] }, { accessFlags := 9, nameIndex := 201, descriptorIndex := 335, attributes := #[] }] 49 4 #[] #[{ accessFlags := 25, nameIndex := 354, descriptorIndex := 339, attributes := #[] }, { accessFlags := 25, nameIndex := 358, descriptorIndex := 339, attributes := #[] }, { accessFlags := 25, nameIndex := 361, descriptorIndex := 339, attributes := #[] }, { accessFlags := 26, nameIndex := 364, descriptorIndex := 339, attributes := #[] }, { accessFlags := 26, nameIndex := 365, descriptorIndex := 339, attributes := #[] }, { accessFlags := 26, nameIndex := 172, descriptorIndex := 173, attributes := #[] }, { accessFlags := 26, nameIndex := 176, descriptorIndex := 173, attributes := #[] }, { accessFlags := 8, nameIndex := 344, descriptorIndex := 339, attributes := #[] }, { accessFlags := 8, nameIndex := 338, descriptorIndex := 339, attributes := #[] }, { accessFlags := 4120, nameIndex := 245, descriptorIndex := 246, attributes := #[] }])
  fields := #[{ name := "E", type := .double, accessFlags := 25, slot := 0, constantValue := 0 }, { name := "PI", type := .double, accessFlags := 25, slot := 1, constantValue := 0 }, { name := "TAU", type := .double, accessFlags := 25, slot := 2, constantValue := 0 }, { name := "DEGREES_TO_RADIANS", type := .double, accessFlags := 26, slot := 3, constantValue := 0 }, { name := "RADIANS_TO_DEGREES", type := .double, accessFlags := 26, slot := 4, constantValue := 0 }, { name := "negativeZeroFloatBits", type := .long, accessFlags := 26, slot := 5, constantValue := 0 }, { name := "negativeZeroDoubleBits", type := .long, accessFlags := 26, slot := 6, constantValue := 0 }, { name := "twoToTheDoubleScaleUp", type := .double, accessFlags := 8, slot := 7, constantValue := 0 }, { name := "twoToTheDoubleScaleDown", type := .double, accessFlags := 8, slot := 8, constantValue := 0 }, { name := "$assertionsDisabled", type := .boolean, accessFlags := 4120, slot := 9, constantValue := 0 }]
  methods := #[k3m0, k3m1, k3m2, k3m3]
  instanceTypes := #[]
  staticTypes := #[.double, .double, .double, .double, .double, .long, .long, .double, .double, .boolean]
  resolved := Array.replicate 460 none
  statics := none }

def pool4 : Array CpInfo := pool [(1, u "java/lang/Cloneable"), (0, .class_ 1), (0, u "java/lang/Object"), (0, .class_ 3)] 3

/-- java/lang/Cloneable -/
def k4 : Class := { plain "java/lang/Cloneable" (some 0) with
  accessFlags := 1537
  interfaces := #[]
  cf := some (fileOf pool4 2 #[] #[] 1537 4 #[] #[])
  fields := #[]
  methods := #[]
  instanceTypes := #[]
  staticTypes := #[]
  resolved := Array.replicate 8 none
  statics := none }

def pool5 : Array CpInfo := pool [(1, u "java/io/Serializable"), (0, .class_ 1), (0, u "java/lang/Object"), (0, .class_ 3)] 3

/-- java/io/Serializable -/
def k5 : Class := { plain "java/io/Serializable" (some 0) with
  accessFlags := 1537
  interfaces := #[]
  cf := some (fileOf pool5 2 #[] #[] 1537 4 #[] #[])
  fields := #[]
  methods := #[]
  instanceTypes := #[]
  staticTypes := #[]
  resolved := Array.replicate 8 none
  statics := none }

/-- the primitive byte -/
def k6 : Class := { plain "byte" none with kind := .primitive 'B', accessFlags := 0x411 }
/-- [B -/
def k7 : Class := { plain "[B" (some 0) with kind := .array 6 .byte, interfaces := #[4, 5], accessFlags := 1041 }

/-- the primitive int -/
def k8 : Class := { plain "int" none with kind := .primitive 'I', accessFlags := 0x411 }
/-- [I -/
def k9 : Class := { plain "[I" (some 0) with kind := .array 8 .int, interfaces := #[4, 5], accessFlags := 1041 }

def heap : Heap := #[]
def classes : Array Class := #[k0, k1, k2, k3, k4, k5, k6, k7, k8, k9]
def interned : List (Array UInt16 × Addr) := []
def slotsUsed : Nat := 0
def theMethod : MethodId := ⟨1, 1⟩
def args0 : Array Value := #[.int 3, .int 2, .int 7, .int 4, .int 0]
def aboutOver (below : List Frame) : State where
  vm := { classes := classes, interned := interned.toArray }
  heap := heap
  slotsUsed := slotsUsed
  threads := #[{ frames := .invoking theMethod args0 :: below }]
def below0 : List Frame := [.native { method := ⟨0, 0⟩, args := #[] }]
def about1 : State := aboutOver below0
def p0 : Program := .bare "" "" ""
def e0 : Env := launch0.env 0 0 0
theorem w_frames : about1.frames = Frame.invoking theMethod args0 :: below0 := rfl
set_option maxRecDepth 65536 in
theorem w_args : argsFit about1.vm theMethod args0 = true := by decide +kernel
set_option maxRecDepth 65536 in
theorem w_heap : heapFits about1 = true := by decide +kernel
set_option maxRecDepth 65536 in
theorem w_runnable : about1.curStatus? = some .runnable := by decide +kernel
set_option maxRecDepth 65536 in
theorem w_alone : about1.alone = true := by decide +kernel
set_option maxRecDepth 65536 in
theorem w_named : about1.methodNamed? x = some theMethod := by decide +kernel
set_option maxRecDepth 65536 in
theorem w_hears : about1.hears theMethod below0 = true := by decide +kernel
set_option maxRecDepth 65536 in
theorem w_ripe : about1.ripe theMethod args0 below0 = true := by decide +kernel
theorem w_running : about1.status = .running := rfl
set_option maxRecDepth 65536 in
theorem w_room : about1.hasRoom e0.platform room_1 = true :=
  launch0.hasRoom_least _ room_1 (by decide +kernel) (by decide +kernel) (by decide +kernel) (by decide +kernel) (by decide +kernel) (by decide +kernel)
theorem allAtoms_all (ts : List Jvm.Cond) (a : Array Jvm.Value) (st : Jvm.State) : (allAtoms ts).before a st = ts.all (fun c => c.before a st) := by
  induction ts with
  | nil => rfl
  | cons c t ih =>
    show (Jvm.Cond.and c (allAtoms t)).before a st = _
    rw [Jvm.Cond.before_and, ih, List.all_cons]
def words1 : List Jvm.Cond := Jvm.Cond.code x code maxLocals ret :: tables_1
/-- a 'code' word, met by the world's own term for the bytes: nothing is compared byte by byte -/
theorem code_word {y : MethodName} {bytes : ByteArray} {mx : Nat} {rt : Option FieldType} {a : Array Value} {s : State} {m : MethodId} {meth : Method} {c : Code} (h1 : s.methodNamed? y = some m) (h2 : s.vm.method? m = some meth) (h3 : meth.code = some c) (h4 : c.code = bytes)
    (h5 : (c.maxLocals == mx && c.exceptionTable.isEmpty && decide (c.maxStack ≤ mostOperands) && decide (meth.sig.returnType = rt) && !meth.locks && decide (parseMethodDescriptor y.desc = some meth.sig)) = true) : (Jvm.Cond.code y bytes mx rt).before a s = true := by
  simp only [Bool.and_eq_true, beq_iff_eq, Bool.not_eq_true', decide_eq_true_eq] at h5
  obtain ⟨⟨⟨⟨⟨g1, g2⟩, g3⟩, g4⟩, g5⟩, g6⟩ := h5
  simp [Cond.before, Cond.holds, Cond.value, h1, h2, h3, h4, g1, g2, g3, g4, g5, g6]
def isCode : Jvm.Cond → Bool
  | .code _ _ _ _ => true
  | _ => false
theorem all_split {L : List Jvm.Cond} {P : Jvm.Cond → Bool} (h1 : L.all (fun c => isCode c || P c) = true) (h2 : ∀ c ∈ L.filter isCode, P c = true) : L.all P = true := by
  refine List.all_eq_true.mpr fun c hc => ?_
  have h := List.all_eq_true.mp h1 c hc
  rcases Bool.eq_false_or_eq_true (isCode c) with hi | hi
  · exact h2 c (List.mem_filter.mpr ⟨hc, hi⟩)
  · simpa [hi] using h
set_option maxRecDepth 65536 in
theorem w_c0 : (Jvm.Cond.code x code maxLocals ret).before args0 about1 = true := code_word (m := ⟨1, 1⟩) (meth := k1m1) (c := k1c1) (by decide +kernel) rfl rfl rfl (by decide +kernel)
set_option maxRecDepth 65536 in
theorem w_c1 : (Jvm.Cond.code ({ cls := "tallybones/Scoring", name := "bidPoints", desc := "(III)I" } : Jvm.MethodName) prog_30_method_2_code (3 : Nat) (Option.some Jvm.ClassFile.FieldType.int)).before args0 about1 = true := code_word (m := ⟨2, 1⟩) (meth := k2m1) (c := k2c1) (by decide +kernel) rfl rfl rfl (by decide +kernel)
set_option maxRecDepth 65536 in
theorem w_c2 : (Jvm.Cond.code ({ cls := "java/lang/Math", name := "abs", desc := "(I)I" } : Jvm.MethodName) jdk_29_method_59_code (1 : Nat) (Option.some Jvm.ClassFile.FieldType.int)).before args0 about1 = true := code_word (m := ⟨3, 1⟩) (meth := k3m1) (c := k3c1) (by decide +kernel) rfl rfl rfl (by decide +kernel)
set_option maxRecDepth 65536 in
theorem w_c3 : (Jvm.Cond.code ({ cls := "java/lang/Math", name := "max", desc := "(II)I" } : Jvm.MethodName) jdk_29_method_65_code (2 : Nat) (Option.some Jvm.ClassFile.FieldType.int)).before args0 about1 = true := code_word (m := ⟨3, 2⟩) (meth := k3m2) (c := k3c2) (by decide +kernel) rfl rfl rfl (by decide +kernel)
set_option maxRecDepth 65536 in
theorem w_c4 : (Jvm.Cond.code ({ cls := "java/lang/Math", name := "min", desc := "(II)I" } : Jvm.MethodName) jdk_29_method_69_code (2 : Nat) (Option.some Jvm.ClassFile.FieldType.int)).before args0 about1 = true := code_word (m := ⟨3, 3⟩) (meth := k3m3) (c := k3c3) (by decide +kernel) rfl rfl rfl (by decide +kernel)
def codes1 : List Jvm.Cond := [Jvm.Cond.code x code maxLocals ret, Jvm.Cond.code ({ cls := "tallybones/Scoring", name := "bidPoints", desc := "(III)I" } : Jvm.MethodName) prog_30_method_2_code (3 : Nat) (Option.some Jvm.ClassFile.FieldType.int), Jvm.Cond.code ({ cls := "java/lang/Math", name := "abs", desc := "(I)I" } : Jvm.MethodName) jdk_29_method_59_code (1 : Nat) (Option.some Jvm.ClassFile.FieldType.int), Jvm.Cond.code ({ cls := "java/lang/Math", name := "max", desc := "(II)I" } : Jvm.MethodName) jdk_29_method_65_code (2 : Nat) (Option.some Jvm.ClassFile.FieldType.int), Jvm.Cond.code ({ cls := "java/lang/Math", name := "min", desc := "(II)I" } : Jvm.MethodName) jdk_29_method_69_code (2 : Nat) (Option.some Jvm.ClassFile.FieldType.int)]
set_option maxRecDepth 65536 in
theorem codes_eq : words1.filter isCode = codes1 := rfl
theorem w_codes : ∀ c ∈ words1.filter isCode, c.before args0 about1 = true := by
  rw [codes_eq]
  intro c hc
  simp only [codes1, List.mem_cons, List.not_mem_nil, or_false] at hc
  rcases hc with rfl | rfl | rfl | rfl | rfl
  · exact w_c0
  · exact w_c1
  · exact w_c2
  · exact w_c3
  · exact w_c4
set_option maxRecDepth 65536 in
theorem w_t1 : words1.all (fun c => isCode c || c.before args0 about1) = true := by decide +kernel
theorem w_tables : (allAtoms (Jvm.Cond.code x code maxLocals ret :: tables_1)).before args0 about1 = true := by
  rw [allAtoms_all]
  show words1.all (fun c => c.before args0 about1) = true
  refine all_split ?_ w_codes
  rw [w_t1]
set_option maxRecDepth 65536 in
theorem w_case : (Jvm.Cond.and given_1 narrow_1).before args0 about1 = true := by decide +kernel
theorem w_applies : (headSpec (Jvm.Cond.code x code maxLocals ret :: tables_1) room_1).applies x e0.platform about1 = true :=
  (Spec.applies_iff w_frames).mpr ⟨w_running, w_runnable, w_alone, w_named, w_hears, w_ripe, w_room, w_tables⟩
theorem atStart : AtStart classFile x code maxLocals ret World_1 tables_1 room_1 Calls_1 rest_1 Pre_1 launch0 p0 e0 about1 theMethod args0 below0 :=
  ⟨lists_1, trivial, launch0.admits_env _ _ _, launch0.least_env, fairChoices_fair.cas, fairChoices_fair.clock, w_frames, w_args, w_heap, w_applies, trivial, trivial, w_case⟩
end start1
theorem witness_1 : WitnessClaimed_1 := ⟨start1.p0, start1.e0, start1.about1, start1.theMethod, start1.args0, start1.below0, start1.atStart⟩
end Jvm.Pilot.@@N@@
