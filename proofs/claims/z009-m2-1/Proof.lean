import JvmDerived
import JvmDerived.Pilot.@@N@@Statement
import JvmDerived.Pilot.@@N@@Code
set_option linter.unusedVariables false
set_option linter.unusedSimpArgs false
namespace Jvm.RoadKit
open Sem ClassFile Op Lib Jvm.Stand Jvm.Free Jvm.LawKit
section New
variable {p : Program} {l : Launch} {e : Env} {R : Room} {s : State} {m : MethodId} {args : Array Value} {below : List Frame} {meth : Method} {c : Code} {T : State} {locs : List Loc} {cells slots : Nat}
theorem retI (X : Stand p l e R s m args below meth c T locs cells slots) (hx : p.tables.exec = Jvm.exec) {pc : Nat} {Ls : Array Slot} {z : Int32} {rest : List Value} (hret : meth.sig.returnType = some .int) (hd : decode c.code pc = .ok (.ireturn, 1)) {fs : List Frame}
    (hl : ∀ (f : JFrame) (acts : List Action), f.method = m → f.locked = none → f.entered = [] → (doReturn e (T.setTop f) acts (some (.int z))).1 = T.setFrames fs) : Steps p.tables e below (T.setTop (mkF m pc Ls (.int z :: rest))) (T.setFrames fs) := by
  have hm' : T.vm.method? m = some meth := X.method'
  have hn : narrow .int (.int z) = .int z := rfl
  show Steps p.tables e below (T.setTop { method := m, pc := pc, locals := Ls, stack := _ :: rest, locked := none }) _
  jvm_step X.here [X.here.top, hx, hd, hm', hret, hn]
  first | (intro acts; rw [hl _ acts rfl rfl rfl]) | rw [hl _ _ rfl rfl rfl]
  exact Steps.refl _
end New
end Jvm.RoadKit
namespace Jvm.Pilot.@@N@@
open Jvm Jvm.ClassFile Sem Op Lib Jvm.Free Jvm.Stand Jvm.LawKit Jvm.RoadKit Bundle Jvm.Pilot.@@N@@.Jvm.D
theorem d1_0 : decode prog_56_method_5_code 0 = .ok (.iload_n 0, 1) := by decide +kernel
theorem d1_1 : decode prog_56_method_5_code 1 = .ok (.iconst 1, 1) := by decide +kernel
theorem d1_2 : decode prog_56_method_5_code 2 = .ok (.if_icmp .lt 9, 3) := by decide +kernel
theorem d1_5 : decode prog_56_method_5_code 5 = .ok (.iload_n 0, 1) := by decide +kernel
theorem d1_6 : decode prog_56_method_5_code 6 = .ok (.bipush 8, 2) := by decide +kernel
theorem d1_8 : decode prog_56_method_5_code 8 = .ok (.if_icmp .le 54, 3) := by decide +kernel
theorem d1_11 : decode prog_56_method_5_code 11 = .ok (.iload_n 0, 1) := by decide +kernel
theorem d1_12 : decode prog_56_method_5_code 12 = .ok (.bipush 11, 2) := by decide +kernel
theorem d1_14 : decode prog_56_method_5_code 14 = .ok (.if_icmp .eq 48, 3) := by decide +kernel
theorem d1_17 : decode prog_56_method_5_code 17 = .ok (.iload_n 0, 1) := by decide +kernel
theorem d1_18 : decode prog_56_method_5_code 18 = .ok (.bipush 12, 2) := by decide +kernel
theorem d1_20 : decode prog_56_method_5_code 20 = .ok (.if_icmp .eq 42, 3) := by decide +kernel
theorem d1_23 : decode prog_56_method_5_code 23 = .ok (.iload_n 0, 1) := by decide +kernel
theorem d1_24 : decode prog_56_method_5_code 24 = .ok (.bipush 14, 2) := by decide +kernel
theorem d1_26 : decode prog_56_method_5_code 26 = .ok (.if_icmp .lt 9, 3) := by decide +kernel
theorem d1_29 : decode prog_56_method_5_code 29 = .ok (.iload_n 0, 1) := by decide +kernel
theorem d1_30 : decode prog_56_method_5_code 30 = .ok (.bipush 31, 2) := by decide +kernel
theorem d1_32 : decode prog_56_method_5_code 32 = .ok (.if_icmp .le 30, 3) := by decide +kernel
theorem d1_35 : decode prog_56_method_5_code 35 = .ok (.iload_n 0, 1) := by decide +kernel
theorem d1_36 : decode prog_56_method_5_code 36 = .ok (.bipush 127, 2) := by decide +kernel
theorem d1_38 : decode prog_56_method_5_code 38 = .ok (.if_icmp .lt 10, 3) := by decide +kernel
theorem d1_41 : decode prog_56_method_5_code 41 = .ok (.iload_n 0, 1) := by decide +kernel
theorem d1_42 : decode prog_56_method_5_code 42 = .ok (.sipush 132, 3) := by decide +kernel
theorem d1_45 : decode prog_56_method_5_code 45 = .ok (.if_icmp .le 17, 3) := by decide +kernel
theorem d1_48 : decode prog_56_method_5_code 48 = .ok (.iload_n 0, 1) := by decide +kernel
theorem d1_49 : decode prog_56_method_5_code 49 = .ok (.sipush 134, 3) := by decide +kernel
theorem d1_52 : decode prog_56_method_5_code 52 = .ok (.if_icmp .lt 14, 3) := by decide +kernel
theorem d1_55 : decode prog_56_method_5_code 55 = .ok (.iload_n 0, 1) := by decide +kernel
theorem d1_56 : decode prog_56_method_5_code 56 = .ok (.sipush 159, 3) := by decide +kernel
theorem d1_59 : decode prog_56_method_5_code 59 = .ok (.if_icmp .gt 7, 3) := by decide +kernel
theorem d1_62 : decode prog_56_method_5_code 62 = .ok (.iconst 1, 1) := by decide +kernel
theorem d1_63 : decode prog_56_method_5_code 63 = .ok (.goto 4, 3) := by decide +kernel
theorem d1_66 : decode prog_56_method_5_code 66 = .ok (.iconst 0, 1) := by decide +kernel
theorem d1_67 : decode prog_56_method_5_code 67 = .ok (.ireturn, 1) := by decide +kernel
theorem pn_1 : plainName "com/example/tracewell/tracewell/XmlSyntax" = true := by first | (simp [plainName, overriddenIn]; done) | decide +kernel
theorem ef_1 (m : MethodId) (p1 : Int32) : entryFrame m #[(.int p1)] 1 = (mkF m 0 #[.val (.int p1)] []) := by first | (simp [entryFrame, mkF, argsToLocals, Value.category]; done) | rfl
def own_F1 (p1 : Int32) : Int32 := if p1 < (1 : Int32) then (if p1 = (11 : Int32) then (1 : Int32) else (if p1 = (12 : Int32) then (1 : Int32) else (if p1 < (14 : Int32) then (if p1 < (127 : Int32) then (if p1 < (134 : Int32) then (0 : Int32) else (if (159 : Int32) < p1 then (0 : Int32) else (1 : Int32))) else (if (132 : Int32) < p1 then (if p1 < (134 : Int32) then (0 : Int32) else (if (159 : Int32) < p1 then (0 : Int32) else (1 : Int32))) else (1 : Int32))) else (if (31 : Int32) < p1 then (if p1 < (127 : Int32) then (if p1 < (134 : Int32) then (0 : Int32) else (if (159 : Int32) < p1 then (0 : Int32) else (1 : Int32))) else (if (132 : Int32) < p1 then (if p1 < (134 : Int32) then (0 : Int32) else (if (159 : Int32) < p1 then (0 : Int32) else (1 : Int32))) else (1 : Int32))) else (1 : Int32))))) else (if (8 : Int32) < p1 then (if p1 = (11 : Int32) then (1 : Int32) else (if p1 = (12 : Int32) then (1 : Int32) else (if p1 < (14 : Int32) then (if p1 < (127 : Int32) then (if p1 < (134 : Int32) then (0 : Int32) else (if (159 : Int32) < p1 then (0 : Int32) else (1 : Int32))) else (if (132 : Int32) < p1 then (if p1 < (134 : Int32) then (0 : Int32) else (if (159 : Int32) < p1 then (0 : Int32) else (1 : Int32))) else (1 : Int32))) else (if (31 : Int32) < p1 then (if p1 < (127 : Int32) then (if p1 < (134 : Int32) then (0 : Int32) else (if (159 : Int32) < p1 then (0 : Int32) else (1 : Int32))) else (if (132 : Int32) < p1 then (if p1 < (134 : Int32) then (0 : Int32) else (if (159 : Int32) < p1 then (0 : Int32) else (1 : Int32))) else (1 : Int32))) else (1 : Int32))))) else (1 : Int32))
def Q1 (Z : State) (p1 : Int32) (h0 : Heap) (n0 : Nat) (v : Option Value) (h : Heap) (L : List Loc) : Prop := v = some (.int (own_F1 p1)) ∧ Fr n0 L ∧ h = h0
set_option maxRecDepth 65536 in
set_option maxHeartbeats 40000000 in
theorem rm1 (l : Launch) (Z : State) (a0 : Array Value) (hw : ∀ d ∈ tables_1, d.before a0 Z = true) (ws : List Jvm.Cond) (p1 : Int32) (h0 : Heap) (n0 : Nat) (Z0 : n0 ≤ h0.size) :
    MetFree l (⟨"com/example/tracewell/tracewell/XmlSyntax", "isRestricted11", "(I)Z"⟩ : MethodName) (head1 (Jvm.Cond.code (⟨"com/example/tracewell/tracewell/XmlSyntax", "isRestricted11", "(I)Z"⟩ : MethodName) prog_56_method_5_code 1 (some .boolean) :: ws) ({ frames := 0, cells := 0, slots := 0, locals := 0 } : Room)) (fun a U => a = #[(.int p1)] ∧ Z.Warmed39 U.vm ∧ U.heap = h0) (fun _ _ _ _ _ => True) (fun _ U o U' => ∃ v L, o = .returned v ∧ Q1 Z p1 h0 n0 v U'.heap L ∧ FrameEnd U o U' L ({ frames := 0, cells := 0, slots := 0, locals := 0 } : Room).cells ({ frames := 0, cells := 0, slots := 0, locals := 0 } : Room).slots) := by
  refine MetFree.of_bodySF (plainFor_of_name pn_1) hisR ?_
  intro p e s m args below meth c s₁ Bd hml0 hP hK
  obtain ⟨rfl, hZ, hh⟩ := hP
  have hx := Bd.exec
  have hby := Bd.bytes
  have hml : c.maxLocals = 1 := hml0
  have hown : s.vm.findClass "com/example/tracewell/tracewell/XmlSyntax" = some m.cls := findClass_of_methodNamed Bd.named
  have X0 : Stand p l e ({ frames := 0, cells := 0, slots := 0, locals := 0 } : Room) s m #[(.int p1)] below meth c s₁ [] 0 0 := Stand.of_body Bd
  have e0 : s₁.heap = h0 := by rw [← hh, Bd.state]; rfl
  have N0 := Fr.nil n0
  have pre0 : ∀ t, Steps p.tables e below (s₁.setTop (mkF m 0 #[.val (.int p1)] [])) t → Steps p.tables e below (s₁.setTop (entryFrame m #[(.int p1)] 1)) t := fun t k => castTop (ef_1 m p1) k
  obtain ⟨fs, hr, hrun, hended, hW, hsame⟩ := X0.leave (v := some (.int (own_F1 p1))) (fun h => by rw [Bd.returns] at h; cases h)
  refine ⟨_, _, pre0 _ ?_, hrun, hended, _, _, rfl, ?_, ⟨_, rfl⟩, hW, hsame.mono (by decide) (by decide)⟩
  · show Steps p.tables e below (s₁.setTop (mkF m 0 #[.val (.int p1)] [])) _
    refine XS.iloadN X0.here hx rfl (hb hby d1_0) rfl ?_
    show Steps p.tables e below (s₁.setTop (mkF m 1 #[.val (.int p1)] [(.int p1)])) _
    refine XS.iconst X0.here hx rfl (hb hby d1_1) ?_
    show Steps p.tables e below (s₁.setTop (mkF m 2 #[.val (.int p1)] [(.int (1 : Int32)), (.int p1)])) _
    by_cases hc2 : p1 < (1 : Int32)
    · refine XS.icmpYes X0.here hx rfl (pc0 := 2) (pc' := 11) rfl (hb hby d1_2) rfl (tlt hc2).1 (by decide) (by decide) ?_
      show Steps p.tables e below (s₁.setTop (mkF m 11 #[.val (.int p1)] [])) _
      refine XS.iloadN X0.here hx rfl (hb hby d1_11) rfl ?_
      show Steps p.tables e below (s₁.setTop (mkF m 12 #[.val (.int p1)] [(.int p1)])) _
      refine XS.bipush X0.here hx rfl (hb hby d1_12) ?_
      show Steps p.tables e below (s₁.setTop (mkF m 14 #[.val (.int p1)] [(.int (11 : Int32)), (.int p1)])) _
      by_cases hc14 : p1 = (11 : Int32)
      · refine XS.icmpYes X0.here hx rfl (pc0 := 14) (pc' := 62) rfl (hb hby d1_14) rfl (teq hc14).1 (by decide) (by decide) ?_
        show Steps p.tables e below (s₁.setTop (mkF m 62 #[.val (.int p1)] [])) _
        refine XS.iconst X0.here hx rfl (hb hby d1_62) ?_
        show Steps p.tables e below (s₁.setTop (mkF m 63 #[.val (.int p1)] [(.int (1 : Int32))])) _
        refine XS.goto X0.here hx rfl (pc0 := 63) (pc' := 67) rfl (hb hby d1_63) (by decide) (by decide) ?_
        show Steps p.tables e below (s₁.setTop (mkF m 67 #[.val (.int p1)] [(.int (1 : Int32))])) _
        have hv : (own_F1 p1) = (1 : Int32) := by unfold own_F1; rw [if_pos hc2, if_pos hc14]
        rw [hv] at hr
        exact retN X0 hx (t := .boolean) Bd.returns (by simp) (hb hby d1_67) hr
      · refine XS.icmpNo X0.here hx rfl (hb hby d1_14) rfl (feq hc14).1 ?_
        show Steps p.tables e below (s₁.setTop (mkF m 17 #[.val (.int p1)] [])) _
        refine XS.iloadN X0.here hx rfl (hb hby d1_17) rfl ?_
        show Steps p.tables e below (s₁.setTop (mkF m 18 #[.val (.int p1)] [(.int p1)])) _
        refine XS.bipush X0.here hx rfl (hb hby d1_18) ?_
        show Steps p.tables e below (s₁.setTop (mkF m 20 #[.val (.int p1)] [(.int (12 : Int32)), (.int p1)])) _
        by_cases hc20 : p1 = (12 : Int32)
        · refine XS.icmpYes X0.here hx rfl (pc0 := 20) (pc' := 62) rfl (hb hby d1_20) rfl (teq hc20).1 (by decide) (by decide) ?_
          show Steps p.tables e below (s₁.setTop (mkF m 62 #[.val (.int p1)] [])) _
          refine XS.iconst X0.here hx rfl (hb hby d1_62) ?_
          show Steps p.tables e below (s₁.setTop (mkF m 63 #[.val (.int p1)] [(.int (1 : Int32))])) _
          refine XS.goto X0.here hx rfl (pc0 := 63) (pc' := 67) rfl (hb hby d1_63) (by decide) (by decide) ?_
          show Steps p.tables e below (s₁.setTop (mkF m 67 #[.val (.int p1)] [(.int (1 : Int32))])) _
          have hv : (own_F1 p1) = (1 : Int32) := by unfold own_F1; rw [if_pos hc2, if_neg hc14, if_pos hc20]
          rw [hv] at hr
          exact retN X0 hx (t := .boolean) Bd.returns (by simp) (hb hby d1_67) hr
        · refine XS.icmpNo X0.here hx rfl (hb hby d1_20) rfl (feq hc20).1 ?_
          show Steps p.tables e below (s₁.setTop (mkF m 23 #[.val (.int p1)] [])) _
          refine XS.iloadN X0.here hx rfl (hb hby d1_23) rfl ?_
          show Steps p.tables e below (s₁.setTop (mkF m 24 #[.val (.int p1)] [(.int p1)])) _
          refine XS.bipush X0.here hx rfl (hb hby d1_24) ?_
          show Steps p.tables e below (s₁.setTop (mkF m 26 #[.val (.int p1)] [(.int (14 : Int32)), (.int p1)])) _
          by_cases hc26 : p1 < (14 : Int32)
          · refine XS.icmpYes X0.here hx rfl (pc0 := 26) (pc' := 35) rfl (hb hby d1_26) rfl (tlt hc26).1 (by decide) (by decide) ?_
            show Steps p.tables e below (s₁.setTop (mkF m 35 #[.val (.int p1)] [])) _
            refine XS.iloadN X0.here hx rfl (hb hby d1_35) rfl ?_
            show Steps p.tables e below (s₁.setTop (mkF m 36 #[.val (.int p1)] [(.int p1)])) _
            refine XS.bipush X0.here hx rfl (hb hby d1_36) ?_
            show Steps p.tables e below (s₁.setTop (mkF m 38 #[.val (.int p1)] [(.int (127 : Int32)), (.int p1)])) _
            by_cases hc38 : p1 < (127 : Int32)
            · refine XS.icmpYes X0.here hx rfl (pc0 := 38) (pc' := 48) rfl (hb hby d1_38) rfl (tlt hc38).1 (by decide) (by decide) ?_
              show Steps p.tables e below (s₁.setTop (mkF m 48 #[.val (.int p1)] [])) _
              refine XS.iloadN X0.here hx rfl (hb hby d1_48) rfl ?_
              show Steps p.tables e below (s₁.setTop (mkF m 49 #[.val (.int p1)] [(.int p1)])) _
              refine XS.sipush X0.here hx rfl (hb hby d1_49) ?_
              show Steps p.tables e below (s₁.setTop (mkF m 52 #[.val (.int p1)] [(.int (134 : Int32)), (.int p1)])) _
              by_cases hc52 : p1 < (134 : Int32)
              · refine XS.icmpYes X0.here hx rfl (pc0 := 52) (pc' := 66) rfl (hb hby d1_52) rfl (tlt hc52).1 (by decide) (by decide) ?_
                show Steps p.tables e below (s₁.setTop (mkF m 66 #[.val (.int p1)] [])) _
                refine XS.iconst X0.here hx rfl (hb hby d1_66) ?_
                show Steps p.tables e below (s₁.setTop (mkF m 67 #[.val (.int p1)] [(.int (0 : Int32))])) _
                have hv : (own_F1 p1) = (0 : Int32) := by unfold own_F1; rw [if_pos hc2, if_neg hc14, if_neg hc20, if_pos hc26, if_pos hc38, if_pos hc52]
                rw [hv] at hr
                exact retN X0 hx (t := .boolean) Bd.returns (by simp) (hb hby d1_67) hr
              · refine XS.icmpNo X0.here hx rfl (hb hby d1_52) rfl (flt hc52).1 ?_
                show Steps p.tables e below (s₁.setTop (mkF m 55 #[.val (.int p1)] [])) _
                refine XS.iloadN X0.here hx rfl (hb hby d1_55) rfl ?_
                show Steps p.tables e below (s₁.setTop (mkF m 56 #[.val (.int p1)] [(.int p1)])) _
                refine XS.sipush X0.here hx rfl (hb hby d1_56) ?_
                show Steps p.tables e below (s₁.setTop (mkF m 59 #[.val (.int p1)] [(.int (159 : Int32)), (.int p1)])) _
                by_cases hc59 : (159 : Int32) < p1
                · refine XS.icmpYes X0.here hx rfl (pc0 := 59) (pc' := 66) rfl (hb hby d1_59) rfl (tlt hc59).2.2.1 (by decide) (by decide) ?_
                  show Steps p.tables e below (s₁.setTop (mkF m 66 #[.val (.int p1)] [])) _
                  refine XS.iconst X0.here hx rfl (hb hby d1_66) ?_
                  show Steps p.tables e below (s₁.setTop (mkF m 67 #[.val (.int p1)] [(.int (0 : Int32))])) _
                  have hv : (own_F1 p1) = (0 : Int32) := by unfold own_F1; rw [if_pos hc2, if_neg hc14, if_neg hc20, if_pos hc26, if_pos hc38, if_neg hc52, if_pos hc59]
                  rw [hv] at hr
                  exact retN X0 hx (t := .boolean) Bd.returns (by simp) (hb hby d1_67) hr
                · refine XS.icmpNo X0.here hx rfl (hb hby d1_59) rfl (flt hc59).2.2.1 ?_
                  show Steps p.tables e below (s₁.setTop (mkF m 62 #[.val (.int p1)] [])) _
                  refine XS.iconst X0.here hx rfl (hb hby d1_62) ?_
                  show Steps p.tables e below (s₁.setTop (mkF m 63 #[.val (.int p1)] [(.int (1 : Int32))])) _
                  refine XS.goto X0.here hx rfl (pc0 := 63) (pc' := 67) rfl (hb hby d1_63) (by decide) (by decide) ?_
                  show Steps p.tables e below (s₁.setTop (mkF m 67 #[.val (.int p1)] [(.int (1 : Int32))])) _
                  have hv : (own_F1 p1) = (1 : Int32) := by unfold own_F1; rw [if_pos hc2, if_neg hc14, if_neg hc20, if_pos hc26, if_pos hc38, if_neg hc52, if_neg hc59]
                  rw [hv] at hr
                  exact retN X0 hx (t := .boolean) Bd.returns (by simp) (hb hby d1_67) hr
            · refine XS.icmpNo X0.here hx rfl (hb hby d1_38) rfl (flt hc38).1 ?_
              show Steps p.tables e below (s₁.setTop (mkF m 41 #[.val (.int p1)] [])) _
              refine XS.iloadN X0.here hx rfl (hb hby d1_41) rfl ?_
              show Steps p.tables e below (s₁.setTop (mkF m 42 #[.val (.int p1)] [(.int p1)])) _
              refine XS.sipush X0.here hx rfl (hb hby d1_42) ?_
              show Steps p.tables e below (s₁.setTop (mkF m 45 #[.val (.int p1)] [(.int (132 : Int32)), (.int p1)])) _
              by_cases hc45 : (132 : Int32) < p1
              · refine XS.icmpNo X0.here hx rfl (hb hby d1_45) rfl (tlt hc45).2.2.2 ?_
                show Steps p.tables e below (s₁.setTop (mkF m 48 #[.val (.int p1)] [])) _
                refine XS.iloadN X0.here hx rfl (hb hby d1_48) rfl ?_
                show Steps p.tables e below (s₁.setTop (mkF m 49 #[.val (.int p1)] [(.int p1)])) _
                refine XS.sipush X0.here hx rfl (hb hby d1_49) ?_
                show Steps p.tables e below (s₁.setTop (mkF m 52 #[.val (.int p1)] [(.int (134 : Int32)), (.int p1)])) _
                by_cases hc52 : p1 < (134 : Int32)
                · refine XS.icmpYes X0.here hx rfl (pc0 := 52) (pc' := 66) rfl (hb hby d1_52) rfl (tlt hc52).1 (by decide) (by decide) ?_
                  show Steps p.tables e below (s₁.setTop (mkF m 66 #[.val (.int p1)] [])) _
                  refine XS.iconst X0.here hx rfl (hb hby d1_66) ?_
                  show Steps p.tables e below (s₁.setTop (mkF m 67 #[.val (.int p1)] [(.int (0 : Int32))])) _
                  have hv : (own_F1 p1) = (0 : Int32) := by unfold own_F1; rw [if_pos hc2, if_neg hc14, if_neg hc20, if_pos hc26, if_neg hc38, if_pos hc45, if_pos hc52]
                  rw [hv] at hr
                  exact retN X0 hx (t := .boolean) Bd.returns (by simp) (hb hby d1_67) hr
                · refine XS.icmpNo X0.here hx rfl (hb hby d1_52) rfl (flt hc52).1 ?_
                  show Steps p.tables e below (s₁.setTop (mkF m 55 #[.val (.int p1)] [])) _
                  refine XS.iloadN X0.here hx rfl (hb hby d1_55) rfl ?_
                  show Steps p.tables e below (s₁.setTop (mkF m 56 #[.val (.int p1)] [(.int p1)])) _
                  refine XS.sipush X0.here hx rfl (hb hby d1_56) ?_
                  show Steps p.tables e below (s₁.setTop (mkF m 59 #[.val (.int p1)] [(.int (159 : Int32)), (.int p1)])) _
                  by_cases hc59 : (159 : Int32) < p1
                  · refine XS.icmpYes X0.here hx rfl (pc0 := 59) (pc' := 66) rfl (hb hby d1_59) rfl (tlt hc59).2.2.1 (by decide) (by decide) ?_
                    show Steps p.tables e below (s₁.setTop (mkF m 66 #[.val (.int p1)] [])) _
                    refine XS.iconst X0.here hx rfl (hb hby d1_66) ?_
                    show Steps p.tables e below (s₁.setTop (mkF m 67 #[.val (.int p1)] [(.int (0 : Int32))])) _
                    have hv : (own_F1 p1) = (0 : Int32) := by unfold own_F1; rw [if_pos hc2, if_neg hc14, if_neg hc20, if_pos hc26, if_neg hc38, if_pos hc45, if_neg hc52, if_pos hc59]
                    rw [hv] at hr
                    exact retN X0 hx (t := .boolean) Bd.returns (by simp) (hb hby d1_67) hr
                  · refine XS.icmpNo X0.here hx rfl (hb hby d1_59) rfl (flt hc59).2.2.1 ?_
                    show Steps p.tables e below (s₁.setTop (mkF m 62 #[.val (.int p1)] [])) _
                    refine XS.iconst X0.here hx rfl (hb hby d1_62) ?_
                    show Steps p.tables e below (s₁.setTop (mkF m 63 #[.val (.int p1)] [(.int (1 : Int32))])) _
                    refine XS.goto X0.here hx rfl (pc0 := 63) (pc' := 67) rfl (hb hby d1_63) (by decide) (by decide) ?_
                    show Steps p.tables e below (s₁.setTop (mkF m 67 #[.val (.int p1)] [(.int (1 : Int32))])) _
                    have hv : (own_F1 p1) = (1 : Int32) := by unfold own_F1; rw [if_pos hc2, if_neg hc14, if_neg hc20, if_pos hc26, if_neg hc38, if_pos hc45, if_neg hc52, if_neg hc59]
                    rw [hv] at hr
                    exact retN X0 hx (t := .boolean) Bd.returns (by simp) (hb hby d1_67) hr
              · refine XS.icmpYes X0.here hx rfl (pc0 := 45) (pc' := 62) rfl (hb hby d1_45) rfl (flt hc45).2.2.2 (by decide) (by decide) ?_
                show Steps p.tables e below (s₁.setTop (mkF m 62 #[.val (.int p1)] [])) _
                refine XS.iconst X0.here hx rfl (hb hby d1_62) ?_
                show Steps p.tables e below (s₁.setTop (mkF m 63 #[.val (.int p1)] [(.int (1 : Int32))])) _
                refine XS.goto X0.here hx rfl (pc0 := 63) (pc' := 67) rfl (hb hby d1_63) (by decide) (by decide) ?_
                show Steps p.tables e below (s₁.setTop (mkF m 67 #[.val (.int p1)] [(.int (1 : Int32))])) _
                have hv : (own_F1 p1) = (1 : Int32) := by unfold own_F1; rw [if_pos hc2, if_neg hc14, if_neg hc20, if_pos hc26, if_neg hc38, if_neg hc45]
                rw [hv] at hr
                exact retN X0 hx (t := .boolean) Bd.returns (by simp) (hb hby d1_67) hr
          · refine XS.icmpNo X0.here hx rfl (hb hby d1_26) rfl (flt hc26).1 ?_
            show Steps p.tables e below (s₁.setTop (mkF m 29 #[.val (.int p1)] [])) _
            refine XS.iloadN X0.here hx rfl (hb hby d1_29) rfl ?_
            show Steps p.tables e below (s₁.setTop (mkF m 30 #[.val (.int p1)] [(.int p1)])) _
            refine XS.bipush X0.here hx rfl (hb hby d1_30) ?_
            show Steps p.tables e below (s₁.setTop (mkF m 32 #[.val (.int p1)] [(.int (31 : Int32)), (.int p1)])) _
            by_cases hc32 : (31 : Int32) < p1
            · refine XS.icmpNo X0.here hx rfl (hb hby d1_32) rfl (tlt hc32).2.2.2 ?_
              show Steps p.tables e below (s₁.setTop (mkF m 35 #[.val (.int p1)] [])) _
              refine XS.iloadN X0.here hx rfl (hb hby d1_35) rfl ?_
              show Steps p.tables e below (s₁.setTop (mkF m 36 #[.val (.int p1)] [(.int p1)])) _
              refine XS.bipush X0.here hx rfl (hb hby d1_36) ?_
              show Steps p.tables e below (s₁.setTop (mkF m 38 #[.val (.int p1)] [(.int (127 : Int32)), (.int p1)])) _
              by_cases hc38 : p1 < (127 : Int32)
              · refine XS.icmpYes X0.here hx rfl (pc0 := 38) (pc' := 48) rfl (hb hby d1_38) rfl (tlt hc38).1 (by decide) (by decide) ?_
                show Steps p.tables e below (s₁.setTop (mkF m 48 #[.val (.int p1)] [])) _
                refine XS.iloadN X0.here hx rfl (hb hby d1_48) rfl ?_
                show Steps p.tables e below (s₁.setTop (mkF m 49 #[.val (.int p1)] [(.int p1)])) _
                refine XS.sipush X0.here hx rfl (hb hby d1_49) ?_
                show Steps p.tables e below (s₁.setTop (mkF m 52 #[.val (.int p1)] [(.int (134 : Int32)), (.int p1)])) _
                by_cases hc52 : p1 < (134 : Int32)
                · refine XS.icmpYes X0.here hx rfl (pc0 := 52) (pc' := 66) rfl (hb hby d1_52) rfl (tlt hc52).1 (by decide) (by decide) ?_
                  show Steps p.tables e below (s₁.setTop (mkF m 66 #[.val (.int p1)] [])) _
                  refine XS.iconst X0.here hx rfl (hb hby d1_66) ?_
                  show Steps p.tables e below (s₁.setTop (mkF m 67 #[.val (.int p1)] [(.int (0 : Int32))])) _
                  have hv : (own_F1 p1) = (0 : Int32) := by unfold own_F1; rw [if_pos hc2, if_neg hc14, if_neg hc20, if_neg hc26, if_pos hc32, if_pos hc38, if_pos hc52]
                  rw [hv] at hr
                  exact retN X0 hx (t := .boolean) Bd.returns (by simp) (hb hby d1_67) hr
                · refine XS.icmpNo X0.here hx rfl (hb hby d1_52) rfl (flt hc52).1 ?_
                  show Steps p.tables e below (s₁.setTop (mkF m 55 #[.val (.int p1)] [])) _
                  refine XS.iloadN X0.here hx rfl (hb hby d1_55) rfl ?_
                  show Steps p.tables e below (s₁.setTop (mkF m 56 #[.val (.int p1)] [(.int p1)])) _
                  refine XS.sipush X0.here hx rfl (hb hby d1_56) ?_
                  show Steps p.tables e below (s₁.setTop (mkF m 59 #[.val (.int p1)] [(.int (159 : Int32)), (.int p1)])) _
                  by_cases hc59 : (159 : Int32) < p1
                  · refine XS.icmpYes X0.here hx rfl (pc0 := 59) (pc' := 66) rfl (hb hby d1_59) rfl (tlt hc59).2.2.1 (by decide) (by decide) ?_
                    show Steps p.tables e below (s₁.setTop (mkF m 66 #[.val (.int p1)] [])) _
                    refine XS.iconst X0.here hx rfl (hb hby d1_66) ?_
                    show Steps p.tables e below (s₁.setTop (mkF m 67 #[.val (.int p1)] [(.int (0 : Int32))])) _
                    have hv : (own_F1 p1) = (0 : Int32) := by unfold own_F1; rw [if_pos hc2, if_neg hc14, if_neg hc20, if_neg hc26, if_pos hc32, if_pos hc38, if_neg hc52, if_pos hc59]
                    rw [hv] at hr
                    exact retN X0 hx (t := .boolean) Bd.returns (by simp) (hb hby d1_67) hr
                  · refine XS.icmpNo X0.here hx rfl (hb hby d1_59) rfl (flt hc59).2.2.1 ?_
                    show Steps p.tables e below (s₁.setTop (mkF m 62 #[.val (.int p1)] [])) _
                    refine XS.iconst X0.here hx rfl (hb hby d1_62) ?_
                    show Steps p.tables e below (s₁.setTop (mkF m 63 #[.val (.int p1)] [(.int (1 : Int32))])) _
                    refine XS.goto X0.here hx rfl (pc0 := 63) (pc' := 67) rfl (hb hby d1_63) (by decide) (by decide) ?_
                    show Steps p.tables e below (s₁.setTop (mkF m 67 #[.val (.int p1)] [(.int (1 : Int32))])) _
                    have hv : (own_F1 p1) = (1 : Int32) := by unfold own_F1; rw [if_pos hc2, if_neg hc14, if_neg hc20, if_neg hc26, if_pos hc32, if_pos hc38, if_neg hc52, if_neg hc59]
                    rw [hv] at hr
                    exact retN X0 hx (t := .boolean) Bd.returns (by simp) (hb hby d1_67) hr
              · refine XS.icmpNo X0.here hx rfl (hb hby d1_38) rfl (flt hc38).1 ?_
                show Steps p.tables e below (s₁.setTop (mkF m 41 #[.val (.int p1)] [])) _
                refine XS.iloadN X0.here hx rfl (hb hby d1_41) rfl ?_
                show Steps p.tables e below (s₁.setTop (mkF m 42 #[.val (.int p1)] [(.int p1)])) _
                refine XS.sipush X0.here hx rfl (hb hby d1_42) ?_
                show Steps p.tables e below (s₁.setTop (mkF m 45 #[.val (.int p1)] [(.int (132 : Int32)), (.int p1)])) _
                by_cases hc45 : (132 : Int32) < p1
                · refine XS.icmpNo X0.here hx rfl (hb hby d1_45) rfl (tlt hc45).2.2.2 ?_
                  show Steps p.tables e below (s₁.setTop (mkF m 48 #[.val (.int p1)] [])) _
                  refine XS.iloadN X0.here hx rfl (hb hby d1_48) rfl ?_
                  show Steps p.tables e below (s₁.setTop (mkF m 49 #[.val (.int p1)] [(.int p1)])) _
                  refine XS.sipush X0.here hx rfl (hb hby d1_49) ?_
                  show Steps p.tables e below (s₁.setTop (mkF m 52 #[.val (.int p1)] [(.int (134 : Int32)), (.int p1)])) _
                  by_cases hc52 : p1 < (134 : Int32)
                  · refine XS.icmpYes X0.here hx rfl (pc0 := 52) (pc' := 66) rfl (hb hby d1_52) rfl (tlt hc52).1 (by decide) (by decide) ?_
                    show Steps p.tables e below (s₁.setTop (mkF m 66 #[.val (.int p1)] [])) _
                    refine XS.iconst X0.here hx rfl (hb hby d1_66) ?_
                    show Steps p.tables e below (s₁.setTop (mkF m 67 #[.val (.int p1)] [(.int (0 : Int32))])) _
                    have hv : (own_F1 p1) = (0 : Int32) := by unfold own_F1; rw [if_pos hc2, if_neg hc14, if_neg hc20, if_neg hc26, if_pos hc32, if_neg hc38, if_pos hc45, if_pos hc52]
                    rw [hv] at hr
                    exact retN X0 hx (t := .boolean) Bd.returns (by simp) (hb hby d1_67) hr
                  · refine XS.icmpNo X0.here hx rfl (hb hby d1_52) rfl (flt hc52).1 ?_
                    show Steps p.tables e below (s₁.setTop (mkF m 55 #[.val (.int p1)] [])) _
                    refine XS.iloadN X0.here hx rfl (hb hby d1_55) rfl ?_
                    show Steps p.tables e below (s₁.setTop (mkF m 56 #[.val (.int p1)] [(.int p1)])) _
                    refine XS.sipush X0.here hx rfl (hb hby d1_56) ?_
                    show Steps p.tables e below (s₁.setTop (mkF m 59 #[.val (.int p1)] [(.int (159 : Int32)), (.int p1)])) _
                    by_cases hc59 : (159 : Int32) < p1
                    · refine XS.icmpYes X0.here hx rfl (pc0 := 59) (pc' := 66) rfl (hb hby d1_59) rfl (tlt hc59).2.2.1 (by decide) (by decide) ?_
                      show Steps p.tables e below (s₁.setTop (mkF m 66 #[.val (.int p1)] [])) _
                      refine XS.iconst X0.here hx rfl (hb hby d1_66) ?_
                      show Steps p.tables e below (s₁.setTop (mkF m 67 #[.val (.int p1)] [(.int (0 : Int32))])) _
                      have hv : (own_F1 p1) = (0 : Int32) := by unfold own_F1; rw [if_pos hc2, if_neg hc14, if_neg hc20, if_neg hc26, if_pos hc32, if_neg hc38, if_pos hc45, if_neg hc52, if_pos hc59]
                      rw [hv] at hr
                      exact retN X0 hx (t := .boolean) Bd.returns (by simp) (hb hby d1_67) hr
                    · refine XS.icmpNo X0.here hx rfl (hb hby d1_59) rfl (flt hc59).2.2.1 ?_
                      show Steps p.tables e below (s₁.setTop (mkF m 62 #[.val (.int p1)] [])) _
                      refine XS.iconst X0.here hx rfl (hb hby d1_62) ?_
                      show Steps p.tables e below (s₁.setTop (mkF m 63 #[.val (.int p1)] [(.int (1 : Int32))])) _
                      refine XS.goto X0.here hx rfl (pc0 := 63) (pc' := 67) rfl (hb hby d1_63) (by decide) (by decide) ?_
                      show Steps p.tables e below (s₁.setTop (mkF m 67 #[.val (.int p1)] [(.int (1 : Int32))])) _
                      have hv : (own_F1 p1) = (1 : Int32) := by unfold own_F1; rw [if_pos hc2, if_neg hc14, if_neg hc20, if_neg hc26, if_pos hc32, if_neg hc38, if_pos hc45, if_neg hc52, if_neg hc59]
                      rw [hv] at hr
                      exact retN X0 hx (t := .boolean) Bd.returns (by simp) (hb hby d1_67) hr
                · refine XS.icmpYes X0.here hx rfl (pc0 := 45) (pc' := 62) rfl (hb hby d1_45) rfl (flt hc45).2.2.2 (by decide) (by decide) ?_
                  show Steps p.tables e below (s₁.setTop (mkF m 62 #[.val (.int p1)] [])) _
                  refine XS.iconst X0.here hx rfl (hb hby d1_62) ?_
                  show Steps p.tables e below (s₁.setTop (mkF m 63 #[.val (.int p1)] [(.int (1 : Int32))])) _
                  refine XS.goto X0.here hx rfl (pc0 := 63) (pc' := 67) rfl (hb hby d1_63) (by decide) (by decide) ?_
                  show Steps p.tables e below (s₁.setTop (mkF m 67 #[.val (.int p1)] [(.int (1 : Int32))])) _
                  have hv : (own_F1 p1) = (1 : Int32) := by unfold own_F1; rw [if_pos hc2, if_neg hc14, if_neg hc20, if_neg hc26, if_pos hc32, if_neg hc38, if_neg hc45]
                  rw [hv] at hr
                  exact retN X0 hx (t := .boolean) Bd.returns (by simp) (hb hby d1_67) hr
            · refine XS.icmpYes X0.here hx rfl (pc0 := 32) (pc' := 62) rfl (hb hby d1_32) rfl (flt hc32).2.2.2 (by decide) (by decide) ?_
              show Steps p.tables e below (s₁.setTop (mkF m 62 #[.val (.int p1)] [])) _
              refine XS.iconst X0.here hx rfl (hb hby d1_62) ?_
              show Steps p.tables e below (s₁.setTop (mkF m 63 #[.val (.int p1)] [(.int (1 : Int32))])) _
              refine XS.goto X0.here hx rfl (pc0 := 63) (pc' := 67) rfl (hb hby d1_63) (by decide) (by decide) ?_
              show Steps p.tables e below (s₁.setTop (mkF m 67 #[.val (.int p1)] [(.int (1 : Int32))])) _
              have hv : (own_F1 p1) = (1 : Int32) := by unfold own_F1; rw [if_pos hc2, if_neg hc14, if_neg hc20, if_neg hc26, if_neg hc32]
              rw [hv] at hr
              exact retN X0 hx (t := .boolean) Bd.returns (by simp) (hb hby d1_67) hr
    · refine XS.icmpNo X0.here hx rfl (hb hby d1_2) rfl (flt hc2).1 ?_
      show Steps p.tables e below (s₁.setTop (mkF m 5 #[.val (.int p1)] [])) _
      refine XS.iloadN X0.here hx rfl (hb hby d1_5) rfl ?_
      show Steps p.tables e below (s₁.setTop (mkF m 6 #[.val (.int p1)] [(.int p1)])) _
      refine XS.bipush X0.here hx rfl (hb hby d1_6) ?_
      show Steps p.tables e below (s₁.setTop (mkF m 8 #[.val (.int p1)] [(.int (8 : Int32)), (.int p1)])) _
      by_cases hc8 : (8 : Int32) < p1
      · refine XS.icmpNo X0.here hx rfl (hb hby d1_8) rfl (tlt hc8).2.2.2 ?_
        show Steps p.tables e below (s₁.setTop (mkF m 11 #[.val (.int p1)] [])) _
        refine XS.iloadN X0.here hx rfl (hb hby d1_11) rfl ?_
        show Steps p.tables e below (s₁.setTop (mkF m 12 #[.val (.int p1)] [(.int p1)])) _
        refine XS.bipush X0.here hx rfl (hb hby d1_12) ?_
        show Steps p.tables e below (s₁.setTop (mkF m 14 #[.val (.int p1)] [(.int (11 : Int32)), (.int p1)])) _
        by_cases hc14 : p1 = (11 : Int32)
        · refine XS.icmpYes X0.here hx rfl (pc0 := 14) (pc' := 62) rfl (hb hby d1_14) rfl (teq hc14).1 (by decide) (by decide) ?_
          show Steps p.tables e below (s₁.setTop (mkF m 62 #[.val (.int p1)] [])) _
          refine XS.iconst X0.here hx rfl (hb hby d1_62) ?_
          show Steps p.tables e below (s₁.setTop (mkF m 63 #[.val (.int p1)] [(.int (1 : Int32))])) _
          refine XS.goto X0.here hx rfl (pc0 := 63) (pc' := 67) rfl (hb hby d1_63) (by decide) (by decide) ?_
          show Steps p.tables e below (s₁.setTop (mkF m 67 #[.val (.int p1)] [(.int (1 : Int32))])) _
          have hv : (own_F1 p1) = (1 : Int32) := by unfold own_F1; rw [if_neg hc2, if_pos hc8, if_pos hc14]
          rw [hv] at hr
          exact retN X0 hx (t := .boolean) Bd.returns (by simp) (hb hby d1_67) hr
        · refine XS.icmpNo X0.here hx rfl (hb hby d1_14) rfl (feq hc14).1 ?_
          show Steps p.tables e below (s₁.setTop (mkF m 17 #[.val (.int p1)] [])) _
          refine XS.iloadN X0.here hx rfl (hb hby d1_17) rfl ?_
          show Steps p.tables e below (s₁.setTop (mkF m 18 #[.val (.int p1)] [(.int p1)])) _
          refine XS.bipush X0.here hx rfl (hb hby d1_18) ?_
          show Steps p.tables e below (s₁.setTop (mkF m 20 #[.val (.int p1)] [(.int (12 : Int32)), (.int p1)])) _
          by_cases hc20 : p1 = (12 : Int32)
          · refine XS.icmpYes X0.here hx rfl (pc0 := 20) (pc' := 62) rfl (hb hby d1_20) rfl (teq hc20).1 (by decide) (by decide) ?_
            show Steps p.tables e below (s₁.setTop (mkF m 62 #[.val (.int p1)] [])) _
            refine XS.iconst X0.here hx rfl (hb hby d1_62) ?_
            show Steps p.tables e below (s₁.setTop (mkF m 63 #[.val (.int p1)] [(.int (1 : Int32))])) _
            refine XS.goto X0.here hx rfl (pc0 := 63) (pc' := 67) rfl (hb hby d1_63) (by decide) (by decide) ?_
            show Steps p.tables e below (s₁.setTop (mkF m 67 #[.val (.int p1)] [(.int (1 : Int32))])) _
            have hv : (own_F1 p1) = (1 : Int32) := by unfold own_F1; rw [if_neg hc2, if_pos hc8, if_neg hc14, if_pos hc20]
            rw [hv] at hr
            exact retN X0 hx (t := .boolean) Bd.returns (by simp) (hb hby d1_67) hr
          · refine XS.icmpNo X0.here hx rfl (hb hby d1_20) rfl (feq hc20).1 ?_
            show Steps p.tables e below (s₁.setTop (mkF m 23 #[.val (.int p1)] [])) _
            refine XS.iloadN X0.here hx rfl (hb hby d1_23) rfl ?_
            show Steps p.tables e below (s₁.setTop (mkF m 24 #[.val (.int p1)] [(.int p1)])) _
            refine XS.bipush X0.here hx rfl (hb hby d1_24) ?_
            show Steps p.tables e below (s₁.setTop (mkF m 26 #[.val (.int p1)] [(.int (14 : Int32)), (.int p1)])) _
            by_cases hc26 : p1 < (14 : Int32)
            · refine XS.icmpYes X0.here hx rfl (pc0 := 26) (pc' := 35) rfl (hb hby d1_26) rfl (tlt hc26).1 (by decide) (by decide) ?_
              show Steps p.tables e below (s₁.setTop (mkF m 35 #[.val (.int p1)] [])) _
              refine XS.iloadN X0.here hx rfl (hb hby d1_35) rfl ?_
              show Steps p.tables e below (s₁.setTop (mkF m 36 #[.val (.int p1)] [(.int p1)])) _
              refine XS.bipush X0.here hx rfl (hb hby d1_36) ?_
              show Steps p.tables e below (s₁.setTop (mkF m 38 #[.val (.int p1)] [(.int (127 : Int32)), (.int p1)])) _
              by_cases hc38 : p1 < (127 : Int32)
              · refine XS.icmpYes X0.here hx rfl (pc0 := 38) (pc' := 48) rfl (hb hby d1_38) rfl (tlt hc38).1 (by decide) (by decide) ?_
                show Steps p.tables e below (s₁.setTop (mkF m 48 #[.val (.int p1)] [])) _
                refine XS.iloadN X0.here hx rfl (hb hby d1_48) rfl ?_
                show Steps p.tables e below (s₁.setTop (mkF m 49 #[.val (.int p1)] [(.int p1)])) _
                refine XS.sipush X0.here hx rfl (hb hby d1_49) ?_
                show Steps p.tables e below (s₁.setTop (mkF m 52 #[.val (.int p1)] [(.int (134 : Int32)), (.int p1)])) _
                by_cases hc52 : p1 < (134 : Int32)
                · refine XS.icmpYes X0.here hx rfl (pc0 := 52) (pc' := 66) rfl (hb hby d1_52) rfl (tlt hc52).1 (by decide) (by decide) ?_
                  show Steps p.tables e below (s₁.setTop (mkF m 66 #[.val (.int p1)] [])) _
                  refine XS.iconst X0.here hx rfl (hb hby d1_66) ?_
                  show Steps p.tables e below (s₁.setTop (mkF m 67 #[.val (.int p1)] [(.int (0 : Int32))])) _
                  have hv : (own_F1 p1) = (0 : Int32) := by unfold own_F1; rw [if_neg hc2, if_pos hc8, if_neg hc14, if_neg hc20, if_pos hc26, if_pos hc38, if_pos hc52]
                  rw [hv] at hr
                  exact retN X0 hx (t := .boolean) Bd.returns (by simp) (hb hby d1_67) hr
                · refine XS.icmpNo X0.here hx rfl (hb hby d1_52) rfl (flt hc52).1 ?_
                  show Steps p.tables e below (s₁.setTop (mkF m 55 #[.val (.int p1)] [])) _
                  refine XS.iloadN X0.here hx rfl (hb hby d1_55) rfl ?_
                  show Steps p.tables e below (s₁.setTop (mkF m 56 #[.val (.int p1)] [(.int p1)])) _
                  refine XS.sipush X0.here hx rfl (hb hby d1_56) ?_
                  show Steps p.tables e below (s₁.setTop (mkF m 59 #[.val (.int p1)] [(.int (159 : Int32)), (.int p1)])) _
                  by_cases hc59 : (159 : Int32) < p1
                  · refine XS.icmpYes X0.here hx rfl (pc0 := 59) (pc' := 66) rfl (hb hby d1_59) rfl (tlt hc59).2.2.1 (by decide) (by decide) ?_
                    show Steps p.tables e below (s₁.setTop (mkF m 66 #[.val (.int p1)] [])) _
                    refine XS.iconst X0.here hx rfl (hb hby d1_66) ?_
                    show Steps p.tables e below (s₁.setTop (mkF m 67 #[.val (.int p1)] [(.int (0 : Int32))])) _
                    have hv : (own_F1 p1) = (0 : Int32) := by unfold own_F1; rw [if_neg hc2, if_pos hc8, if_neg hc14, if_neg hc20, if_pos hc26, if_pos hc38, if_neg hc52, if_pos hc59]
                    rw [hv] at hr
                    exact retN X0 hx (t := .boolean) Bd.returns (by simp) (hb hby d1_67) hr
                  · refine XS.icmpNo X0.here hx rfl (hb hby d1_59) rfl (flt hc59).2.2.1 ?_
                    show Steps p.tables e below (s₁.setTop (mkF m 62 #[.val (.int p1)] [])) _
                    refine XS.iconst X0.here hx rfl (hb hby d1_62) ?_
                    show Steps p.tables e below (s₁.setTop (mkF m 63 #[.val (.int p1)] [(.int (1 : Int32))])) _
                    refine XS.goto X0.here hx rfl (pc0 := 63) (pc' := 67) rfl (hb hby d1_63) (by decide) (by decide) ?_
                    show Steps p.tables e below (s₁.setTop (mkF m 67 #[.val (.int p1)] [(.int (1 : Int32))])) _
                    have hv : (own_F1 p1) = (1 : Int32) := by unfold own_F1; rw [if_neg hc2, if_pos hc8, if_neg hc14, if_neg hc20, if_pos hc26, if_pos hc38, if_neg hc52, if_neg hc59]
                    rw [hv] at hr
                    exact retN X0 hx (t := .boolean) Bd.returns (by simp) (hb hby d1_67) hr
              · refine XS.icmpNo X0.here hx rfl (hb hby d1_38) rfl (flt hc38).1 ?_
                show Steps p.tables e below (s₁.setTop (mkF m 41 #[.val (.int p1)] [])) _
                refine XS.iloadN X0.here hx rfl (hb hby d1_41) rfl ?_
                show Steps p.tables e below (s₁.setTop (mkF m 42 #[.val (.int p1)] [(.int p1)])) _
                refine XS.sipush X0.here hx rfl (hb hby d1_42) ?_
                show Steps p.tables e below (s₁.setTop (mkF m 45 #[.val (.int p1)] [(.int (132 : Int32)), (.int p1)])) _
                by_cases hc45 : (132 : Int32) < p1
                · refine XS.icmpNo X0.here hx rfl (hb hby d1_45) rfl (tlt hc45).2.2.2 ?_
                  show Steps p.tables e below (s₁.setTop (mkF m 48 #[.val (.int p1)] [])) _
                  refine XS.iloadN X0.here hx rfl (hb hby d1_48) rfl ?_
                  show Steps p.tables e below (s₁.setTop (mkF m 49 #[.val (.int p1)] [(.int p1)])) _
                  refine XS.sipush X0.here hx rfl (hb hby d1_49) ?_
                  show Steps p.tables e below (s₁.setTop (mkF m 52 #[.val (.int p1)] [(.int (134 : Int32)), (.int p1)])) _
                  by_cases hc52 : p1 < (134 : Int32)
                  · refine XS.icmpYes X0.here hx rfl (pc0 := 52) (pc' := 66) rfl (hb hby d1_52) rfl (tlt hc52).1 (by decide) (by decide) ?_
                    show Steps p.tables e below (s₁.setTop (mkF m 66 #[.val (.int p1)] [])) _
                    refine XS.iconst X0.here hx rfl (hb hby d1_66) ?_
                    show Steps p.tables e below (s₁.setTop (mkF m 67 #[.val (.int p1)] [(.int (0 : Int32))])) _
                    have hv : (own_F1 p1) = (0 : Int32) := by unfold own_F1; rw [if_neg hc2, if_pos hc8, if_neg hc14, if_neg hc20, if_pos hc26, if_neg hc38, if_pos hc45, if_pos hc52]
                    rw [hv] at hr
                    exact retN X0 hx (t := .boolean) Bd.returns (by simp) (hb hby d1_67) hr
                  · refine XS.icmpNo X0.here hx rfl (hb hby d1_52) rfl (flt hc52).1 ?_
                    show Steps p.tables e below (s₁.setTop (mkF m 55 #[.val (.int p1)] [])) _
                    refine XS.iloadN X0.here hx rfl (hb hby d1_55) rfl ?_
                    show Steps p.tables e below (s₁.setTop (mkF m 56 #[.val (.int p1)] [(.int p1)])) _
                    refine XS.sipush X0.here hx rfl (hb hby d1_56) ?_
                    show Steps p.tables e below (s₁.setTop (mkF m 59 #[.val (.int p1)] [(.int (159 : Int32)), (.int p1)])) _
                    by_cases hc59 : (159 : Int32) < p1
                    · refine XS.icmpYes X0.here hx rfl (pc0 := 59) (pc' := 66) rfl (hb hby d1_59) rfl (tlt hc59).2.2.1 (by decide) (by decide) ?_
                      show Steps p.tables e below (s₁.setTop (mkF m 66 #[.val (.int p1)] [])) _
                      refine XS.iconst X0.here hx rfl (hb hby d1_66) ?_
                      show Steps p.tables e below (s₁.setTop (mkF m 67 #[.val (.int p1)] [(.int (0 : Int32))])) _
                      have hv : (own_F1 p1) = (0 : Int32) := by unfold own_F1; rw [if_neg hc2, if_pos hc8, if_neg hc14, if_neg hc20, if_pos hc26, if_neg hc38, if_pos hc45, if_neg hc52, if_pos hc59]
                      rw [hv] at hr
                      exact retN X0 hx (t := .boolean) Bd.returns (by simp) (hb hby d1_67) hr
                    · refine XS.icmpNo X0.here hx rfl (hb hby d1_59) rfl (flt hc59).2.2.1 ?_
                      show Steps p.tables e below (s₁.setTop (mkF m 62 #[.val (.int p1)] [])) _
                      refine XS.iconst X0.here hx rfl (hb hby d1_62) ?_
                      show Steps p.tables e below (s₁.setTop (mkF m 63 #[.val (.int p1)] [(.int (1 : Int32))])) _
                      refine XS.goto X0.here hx rfl (pc0 := 63) (pc' := 67) rfl (hb hby d1_63) (by decide) (by decide) ?_
                      show Steps p.tables e below (s₁.setTop (mkF m 67 #[.val (.int p1)] [(.int (1 : Int32))])) _
                      have hv : (own_F1 p1) = (1 : Int32) := by unfold own_F1; rw [if_neg hc2, if_pos hc8, if_neg hc14, if_neg hc20, if_pos hc26, if_neg hc38, if_pos hc45, if_neg hc52, if_neg hc59]
                      rw [hv] at hr
                      exact retN X0 hx (t := .boolean) Bd.returns (by simp) (hb hby d1_67) hr
                · refine XS.icmpYes X0.here hx rfl (pc0 := 45) (pc' := 62) rfl (hb hby d1_45) rfl (flt hc45).2.2.2 (by decide) (by decide) ?_
                  show Steps p.tables e below (s₁.setTop (mkF m 62 #[.val (.int p1)] [])) _
                  refine XS.iconst X0.here hx rfl (hb hby d1_62) ?_
                  show Steps p.tables e below (s₁.setTop (mkF m 63 #[.val (.int p1)] [(.int (1 : Int32))])) _
                  refine XS.goto X0.here hx rfl (pc0 := 63) (pc' := 67) rfl (hb hby d1_63) (by decide) (by decide) ?_
                  show Steps p.tables e below (s₁.setTop (mkF m 67 #[.val (.int p1)] [(.int (1 : Int32))])) _
                  have hv : (own_F1 p1) = (1 : Int32) := by unfold own_F1; rw [if_neg hc2, if_pos hc8, if_neg hc14, if_neg hc20, if_pos hc26, if_neg hc38, if_neg hc45]
                  rw [hv] at hr
                  exact retN X0 hx (t := .boolean) Bd.returns (by simp) (hb hby d1_67) hr
            · refine XS.icmpNo X0.here hx rfl (hb hby d1_26) rfl (flt hc26).1 ?_
              show Steps p.tables e below (s₁.setTop (mkF m 29 #[.val (.int p1)] [])) _
              refine XS.iloadN X0.here hx rfl (hb hby d1_29) rfl ?_
              show Steps p.tables e below (s₁.setTop (mkF m 30 #[.val (.int p1)] [(.int p1)])) _
              refine XS.bipush X0.here hx rfl (hb hby d1_30) ?_
              show Steps p.tables e below (s₁.setTop (mkF m 32 #[.val (.int p1)] [(.int (31 : Int32)), (.int p1)])) _
              by_cases hc32 : (31 : Int32) < p1
              · refine XS.icmpNo X0.here hx rfl (hb hby d1_32) rfl (tlt hc32).2.2.2 ?_
                show Steps p.tables e below (s₁.setTop (mkF m 35 #[.val (.int p1)] [])) _
                refine XS.iloadN X0.here hx rfl (hb hby d1_35) rfl ?_
                show Steps p.tables e below (s₁.setTop (mkF m 36 #[.val (.int p1)] [(.int p1)])) _
                refine XS.bipush X0.here hx rfl (hb hby d1_36) ?_
                show Steps p.tables e below (s₁.setTop (mkF m 38 #[.val (.int p1)] [(.int (127 : Int32)), (.int p1)])) _
                by_cases hc38 : p1 < (127 : Int32)
                · refine XS.icmpYes X0.here hx rfl (pc0 := 38) (pc' := 48) rfl (hb hby d1_38) rfl (tlt hc38).1 (by decide) (by decide) ?_
                  show Steps p.tables e below (s₁.setTop (mkF m 48 #[.val (.int p1)] [])) _
                  refine XS.iloadN X0.here hx rfl (hb hby d1_48) rfl ?_
                  show Steps p.tables e below (s₁.setTop (mkF m 49 #[.val (.int p1)] [(.int p1)])) _
                  refine XS.sipush X0.here hx rfl (hb hby d1_49) ?_
                  show Steps p.tables e below (s₁.setTop (mkF m 52 #[.val (.int p1)] [(.int (134 : Int32)), (.int p1)])) _
                  by_cases hc52 : p1 < (134 : Int32)
                  · refine XS.icmpYes X0.here hx rfl (pc0 := 52) (pc' := 66) rfl (hb hby d1_52) rfl (tlt hc52).1 (by decide) (by decide) ?_
                    show Steps p.tables e below (s₁.setTop (mkF m 66 #[.val (.int p1)] [])) _
                    refine XS.iconst X0.here hx rfl (hb hby d1_66) ?_
                    show Steps p.tables e below (s₁.setTop (mkF m 67 #[.val (.int p1)] [(.int (0 : Int32))])) _
                    have hv : (own_F1 p1) = (0 : Int32) := by unfold own_F1; rw [if_neg hc2, if_pos hc8, if_neg hc14, if_neg hc20, if_neg hc26, if_pos hc32, if_pos hc38, if_pos hc52]
                    rw [hv] at hr
                    exact retN X0 hx (t := .boolean) Bd.returns (by simp) (hb hby d1_67) hr
                  · refine XS.icmpNo X0.here hx rfl (hb hby d1_52) rfl (flt hc52).1 ?_
                    show Steps p.tables e below (s₁.setTop (mkF m 55 #[.val (.int p1)] [])) _
                    refine XS.iloadN X0.here hx rfl (hb hby d1_55) rfl ?_
                    show Steps p.tables e below (s₁.setTop (mkF m 56 #[.val (.int p1)] [(.int p1)])) _
                    refine XS.sipush X0.here hx rfl (hb hby d1_56) ?_
                    show Steps p.tables e below (s₁.setTop (mkF m 59 #[.val (.int p1)] [(.int (159 : Int32)), (.int p1)])) _
                    by_cases hc59 : (159 : Int32) < p1
                    · refine XS.icmpYes X0.here hx rfl (pc0 := 59) (pc' := 66) rfl (hb hby d1_59) rfl (tlt hc59).2.2.1 (by decide) (by decide) ?_
                      show Steps p.tables e below (s₁.setTop (mkF m 66 #[.val (.int p1)] [])) _
                      refine XS.iconst X0.here hx rfl (hb hby d1_66) ?_
                      show Steps p.tables e below (s₁.setTop (mkF m 67 #[.val (.int p1)] [(.int (0 : Int32))])) _
                      have hv : (own_F1 p1) = (0 : Int32) := by unfold own_F1; rw [if_neg hc2, if_pos hc8, if_neg hc14, if_neg hc20, if_neg hc26, if_pos hc32, if_pos hc38, if_neg hc52, if_pos hc59]
                      rw [hv] at hr
                      exact retN X0 hx (t := .boolean) Bd.returns (by simp) (hb hby d1_67) hr
                    · refine XS.icmpNo X0.here hx rfl (hb hby d1_59) rfl (flt hc59).2.2.1 ?_
                      show Steps p.tables e below (s₁.setTop (mkF m 62 #[.val (.int p1)] [])) _
                      refine XS.iconst X0.here hx rfl (hb hby d1_62) ?_
                      show Steps p.tables e below (s₁.setTop (mkF m 63 #[.val (.int p1)] [(.int (1 : Int32))])) _
                      refine XS.goto X0.here hx rfl (pc0 := 63) (pc' := 67) rfl (hb hby d1_63) (by decide) (by decide) ?_
                      show Steps p.tables e below (s₁.setTop (mkF m 67 #[.val (.int p1)] [(.int (1 : Int32))])) _
                      have hv : (own_F1 p1) = (1 : Int32) := by unfold own_F1; rw [if_neg hc2, if_pos hc8, if_neg hc14, if_neg hc20, if_neg hc26, if_pos hc32, if_pos hc38, if_neg hc52, if_neg hc59]
                      rw [hv] at hr
                      exact retN X0 hx (t := .boolean) Bd.returns (by simp) (hb hby d1_67) hr
                · refine XS.icmpNo X0.here hx rfl (hb hby d1_38) rfl (flt hc38).1 ?_
                  show Steps p.tables e below (s₁.setTop (mkF m 41 #[.val (.int p1)] [])) _
                  refine XS.iloadN X0.here hx rfl (hb hby d1_41) rfl ?_
                  show Steps p.tables e below (s₁.setTop (mkF m 42 #[.val (.int p1)] [(.int p1)])) _
                  refine XS.sipush X0.here hx rfl (hb hby d1_42) ?_
                  show Steps p.tables e below (s₁.setTop (mkF m 45 #[.val (.int p1)] [(.int (132 : Int32)), (.int p1)])) _
                  by_cases hc45 : (132 : Int32) < p1
                  · refine XS.icmpNo X0.here hx rfl (hb hby d1_45) rfl (tlt hc45).2.2.2 ?_
                    show Steps p.tables e below (s₁.setTop (mkF m 48 #[.val (.int p1)] [])) _
                    refine XS.iloadN X0.here hx rfl (hb hby d1_48) rfl ?_
                    show Steps p.tables e below (s₁.setTop (mkF m 49 #[.val (.int p1)] [(.int p1)])) _
                    refine XS.sipush X0.here hx rfl (hb hby d1_49) ?_
                    show Steps p.tables e below (s₁.setTop (mkF m 52 #[.val (.int p1)] [(.int (134 : Int32)), (.int p1)])) _
                    by_cases hc52 : p1 < (134 : Int32)
                    · refine XS.icmpYes X0.here hx rfl (pc0 := 52) (pc' := 66) rfl (hb hby d1_52) rfl (tlt hc52).1 (by decide) (by decide) ?_
                      show Steps p.tables e below (s₁.setTop (mkF m 66 #[.val (.int p1)] [])) _
                      refine XS.iconst X0.here hx rfl (hb hby d1_66) ?_
                      show Steps p.tables e below (s₁.setTop (mkF m 67 #[.val (.int p1)] [(.int (0 : Int32))])) _
                      have hv : (own_F1 p1) = (0 : Int32) := by unfold own_F1; rw [if_neg hc2, if_pos hc8, if_neg hc14, if_neg hc20, if_neg hc26, if_pos hc32, if_neg hc38, if_pos hc45, if_pos hc52]
                      rw [hv] at hr
                      exact retN X0 hx (t := .boolean) Bd.returns (by simp) (hb hby d1_67) hr
                    · refine XS.icmpNo X0.here hx rfl (hb hby d1_52) rfl (flt hc52).1 ?_
                      show Steps p.tables e below (s₁.setTop (mkF m 55 #[.val (.int p1)] [])) _
                      refine XS.iloadN X0.here hx rfl (hb hby d1_55) rfl ?_
                      show Steps p.tables e below (s₁.setTop (mkF m 56 #[.val (.int p1)] [(.int p1)])) _
                      refine XS.sipush X0.here hx rfl (hb hby d1_56) ?_
                      show Steps p.tables e below (s₁.setTop (mkF m 59 #[.val (.int p1)] [(.int (159 : Int32)), (.int p1)])) _
                      by_cases hc59 : (159 : Int32) < p1
                      · refine XS.icmpYes X0.here hx rfl (pc0 := 59) (pc' := 66) rfl (hb hby d1_59) rfl (tlt hc59).2.2.1 (by decide) (by decide) ?_
                        show Steps p.tables e below (s₁.setTop (mkF m 66 #[.val (.int p1)] [])) _
                        refine XS.iconst X0.here hx rfl (hb hby d1_66) ?_
                        show Steps p.tables e below (s₁.setTop (mkF m 67 #[.val (.int p1)] [(.int (0 : Int32))])) _
                        have hv : (own_F1 p1) = (0 : Int32) := by unfold own_F1; rw [if_neg hc2, if_pos hc8, if_neg hc14, if_neg hc20, if_neg hc26, if_pos hc32, if_neg hc38, if_pos hc45, if_neg hc52, if_pos hc59]
                        rw [hv] at hr
                        exact retN X0 hx (t := .boolean) Bd.returns (by simp) (hb hby d1_67) hr
                      · refine XS.icmpNo X0.here hx rfl (hb hby d1_59) rfl (flt hc59).2.2.1 ?_
                        show Steps p.tables e below (s₁.setTop (mkF m 62 #[.val (.int p1)] [])) _
                        refine XS.iconst X0.here hx rfl (hb hby d1_62) ?_
                        show Steps p.tables e below (s₁.setTop (mkF m 63 #[.val (.int p1)] [(.int (1 : Int32))])) _
                        refine XS.goto X0.here hx rfl (pc0 := 63) (pc' := 67) rfl (hb hby d1_63) (by decide) (by decide) ?_
                        show Steps p.tables e below (s₁.setTop (mkF m 67 #[.val (.int p1)] [(.int (1 : Int32))])) _
                        have hv : (own_F1 p1) = (1 : Int32) := by unfold own_F1; rw [if_neg hc2, if_pos hc8, if_neg hc14, if_neg hc20, if_neg hc26, if_pos hc32, if_neg hc38, if_pos hc45, if_neg hc52, if_neg hc59]
                        rw [hv] at hr
                        exact retN X0 hx (t := .boolean) Bd.returns (by simp) (hb hby d1_67) hr
                  · refine XS.icmpYes X0.here hx rfl (pc0 := 45) (pc' := 62) rfl (hb hby d1_45) rfl (flt hc45).2.2.2 (by decide) (by decide) ?_
                    show Steps p.tables e below (s₁.setTop (mkF m 62 #[.val (.int p1)] [])) _
                    refine XS.iconst X0.here hx rfl (hb hby d1_62) ?_
                    show Steps p.tables e below (s₁.setTop (mkF m 63 #[.val (.int p1)] [(.int (1 : Int32))])) _
                    refine XS.goto X0.here hx rfl (pc0 := 63) (pc' := 67) rfl (hb hby d1_63) (by decide) (by decide) ?_
                    show Steps p.tables e below (s₁.setTop (mkF m 67 #[.val (.int p1)] [(.int (1 : Int32))])) _
                    have hv : (own_F1 p1) = (1 : Int32) := by unfold own_F1; rw [if_neg hc2, if_pos hc8, if_neg hc14, if_neg hc20, if_neg hc26, if_pos hc32, if_neg hc38, if_neg hc45]
                    rw [hv] at hr
                    exact retN X0 hx (t := .boolean) Bd.returns (by simp) (hb hby d1_67) hr
              · refine XS.icmpYes X0.here hx rfl (pc0 := 32) (pc' := 62) rfl (hb hby d1_32) rfl (flt hc32).2.2.2 (by decide) (by decide) ?_
                show Steps p.tables e below (s₁.setTop (mkF m 62 #[.val (.int p1)] [])) _
                refine XS.iconst X0.here hx rfl (hb hby d1_62) ?_
                show Steps p.tables e below (s₁.setTop (mkF m 63 #[.val (.int p1)] [(.int (1 : Int32))])) _
                refine XS.goto X0.here hx rfl (pc0 := 63) (pc' := 67) rfl (hb hby d1_63) (by decide) (by decide) ?_
                show Steps p.tables e below (s₁.setTop (mkF m 67 #[.val (.int p1)] [(.int (1 : Int32))])) _
                have hv : (own_F1 p1) = (1 : Int32) := by unfold own_F1; rw [if_neg hc2, if_pos hc8, if_neg hc14, if_neg hc20, if_neg hc26, if_neg hc32]
                rw [hv] at hr
                exact retN X0 hx (t := .boolean) Bd.returns (by simp) (hb hby d1_67) hr
      · refine XS.icmpYes X0.here hx rfl (pc0 := 8) (pc' := 62) rfl (hb hby d1_8) rfl (flt hc8).2.2.2 (by decide) (by decide) ?_
        show Steps p.tables e below (s₁.setTop (mkF m 62 #[.val (.int p1)] [])) _
        refine XS.iconst X0.here hx rfl (hb hby d1_62) ?_
        show Steps p.tables e below (s₁.setTop (mkF m 63 #[.val (.int p1)] [(.int (1 : Int32))])) _
        refine XS.goto X0.here hx rfl (pc0 := 63) (pc' := 67) rfl (hb hby d1_63) (by decide) (by decide) ?_
        show Steps p.tables e below (s₁.setTop (mkF m 67 #[.val (.int p1)] [(.int (1 : Int32))])) _
        have hv : (own_F1 p1) = (1 : Int32) := by unfold own_F1; rw [if_neg hc2, if_neg hc8]
        rw [hv] at hr
        exact retN X0 hx (t := .boolean) Bd.returns (by simp) (hb hby d1_67) hr
  · show Q1 Z p1 h0 n0 _ s₁.heap _
    rw [e0]
    exact ⟨rfl, N0, rfl⟩
def own_S1 (i0 : Int32) (i1 : Int32) : Int32 := if (i1 &&& (1 : Int32)) = (0 : Int32) then i0 else (i0 &&& (255 : Int32))
set_option maxRecDepth 65536 in
set_option maxHeartbeats 40000000 in
theorem own_seg1 {p : Program} {l : Launch} {e : Env} {R : Room} {s : State} {m : MethodId} {args : Array Value} {below : List Frame} {meth : Method} {c : Code} {T0 : State} {locs : List Loc} {cells slots : Nat} {Z : State} {a0 : Array Value} (i0 : Int32) (i1 : Int32) (X0 : Stand p l e R s m args below meth c T0 locs cells slots) (hx : p.tables.exec = Jvm.exec) (hZ : Z.Warmed39 s.vm) (hw : ∀ d ∈ tables_1, d.before a0 Z = true) (hby : c.code = code) (hown : s.vm.findClass "com/example/tracewell/tracewell/XmlSyntaxIsRestricted11PinLaw" = some m.cls) {target : State} (kt : Steps p.tables e below (T0.setTop (mkF m 16 #[.val (.int i0), .val (.int i1), .val (.int (own_S1 i0 i1)), .unset, .unset] [])) target) :
    Steps p.tables e below (T0.setTop (mkF m 0 #[.val (.int i0), .val (.int i1), .unset, .unset, .unset] [])) target := by
  show Steps p.tables e below (T0.setTop (mkF m 0 #[.val (.int i0), .val (.int i1), .unset, .unset, .unset] [])) _
  refine XS.iloadN X0.here hx rfl (hb hby at_0) rfl ?_
  show Steps p.tables e below (T0.setTop (mkF m 1 #[.val (.int i0), .val (.int i1), .unset, .unset, .unset] [(.int i1)])) _
  refine XS.iconst X0.here hx rfl (hb hby at_1) ?_
  show Steps p.tables e below (T0.setTop (mkF m 2 #[.val (.int i0), .val (.int i1), .unset, .unset, .unset] [(.int (1 : Int32)), (.int i1)])) _
  refine XS.iand X0.here hx rfl (hb hby at_2) rfl ?_
  show Steps p.tables e below (T0.setTop (mkF m 3 #[.val (.int i0), .val (.int i1), .unset, .unset, .unset] [(.int (i1 &&& (1 : Int32)))])) _
  by_cases hc3 : (i1 &&& (1 : Int32)) = (0 : Int32)
  · refine XS.ifYes X0.here hx rfl (pc0 := 3) (pc' := 14) rfl (hb hby at_3) rfl ((if0 _ _).trans (teq hc3).1) (by decide) (by decide) ?_
    show Steps p.tables e below (T0.setTop (mkF m 14 #[.val (.int i0), .val (.int i1), .unset, .unset, .unset] [])) _
    refine XS.iloadN X0.here hx rfl (hb hby at_14) rfl ?_
    show Steps p.tables e below (T0.setTop (mkF m 15 #[.val (.int i0), .val (.int i1), .unset, .unset, .unset] [(.int i0)])) _
    refine XS.istoreN X0.here hx rfl (hb hby at_15) rfl (l' := #[.val (.int i0), .val (.int i1), .val (.int i0), .unset, .unset]) rfl ?_
    show Steps p.tables e below (T0.setTop (mkF m 16 #[.val (.int i0), .val (.int i1), .val (.int i0), .unset, .unset] [])) _
    have hv : (own_S1 i0 i1) = i0 := by unfold own_S1; rw [if_pos hc3]
    rw [hv] at kt
    exact kt
  · refine XS.ifNo X0.here hx rfl (hb hby at_3) rfl ((if0 _ _).trans (feq hc3).1) ?_
    show Steps p.tables e below (T0.setTop (mkF m 6 #[.val (.int i0), .val (.int i1), .unset, .unset, .unset] [])) _
    refine XS.iloadN X0.here hx rfl (hb hby at_6) rfl ?_
    show Steps p.tables e below (T0.setTop (mkF m 7 #[.val (.int i0), .val (.int i1), .unset, .unset, .unset] [(.int i0)])) _
    refine XS.sipush X0.here hx rfl (hb hby at_7) ?_
    show Steps p.tables e below (T0.setTop (mkF m 10 #[.val (.int i0), .val (.int i1), .unset, .unset, .unset] [(.int (255 : Int32)), (.int i0)])) _
    refine XS.iand X0.here hx rfl (hb hby at_10) rfl ?_
    show Steps p.tables e below (T0.setTop (mkF m 11 #[.val (.int i0), .val (.int i1), .unset, .unset, .unset] [(.int (i0 &&& (255 : Int32)))])) _
    refine XS.goto X0.here hx rfl (pc0 := 11) (pc' := 15) rfl (hb hby at_11) (by decide) (by decide) ?_
    show Steps p.tables e below (T0.setTop (mkF m 15 #[.val (.int i0), .val (.int i1), .unset, .unset, .unset] [(.int (i0 &&& (255 : Int32)))])) _
    refine XS.istoreN X0.here hx rfl (hb hby at_15) rfl (l' := #[.val (.int i0), .val (.int i1), .val (.int (i0 &&& (255 : Int32))), .unset, .unset]) rfl ?_
    show Steps p.tables e below (T0.setTop (mkF m 16 #[.val (.int i0), .val (.int i1), .val (.int (i0 &&& (255 : Int32))), .unset, .unset] [])) _
    have hv : (own_S1 i0 i1) = (i0 &&& (255 : Int32)) := by unfold own_S1; rw [if_neg hc3]
    rw [hv] at kt
    exact kt
def own_S2 (i0 : Int32) (i1 : Int32) (i2 : Int32) : Int32 := if i2 < (0 : Int32) then (if i2 < (127 : Int32) then (0 : Int32) else (if (159 : Int32) < i2 then (0 : Int32) else (1 : Int32))) else (if (31 : Int32) < i2 then (if i2 < (127 : Int32) then (0 : Int32) else (if (159 : Int32) < i2 then (0 : Int32) else (1 : Int32))) else (1 : Int32))
set_option maxRecDepth 65536 in
set_option maxHeartbeats 40000000 in
theorem own_seg2 {p : Program} {l : Launch} {e : Env} {R : Room} {s : State} {m : MethodId} {args : Array Value} {below : List Frame} {meth : Method} {c : Code} {T0 : State} {locs : List Loc} {cells slots : Nat} {Z : State} {a0 : Array Value} (i0 : Int32) (i1 : Int32) (i2 : Int32) (X0 : Stand p l e R s m args below meth c T0 locs cells slots) (hx : p.tables.exec = Jvm.exec) (hZ : Z.Warmed39 s.vm) (hw : ∀ d ∈ tables_1, d.before a0 Z = true) (hby : c.code = code) (hown : s.vm.findClass "com/example/tracewell/tracewell/XmlSyntaxIsRestricted11PinLaw" = some m.cls) {target : State} (kt : Steps p.tables e below (T0.setTop (mkF m 45 #[.val (.int i0), .val (.int i1), .val (.int i2), .val (.int (own_S2 i0 i1 i2)), .unset] [])) target) :
    Steps p.tables e below (T0.setTop (mkF m 16 #[.val (.int i0), .val (.int i1), .val (.int i2), .unset, .unset] [])) target := by
  show Steps p.tables e below (T0.setTop (mkF m 16 #[.val (.int i0), .val (.int i1), .val (.int i2), .unset, .unset] [])) _
  refine XS.iloadN X0.here hx rfl (hb hby at_16) rfl ?_
  show Steps p.tables e below (T0.setTop (mkF m 17 #[.val (.int i0), .val (.int i1), .val (.int i2), .unset, .unset] [(.int i2)])) _
  by_cases hc17 : i2 < (0 : Int32)
  · refine XS.ifYes X0.here hx rfl (pc0 := 17) (pc' := 26) rfl (hb hby at_17) rfl ((if0 _ _).trans (tlt hc17).1) (by decide) (by decide) ?_
    show Steps p.tables e below (T0.setTop (mkF m 26 #[.val (.int i0), .val (.int i1), .val (.int i2), .unset, .unset] [])) _
    refine XS.iloadN X0.here hx rfl (hb hby at_26) rfl ?_
    show Steps p.tables e below (T0.setTop (mkF m 27 #[.val (.int i0), .val (.int i1), .val (.int i2), .unset, .unset] [(.int i2)])) _
    refine XS.bipush X0.here hx rfl (hb hby at_27) ?_
    show Steps p.tables e below (T0.setTop (mkF m 29 #[.val (.int i0), .val (.int i1), .val (.int i2), .unset, .unset] [(.int (127 : Int32)), (.int i2)])) _
    by_cases hc29 : i2 < (127 : Int32)
    · refine XS.icmpYes X0.here hx rfl (pc0 := 29) (pc' := 43) rfl (hb hby at_29) rfl (tlt hc29).1 (by decide) (by decide) ?_
      show Steps p.tables e below (T0.setTop (mkF m 43 #[.val (.int i0), .val (.int i1), .val (.int i2), .unset, .unset] [])) _
      refine XS.iconst X0.here hx rfl (hb hby at_43) ?_
      show Steps p.tables e below (T0.setTop (mkF m 44 #[.val (.int i0), .val (.int i1), .val (.int i2), .unset, .unset] [(.int (0 : Int32))])) _
      refine XS.istoreN X0.here hx rfl (hb hby at_44) rfl (l' := #[.val (.int i0), .val (.int i1), .val (.int i2), .val (.int (0 : Int32)), .unset]) rfl ?_
      show Steps p.tables e below (T0.setTop (mkF m 45 #[.val (.int i0), .val (.int i1), .val (.int i2), .val (.int (0 : Int32)), .unset] [])) _
      have hv : (own_S2 i0 i1 i2) = (0 : Int32) := by unfold own_S2; rw [if_pos hc17, if_pos hc29]
      rw [hv] at kt
      exact kt
    · refine XS.icmpNo X0.here hx rfl (hb hby at_29) rfl (flt hc29).1 ?_
      show Steps p.tables e below (T0.setTop (mkF m 32 #[.val (.int i0), .val (.int i1), .val (.int i2), .unset, .unset] [])) _
      refine XS.iloadN X0.here hx rfl (hb hby at_32) rfl ?_
      show Steps p.tables e below (T0.setTop (mkF m 33 #[.val (.int i0), .val (.int i1), .val (.int i2), .unset, .unset] [(.int i2)])) _
      refine XS.sipush X0.here hx rfl (hb hby at_33) ?_
      show Steps p.tables e below (T0.setTop (mkF m 36 #[.val (.int i0), .val (.int i1), .val (.int i2), .unset, .unset] [(.int (159 : Int32)), (.int i2)])) _
      by_cases hc36 : (159 : Int32) < i2
      · refine XS.icmpYes X0.here hx rfl (pc0 := 36) (pc' := 43) rfl (hb hby at_36) rfl (tlt hc36).2.2.1 (by decide) (by decide) ?_
        show Steps p.tables e below (T0.setTop (mkF m 43 #[.val (.int i0), .val (.int i1), .val (.int i2), .unset, .unset] [])) _
        refine XS.iconst X0.here hx rfl (hb hby at_43) ?_
        show Steps p.tables e below (T0.setTop (mkF m 44 #[.val (.int i0), .val (.int i1), .val (.int i2), .unset, .unset] [(.int (0 : Int32))])) _
        refine XS.istoreN X0.here hx rfl (hb hby at_44) rfl (l' := #[.val (.int i0), .val (.int i1), .val (.int i2), .val (.int (0 : Int32)), .unset]) rfl ?_
        show Steps p.tables e below (T0.setTop (mkF m 45 #[.val (.int i0), .val (.int i1), .val (.int i2), .val (.int (0 : Int32)), .unset] [])) _
        have hv : (own_S2 i0 i1 i2) = (0 : Int32) := by unfold own_S2; rw [if_pos hc17, if_neg hc29, if_pos hc36]
        rw [hv] at kt
        exact kt
      · refine XS.icmpNo X0.here hx rfl (hb hby at_36) rfl (flt hc36).2.2.1 ?_
        show Steps p.tables e below (T0.setTop (mkF m 39 #[.val (.int i0), .val (.int i1), .val (.int i2), .unset, .unset] [])) _
        refine XS.iconst X0.here hx rfl (hb hby at_39) ?_
        show Steps p.tables e below (T0.setTop (mkF m 40 #[.val (.int i0), .val (.int i1), .val (.int i2), .unset, .unset] [(.int (1 : Int32))])) _
        refine XS.goto X0.here hx rfl (pc0 := 40) (pc' := 44) rfl (hb hby at_40) (by decide) (by decide) ?_
        show Steps p.tables e below (T0.setTop (mkF m 44 #[.val (.int i0), .val (.int i1), .val (.int i2), .unset, .unset] [(.int (1 : Int32))])) _
        refine XS.istoreN X0.here hx rfl (hb hby at_44) rfl (l' := #[.val (.int i0), .val (.int i1), .val (.int i2), .val (.int (1 : Int32)), .unset]) rfl ?_
        show Steps p.tables e below (T0.setTop (mkF m 45 #[.val (.int i0), .val (.int i1), .val (.int i2), .val (.int (1 : Int32)), .unset] [])) _
        have hv : (own_S2 i0 i1 i2) = (1 : Int32) := by unfold own_S2; rw [if_pos hc17, if_neg hc29, if_neg hc36]
        rw [hv] at kt
        exact kt
  · refine XS.ifNo X0.here hx rfl (hb hby at_17) rfl ((if0 _ _).trans (flt hc17).1) ?_
    show Steps p.tables e below (T0.setTop (mkF m 20 #[.val (.int i0), .val (.int i1), .val (.int i2), .unset, .unset] [])) _
    refine XS.iloadN X0.here hx rfl (hb hby at_20) rfl ?_
    show Steps p.tables e below (T0.setTop (mkF m 21 #[.val (.int i0), .val (.int i1), .val (.int i2), .unset, .unset] [(.int i2)])) _
    refine XS.bipush X0.here hx rfl (hb hby at_21) ?_
    show Steps p.tables e below (T0.setTop (mkF m 23 #[.val (.int i0), .val (.int i1), .val (.int i2), .unset, .unset] [(.int (31 : Int32)), (.int i2)])) _
    by_cases hc23 : (31 : Int32) < i2
    · refine XS.icmpNo X0.here hx rfl (hb hby at_23) rfl (tlt hc23).2.2.2 ?_
      show Steps p.tables e below (T0.setTop (mkF m 26 #[.val (.int i0), .val (.int i1), .val (.int i2), .unset, .unset] [])) _
      refine XS.iloadN X0.here hx rfl (hb hby at_26) rfl ?_
      show Steps p.tables e below (T0.setTop (mkF m 27 #[.val (.int i0), .val (.int i1), .val (.int i2), .unset, .unset] [(.int i2)])) _
      refine XS.bipush X0.here hx rfl (hb hby at_27) ?_
      show Steps p.tables e below (T0.setTop (mkF m 29 #[.val (.int i0), .val (.int i1), .val (.int i2), .unset, .unset] [(.int (127 : Int32)), (.int i2)])) _
      by_cases hc29 : i2 < (127 : Int32)
      · refine XS.icmpYes X0.here hx rfl (pc0 := 29) (pc' := 43) rfl (hb hby at_29) rfl (tlt hc29).1 (by decide) (by decide) ?_
        show Steps p.tables e below (T0.setTop (mkF m 43 #[.val (.int i0), .val (.int i1), .val (.int i2), .unset, .unset] [])) _
        refine XS.iconst X0.here hx rfl (hb hby at_43) ?_
        show Steps p.tables e below (T0.setTop (mkF m 44 #[.val (.int i0), .val (.int i1), .val (.int i2), .unset, .unset] [(.int (0 : Int32))])) _
        refine XS.istoreN X0.here hx rfl (hb hby at_44) rfl (l' := #[.val (.int i0), .val (.int i1), .val (.int i2), .val (.int (0 : Int32)), .unset]) rfl ?_
        show Steps p.tables e below (T0.setTop (mkF m 45 #[.val (.int i0), .val (.int i1), .val (.int i2), .val (.int (0 : Int32)), .unset] [])) _
        have hv : (own_S2 i0 i1 i2) = (0 : Int32) := by unfold own_S2; rw [if_neg hc17, if_pos hc23, if_pos hc29]
        rw [hv] at kt
        exact kt
      · refine XS.icmpNo X0.here hx rfl (hb hby at_29) rfl (flt hc29).1 ?_
        show Steps p.tables e below (T0.setTop (mkF m 32 #[.val (.int i0), .val (.int i1), .val (.int i2), .unset, .unset] [])) _
        refine XS.iloadN X0.here hx rfl (hb hby at_32) rfl ?_
        show Steps p.tables e below (T0.setTop (mkF m 33 #[.val (.int i0), .val (.int i1), .val (.int i2), .unset, .unset] [(.int i2)])) _
        refine XS.sipush X0.here hx rfl (hb hby at_33) ?_
        show Steps p.tables e below (T0.setTop (mkF m 36 #[.val (.int i0), .val (.int i1), .val (.int i2), .unset, .unset] [(.int (159 : Int32)), (.int i2)])) _
        by_cases hc36 : (159 : Int32) < i2
        · refine XS.icmpYes X0.here hx rfl (pc0 := 36) (pc' := 43) rfl (hb hby at_36) rfl (tlt hc36).2.2.1 (by decide) (by decide) ?_
          show Steps p.tables e below (T0.setTop (mkF m 43 #[.val (.int i0), .val (.int i1), .val (.int i2), .unset, .unset] [])) _
          refine XS.iconst X0.here hx rfl (hb hby at_43) ?_
          show Steps p.tables e below (T0.setTop (mkF m 44 #[.val (.int i0), .val (.int i1), .val (.int i2), .unset, .unset] [(.int (0 : Int32))])) _
          refine XS.istoreN X0.here hx rfl (hb hby at_44) rfl (l' := #[.val (.int i0), .val (.int i1), .val (.int i2), .val (.int (0 : Int32)), .unset]) rfl ?_
          show Steps p.tables e below (T0.setTop (mkF m 45 #[.val (.int i0), .val (.int i1), .val (.int i2), .val (.int (0 : Int32)), .unset] [])) _
          have hv : (own_S2 i0 i1 i2) = (0 : Int32) := by unfold own_S2; rw [if_neg hc17, if_pos hc23, if_neg hc29, if_pos hc36]
          rw [hv] at kt
          exact kt
        · refine XS.icmpNo X0.here hx rfl (hb hby at_36) rfl (flt hc36).2.2.1 ?_
          show Steps p.tables e below (T0.setTop (mkF m 39 #[.val (.int i0), .val (.int i1), .val (.int i2), .unset, .unset] [])) _
          refine XS.iconst X0.here hx rfl (hb hby at_39) ?_
          show Steps p.tables e below (T0.setTop (mkF m 40 #[.val (.int i0), .val (.int i1), .val (.int i2), .unset, .unset] [(.int (1 : Int32))])) _
          refine XS.goto X0.here hx rfl (pc0 := 40) (pc' := 44) rfl (hb hby at_40) (by decide) (by decide) ?_
          show Steps p.tables e below (T0.setTop (mkF m 44 #[.val (.int i0), .val (.int i1), .val (.int i2), .unset, .unset] [(.int (1 : Int32))])) _
          refine XS.istoreN X0.here hx rfl (hb hby at_44) rfl (l' := #[.val (.int i0), .val (.int i1), .val (.int i2), .val (.int (1 : Int32)), .unset]) rfl ?_
          show Steps p.tables e below (T0.setTop (mkF m 45 #[.val (.int i0), .val (.int i1), .val (.int i2), .val (.int (1 : Int32)), .unset] [])) _
          have hv : (own_S2 i0 i1 i2) = (1 : Int32) := by unfold own_S2; rw [if_neg hc17, if_pos hc23, if_neg hc29, if_neg hc36]
          rw [hv] at kt
          exact kt
    · refine XS.icmpYes X0.here hx rfl (pc0 := 23) (pc' := 39) rfl (hb hby at_23) rfl (flt hc23).2.2.2 (by decide) (by decide) ?_
      show Steps p.tables e below (T0.setTop (mkF m 39 #[.val (.int i0), .val (.int i1), .val (.int i2), .unset, .unset] [])) _
      refine XS.iconst X0.here hx rfl (hb hby at_39) ?_
      show Steps p.tables e below (T0.setTop (mkF m 40 #[.val (.int i0), .val (.int i1), .val (.int i2), .unset, .unset] [(.int (1 : Int32))])) _
      refine XS.goto X0.here hx rfl (pc0 := 40) (pc' := 44) rfl (hb hby at_40) (by decide) (by decide) ?_
      show Steps p.tables e below (T0.setTop (mkF m 44 #[.val (.int i0), .val (.int i1), .val (.int i2), .unset, .unset] [(.int (1 : Int32))])) _
      refine XS.istoreN X0.here hx rfl (hb hby at_44) rfl (l' := #[.val (.int i0), .val (.int i1), .val (.int i2), .val (.int (1 : Int32)), .unset]) rfl ?_
      show Steps p.tables e below (T0.setTop (mkF m 45 #[.val (.int i0), .val (.int i1), .val (.int i2), .val (.int (1 : Int32)), .unset] [])) _
      have hv : (own_S2 i0 i1 i2) = (1 : Int32) := by unfold own_S2; rw [if_neg hc17, if_neg hc23]
      rw [hv] at kt
      exact kt
def own_S3 (i0 : Int32) (i1 : Int32) (i2 : Int32) (i3 : Int32) : Int32 := if i3 = (0 : Int32) then (0 : Int32) else (if i2 = (0 : Int32) then (0 : Int32) else (if i2 = (9 : Int32) then (0 : Int32) else (if i2 = (10 : Int32) then (0 : Int32) else (if i2 = (13 : Int32) then (0 : Int32) else (if i2 = (133 : Int32) then (0 : Int32) else (1 : Int32))))))
set_option maxRecDepth 65536 in
set_option maxHeartbeats 40000000 in
theorem own_seg3 {p : Program} {l : Launch} {e : Env} {R : Room} {s : State} {m : MethodId} {args : Array Value} {below : List Frame} {meth : Method} {c : Code} {T0 : State} {locs : List Loc} {cells slots : Nat} {Z : State} {a0 : Array Value} (i0 : Int32) (i1 : Int32) (i2 : Int32) (i3 : Int32) (X0 : Stand p l e R s m args below meth c T0 locs cells slots) (hx : p.tables.exec = Jvm.exec) (hZ : Z.Warmed39 s.vm) (hw : ∀ d ∈ tables_1, d.before a0 Z = true) (hby : c.code = code) (hown : s.vm.findClass "com/example/tracewell/tracewell/XmlSyntaxIsRestricted11PinLaw" = some m.cls) {target : State} (kt : Steps p.tables e below (T0.setTop (mkF m 85 #[.val (.int i0), .val (.int i1), .val (.int i2), .val (.int i3), .val (.int (own_S3 i0 i1 i2 i3))] [])) target) :
    Steps p.tables e below (T0.setTop (mkF m 45 #[.val (.int i0), .val (.int i1), .val (.int i2), .val (.int i3), .unset] [])) target := by
  show Steps p.tables e below (T0.setTop (mkF m 45 #[.val (.int i0), .val (.int i1), .val (.int i2), .val (.int i3), .unset] [])) _
  refine XS.iloadN X0.here hx rfl (hb hby at_45) rfl ?_
  show Steps p.tables e below (T0.setTop (mkF m 46 #[.val (.int i0), .val (.int i1), .val (.int i2), .val (.int i3), .unset] [(.int i3)])) _
  by_cases hc46 : i3 = (0 : Int32)
  · refine XS.ifYes X0.here hx rfl (pc0 := 46) (pc' := 82) rfl (hb hby at_46) rfl ((if0 _ _).trans (teq hc46).1) (by decide) (by decide) ?_
    show Steps p.tables e below (T0.setTop (mkF m 82 #[.val (.int i0), .val (.int i1), .val (.int i2), .val (.int i3), .unset] [])) _
    refine XS.iconst X0.here hx rfl (hb hby at_82) ?_
    show Steps p.tables e below (T0.setTop (mkF m 83 #[.val (.int i0), .val (.int i1), .val (.int i2), .val (.int i3), .unset] [(.int (0 : Int32))])) _
    refine XS.istore X0.here hx rfl (hb hby at_83) rfl (l' := #[.val (.int i0), .val (.int i1), .val (.int i2), .val (.int i3), .val (.int (0 : Int32))]) rfl ?_
    show Steps p.tables e below (T0.setTop (mkF m 85 #[.val (.int i0), .val (.int i1), .val (.int i2), .val (.int i3), .val (.int (0 : Int32))] [])) _
    have hv : (own_S3 i0 i1 i2 i3) = (0 : Int32) := by unfold own_S3; rw [if_pos hc46]
    rw [hv] at kt
    exact kt
  · refine XS.ifNo X0.here hx rfl (hb hby at_46) rfl ((if0 _ _).trans (feq hc46).1) ?_
    show Steps p.tables e below (T0.setTop (mkF m 49 #[.val (.int i0), .val (.int i1), .val (.int i2), .val (.int i3), .unset] [])) _
    refine XS.iloadN X0.here hx rfl (hb hby at_49) rfl ?_
    show Steps p.tables e below (T0.setTop (mkF m 50 #[.val (.int i0), .val (.int i1), .val (.int i2), .val (.int i3), .unset] [(.int i2)])) _
    by_cases hc50 : i2 = (0 : Int32)
    · refine XS.ifYes X0.here hx rfl (pc0 := 50) (pc' := 82) rfl (hb hby at_50) rfl ((if0 _ _).trans (teq hc50).1) (by decide) (by decide) ?_
      show Steps p.tables e below (T0.setTop (mkF m 82 #[.val (.int i0), .val (.int i1), .val (.int i2), .val (.int i3), .unset] [])) _
      refine XS.iconst X0.here hx rfl (hb hby at_82) ?_
      show Steps p.tables e below (T0.setTop (mkF m 83 #[.val (.int i0), .val (.int i1), .val (.int i2), .val (.int i3), .unset] [(.int (0 : Int32))])) _
      refine XS.istore X0.here hx rfl (hb hby at_83) rfl (l' := #[.val (.int i0), .val (.int i1), .val (.int i2), .val (.int i3), .val (.int (0 : Int32))]) rfl ?_
      show Steps p.tables e below (T0.setTop (mkF m 85 #[.val (.int i0), .val (.int i1), .val (.int i2), .val (.int i3), .val (.int (0 : Int32))] [])) _
      have hv : (own_S3 i0 i1 i2 i3) = (0 : Int32) := by unfold own_S3; rw [if_neg hc46, if_pos hc50]
      rw [hv] at kt
      exact kt
    · refine XS.ifNo X0.here hx rfl (hb hby at_50) rfl ((if0 _ _).trans (feq hc50).1) ?_
      show Steps p.tables e below (T0.setTop (mkF m 53 #[.val (.int i0), .val (.int i1), .val (.int i2), .val (.int i3), .unset] [])) _
      refine XS.iloadN X0.here hx rfl (hb hby at_53) rfl ?_
      show Steps p.tables e below (T0.setTop (mkF m 54 #[.val (.int i0), .val (.int i1), .val (.int i2), .val (.int i3), .unset] [(.int i2)])) _
      refine XS.bipush X0.here hx rfl (hb hby at_54) ?_
      show Steps p.tables e below (T0.setTop (mkF m 56 #[.val (.int i0), .val (.int i1), .val (.int i2), .val (.int i3), .unset] [(.int (9 : Int32)), (.int i2)])) _
      by_cases hc56 : i2 = (9 : Int32)
      · refine XS.icmpYes X0.here hx rfl (pc0 := 56) (pc' := 82) rfl (hb hby at_56) rfl (teq hc56).1 (by decide) (by decide) ?_
        show Steps p.tables e below (T0.setTop (mkF m 82 #[.val (.int i0), .val (.int i1), .val (.int i2), .val (.int i3), .unset] [])) _
        refine XS.iconst X0.here hx rfl (hb hby at_82) ?_
        show Steps p.tables e below (T0.setTop (mkF m 83 #[.val (.int i0), .val (.int i1), .val (.int i2), .val (.int i3), .unset] [(.int (0 : Int32))])) _
        refine XS.istore X0.here hx rfl (hb hby at_83) rfl (l' := #[.val (.int i0), .val (.int i1), .val (.int i2), .val (.int i3), .val (.int (0 : Int32))]) rfl ?_
        show Steps p.tables e below (T0.setTop (mkF m 85 #[.val (.int i0), .val (.int i1), .val (.int i2), .val (.int i3), .val (.int (0 : Int32))] [])) _
        have hv : (own_S3 i0 i1 i2 i3) = (0 : Int32) := by unfold own_S3; rw [if_neg hc46, if_neg hc50, if_pos hc56]
        rw [hv] at kt
        exact kt
      · refine XS.icmpNo X0.here hx rfl (hb hby at_56) rfl (feq hc56).1 ?_
        show Steps p.tables e below (T0.setTop (mkF m 59 #[.val (.int i0), .val (.int i1), .val (.int i2), .val (.int i3), .unset] [])) _
        refine XS.iloadN X0.here hx rfl (hb hby at_59) rfl ?_
        show Steps p.tables e below (T0.setTop (mkF m 60 #[.val (.int i0), .val (.int i1), .val (.int i2), .val (.int i3), .unset] [(.int i2)])) _
        refine XS.bipush X0.here hx rfl (hb hby at_60) ?_
        show Steps p.tables e below (T0.setTop (mkF m 62 #[.val (.int i0), .val (.int i1), .val (.int i2), .val (.int i3), .unset] [(.int (10 : Int32)), (.int i2)])) _
        by_cases hc62 : i2 = (10 : Int32)
        · refine XS.icmpYes X0.here hx rfl (pc0 := 62) (pc' := 82) rfl (hb hby at_62) rfl (teq hc62).1 (by decide) (by decide) ?_
          show Steps p.tables e below (T0.setTop (mkF m 82 #[.val (.int i0), .val (.int i1), .val (.int i2), .val (.int i3), .unset] [])) _
          refine XS.iconst X0.here hx rfl (hb hby at_82) ?_
          show Steps p.tables e below (T0.setTop (mkF m 83 #[.val (.int i0), .val (.int i1), .val (.int i2), .val (.int i3), .unset] [(.int (0 : Int32))])) _
          refine XS.istore X0.here hx rfl (hb hby at_83) rfl (l' := #[.val (.int i0), .val (.int i1), .val (.int i2), .val (.int i3), .val (.int (0 : Int32))]) rfl ?_
          show Steps p.tables e below (T0.setTop (mkF m 85 #[.val (.int i0), .val (.int i1), .val (.int i2), .val (.int i3), .val (.int (0 : Int32))] [])) _
          have hv : (own_S3 i0 i1 i2 i3) = (0 : Int32) := by unfold own_S3; rw [if_neg hc46, if_neg hc50, if_neg hc56, if_pos hc62]
          rw [hv] at kt
          exact kt
        · refine XS.icmpNo X0.here hx rfl (hb hby at_62) rfl (feq hc62).1 ?_
          show Steps p.tables e below (T0.setTop (mkF m 65 #[.val (.int i0), .val (.int i1), .val (.int i2), .val (.int i3), .unset] [])) _
          refine XS.iloadN X0.here hx rfl (hb hby at_65) rfl ?_
          show Steps p.tables e below (T0.setTop (mkF m 66 #[.val (.int i0), .val (.int i1), .val (.int i2), .val (.int i3), .unset] [(.int i2)])) _
          refine XS.bipush X0.here hx rfl (hb hby at_66) ?_
          show Steps p.tables e below (T0.setTop (mkF m 68 #[.val (.int i0), .val (.int i1), .val (.int i2), .val (.int i3), .unset] [(.int (13 : Int32)), (.int i2)])) _
          by_cases hc68 : i2 = (13 : Int32)
          · refine XS.icmpYes X0.here hx rfl (pc0 := 68) (pc' := 82) rfl (hb hby at_68) rfl (teq hc68).1 (by decide) (by decide) ?_
            show Steps p.tables e below (T0.setTop (mkF m 82 #[.val (.int i0), .val (.int i1), .val (.int i2), .val (.int i3), .unset] [])) _
            refine XS.iconst X0.here hx rfl (hb hby at_82) ?_
            show Steps p.tables e below (T0.setTop (mkF m 83 #[.val (.int i0), .val (.int i1), .val (.int i2), .val (.int i3), .unset] [(.int (0 : Int32))])) _
            refine XS.istore X0.here hx rfl (hb hby at_83) rfl (l' := #[.val (.int i0), .val (.int i1), .val (.int i2), .val (.int i3), .val (.int (0 : Int32))]) rfl ?_
            show Steps p.tables e below (T0.setTop (mkF m 85 #[.val (.int i0), .val (.int i1), .val (.int i2), .val (.int i3), .val (.int (0 : Int32))] [])) _
            have hv : (own_S3 i0 i1 i2 i3) = (0 : Int32) := by unfold own_S3; rw [if_neg hc46, if_neg hc50, if_neg hc56, if_neg hc62, if_pos hc68]
            rw [hv] at kt
            exact kt
          · refine XS.icmpNo X0.here hx rfl (hb hby at_68) rfl (feq hc68).1 ?_
            show Steps p.tables e below (T0.setTop (mkF m 71 #[.val (.int i0), .val (.int i1), .val (.int i2), .val (.int i3), .unset] [])) _
            refine XS.iloadN X0.here hx rfl (hb hby at_71) rfl ?_
            show Steps p.tables e below (T0.setTop (mkF m 72 #[.val (.int i0), .val (.int i1), .val (.int i2), .val (.int i3), .unset] [(.int i2)])) _
            refine XS.sipush X0.here hx rfl (hb hby at_72) ?_
            show Steps p.tables e below (T0.setTop (mkF m 75 #[.val (.int i0), .val (.int i1), .val (.int i2), .val (.int i3), .unset] [(.int (133 : Int32)), (.int i2)])) _
            by_cases hc75 : i2 = (133 : Int32)
            · refine XS.icmpYes X0.here hx rfl (pc0 := 75) (pc' := 82) rfl (hb hby at_75) rfl (teq hc75).1 (by decide) (by decide) ?_
              show Steps p.tables e below (T0.setTop (mkF m 82 #[.val (.int i0), .val (.int i1), .val (.int i2), .val (.int i3), .unset] [])) _
              refine XS.iconst X0.here hx rfl (hb hby at_82) ?_
              show Steps p.tables e below (T0.setTop (mkF m 83 #[.val (.int i0), .val (.int i1), .val (.int i2), .val (.int i3), .unset] [(.int (0 : Int32))])) _
              refine XS.istore X0.here hx rfl (hb hby at_83) rfl (l' := #[.val (.int i0), .val (.int i1), .val (.int i2), .val (.int i3), .val (.int (0 : Int32))]) rfl ?_
              show Steps p.tables e below (T0.setTop (mkF m 85 #[.val (.int i0), .val (.int i1), .val (.int i2), .val (.int i3), .val (.int (0 : Int32))] [])) _
              have hv : (own_S3 i0 i1 i2 i3) = (0 : Int32) := by unfold own_S3; rw [if_neg hc46, if_neg hc50, if_neg hc56, if_neg hc62, if_neg hc68, if_pos hc75]
              rw [hv] at kt
              exact kt
            · refine XS.icmpNo X0.here hx rfl (hb hby at_75) rfl (feq hc75).1 ?_
              show Steps p.tables e below (T0.setTop (mkF m 78 #[.val (.int i0), .val (.int i1), .val (.int i2), .val (.int i3), .unset] [])) _
              refine XS.iconst X0.here hx rfl (hb hby at_78) ?_
              show Steps p.tables e below (T0.setTop (mkF m 79 #[.val (.int i0), .val (.int i1), .val (.int i2), .val (.int i3), .unset] [(.int (1 : Int32))])) _
              refine XS.goto X0.here hx rfl (pc0 := 79) (pc' := 83) rfl (hb hby at_79) (by decide) (by decide) ?_
              show Steps p.tables e below (T0.setTop (mkF m 83 #[.val (.int i0), .val (.int i1), .val (.int i2), .val (.int i3), .unset] [(.int (1 : Int32))])) _
              refine XS.istore X0.here hx rfl (hb hby at_83) rfl (l' := #[.val (.int i0), .val (.int i1), .val (.int i2), .val (.int i3), .val (.int (1 : Int32))]) rfl ?_
              show Steps p.tables e below (T0.setTop (mkF m 85 #[.val (.int i0), .val (.int i1), .val (.int i2), .val (.int i3), .val (.int (1 : Int32))] [])) _
              have hv : (own_S3 i0 i1 i2 i3) = (1 : Int32) := by unfold own_S3; rw [if_neg hc46, if_neg hc50, if_neg hc56, if_neg hc62, if_neg hc68, if_neg hc75]
              rw [hv] at kt
              exact kt
set_option maxHeartbeats 40000000 in
theorem own_same (i0 i1 c : Int32) : own_F1 c = own_S3 i0 i1 c (own_S2 i0 i1 c) := by
  unfold own_F1 own_S3 own_S2
  simp only [Int32.lt_iff_toInt_lt, ← Int32.toInt_inj]
  have e0 : (0 : Int32).toInt = 0 := rfl
  have e1 : (1 : Int32).toInt = 1 := rfl
  have e8 : (8 : Int32).toInt = 8 := rfl
  have e9 : (9 : Int32).toInt = 9 := rfl
  have e10 : (10 : Int32).toInt = 10 := rfl
  have e11 : (11 : Int32).toInt = 11 := rfl
  have e12 : (12 : Int32).toInt = 12 := rfl
  have e13 : (13 : Int32).toInt = 13 := rfl
  have e14 : (14 : Int32).toInt = 14 := rfl
  have e31 : (31 : Int32).toInt = 31 := rfl
  have e127 : (127 : Int32).toInt = 127 := rfl
  have e132 : (132 : Int32).toInt = 132 := rfl
  have e133 : (133 : Int32).toInt = 133 := rfl
  have e134 : (134 : Int32).toInt = 134 := rfl
  have e159 : (159 : Int32).toInt = 159 := rfl
  rw [e0, e1, e8, e9, e10, e11, e12, e13, e14, e31, e127, e132, e133, e134, e159]
  repeat' (split <;> try (exfalso; omega))
  all_goals rfl
theorem pn_0 : plainName "com/example/tracewell/tracewell/XmlSyntaxIsRestricted11PinLaw" = true := by first | (simp [plainName, overriddenIn]; done) | decide +kernel
theorem pd_0_0 : parseMethodDescriptor "(I)Z" = some ⟨[.int], some .boolean⟩ := by decide +kernel
theorem ef_0 (m : MethodId) (x0 : Int32) (x1 : Int32) : entryFrame m #[(.int x0), (.int x1)] maxLocals = mkF m 0 #[.val (.int x0), .val (.int x1), .unset, .unset, .unset] [] := by first | (simp [entryFrame, mkF, argsToLocals, Value.category, maxLocals]; done) | rfl
def Q0 (Z : State) (p1 : Int32) (p2 : Int32) (h0 : Heap) (n0 : Nat) (v : Option Value) (h : Heap) (L : List Loc) : Prop := v = some (.int (1 : Int32)) ∧ Fr n0 L
set_option maxRecDepth 65536 in
set_option maxHeartbeats 40000000 in
theorem rm0 (l : Launch) (Z : State) (a0 : Array Value) (hw : ∀ d ∈ tables_1, d.before a0 Z = true) (ws : List Jvm.Cond) (p1 : Int32) (p2 : Int32) (h0 : Heap) (n0 : Nat) (Z0 : n0 ≤ h0.size) :
    MetFree l x (head1 (Jvm.Cond.code x code maxLocals ret :: ws) room_1) (fun a U => a = #[(.int p1), (.int p2)] ∧ Z.Warmed39 U.vm ∧ U.heap = h0) (fun _ _ _ _ _ => True) (fun _ U o U' => ∃ v L, o = .returned v ∧ Q0 Z p1 p2 h0 n0 v U'.heap L ∧ FrameEnd U o U' L room_1.cells room_1.slots) := by
  refine MetFree.of_bodySF (plainFor_of_name pn_0) hisR ?_
  intro p e s m args below meth c s₁ Bd hml0 hP hK
  obtain ⟨rfl, hZ, hh⟩ := hP
  have hx := Bd.exec
  have hby := Bd.bytes
  have hml : c.maxLocals = 5 := hml0
  have hown : s.vm.findClass "com/example/tracewell/tracewell/XmlSyntaxIsRestricted11PinLaw" = some m.cls := findClass_of_methodNamed Bd.named
  have hnm := (name_of_methodNamed Bd.named Bd.method).1
  have X0 : Stand p l e room_1 s m #[(.int p1), (.int p2)] below meth c s₁ [] 0 0 := Stand.of_body Bd
  have e0 : s₁.heap = h0 := by rw [← hh, Bd.state]; rfl
  have N0 := Fr.nil n0
  have pre0 : ∀ t, Steps p.tables e below (s₁.setTop (mkF m 0 #[.val (.int p1), .val (.int p2), .unset, .unset, .unset] [])) t → Steps p.tables e below (s₁.setTop (entryFrame m #[(.int p1), (.int p2)] maxLocals)) t := fun t k => castTop (ef_0 m p1 p2) k
  obtain ⟨_, _, ⟨T3, L3, k3, n3⟩, -, X3, ⟨Lc3, hQ3, l3, y3, z3⟩, st3⟩ := Jvm.LawKit.callS X0 hx (y := (⟨"com/example/tracewell/tracewell/XmlSyntax", "isRestricted11", "(I)Z"⟩ : MethodName)) hown (mvT hZ (hw _ (List.mem_of_getElem? (i := 0) rfl))) (mvT hZ (hw _ (List.mem_of_getElem? (i := 1) rfl))) (mvT hZ (hw _ (List.mem_of_getElem? (i := 2) rfl))) (mvT hZ (hw _ (List.mem_of_getElem? (i := 3) rfl))) (by decide) (backOf (W := 0) (rm1 l Z a0 hw [] (own_S1 p1 p2) h0 n0 Z0) hZ (hw _ (List.mem_of_getElem? (i := 3) rfl)) (hw _ (List.mem_of_getElem? (i := 2) rfl)) (by decide) (by decide)) (g := (mkF m 86 #[.val (.int p1), .val (.int p2), .val (.int (own_S1 p1 p2)), .val (.int (own_S2 p1 p2 (own_S1 p1 p2))), .val (.int (own_S3 p1 p2 (own_S1 p1 p2) (own_S2 p1 p2 (own_S1 p1 p2))))] [(.int (own_S1 p1 p2))])) rfl (by rw [hml]; rfl) (argsL := [(.int (own_S1 p1 p2))]) (rest := []) (lenOf pd_0_0 rfl) rfl (by show 2 * 0 + _ ≤ _; exact Nat.le_of_eq rfl) (hb hby at_86) (fun _ _ => ⟨rfl, e0, (by decide : 0 + 0 ≤ _), (by decide : 0 + 0 ≤ _)⟩)
  dsimp only [Pt.U, Pt.locs, Pt.cells, Pt.slots] at X3 l3 y3 z3 st3 hQ3
  subst l3 y3 z3
  obtain ⟨rfl, N3q, q3⟩ := hQ3
  have N3 := Fr.app N0 N3q
  obtain ⟨fs, hr, hrun, hended, hW, hsame⟩ := X3.leave (v := some (.int (1 : Int32))) (fun h => by rw [Bd.returns] at h; cases h)
  refine ⟨_, _, pre0 _ ?_, hrun, hended, _, _, rfl, ?_, ⟨_, rfl⟩, hW, hsame.mono (by decide) (by decide)⟩
  · refine own_seg1 p1 p2 X0 hx hZ hw hby hown ?_
    refine own_seg2 p1 p2 (own_S1 p1 p2) X0 hx hZ hw hby hown ?_
    refine own_seg3 p1 p2 (own_S1 p1 p2) (own_S2 p1 p2 (own_S1 p1 p2)) X0 hx hZ hw hby hown ?_
    show Steps p.tables e below (s₁.setTop (mkF m 85 #[.val (.int p1), .val (.int p2), .val (.int (own_S1 p1 p2)), .val (.int (own_S2 p1 p2 (own_S1 p1 p2))), .val (.int (own_S3 p1 p2 (own_S1 p1 p2) (own_S2 p1 p2 (own_S1 p1 p2))))] [])) _
    refine XS.iloadN X0.here hx rfl (hb hby at_85) rfl ?_
    show Steps p.tables e below (s₁.setTop (mkF m 86 #[.val (.int p1), .val (.int p2), .val (.int (own_S1 p1 p2)), .val (.int (own_S2 p1 p2 (own_S1 p1 p2))), .val (.int (own_S3 p1 p2 (own_S1 p1 p2) (own_S2 p1 p2 (own_S1 p1 p2))))] [(.int (own_S1 p1 p2))])) _
    refine st3 _ ?_
    show Steps p.tables e below (T3.setTop (mkF m 89 #[.val (.int p1), .val (.int p2), .val (.int (own_S1 p1 p2)), .val (.int (own_S2 p1 p2 (own_S1 p1 p2))), .val (.int (own_S3 p1 p2 (own_S1 p1 p2) (own_S2 p1 p2 (own_S1 p1 p2))))] [(.int (own_F1 (own_S1 p1 p2)))])) _
    refine XS.iload X3.here hx rfl (hb hby at_89) rfl ?_
    show Steps p.tables e below (T3.setTop (mkF m 91 #[.val (.int p1), .val (.int p2), .val (.int (own_S1 p1 p2)), .val (.int (own_S2 p1 p2 (own_S1 p1 p2))), .val (.int (own_S3 p1 p2 (own_S1 p1 p2) (own_S2 p1 p2 (own_S1 p1 p2))))] [(.int (own_S3 p1 p2 (own_S1 p1 p2) (own_S2 p1 p2 (own_S1 p1 p2)))), (.int (own_F1 (own_S1 p1 p2)))])) _
    refine XS.icmpNo X3.here hx rfl (hb hby at_91) rfl (teq (own_same _ _ _)).2 ?_
    show Steps p.tables e below (T3.setTop (mkF m 94 #[.val (.int p1), .val (.int p2), .val (.int (own_S1 p1 p2)), .val (.int (own_S2 p1 p2 (own_S1 p1 p2))), .val (.int (own_S3 p1 p2 (own_S1 p1 p2) (own_S2 p1 p2 (own_S1 p1 p2))))] [])) _
    refine XS.iconst X3.here hx rfl (hb hby at_94) ?_
    show Steps p.tables e below (T3.setTop (mkF m 95 #[.val (.int p1), .val (.int p2), .val (.int (own_S1 p1 p2)), .val (.int (own_S2 p1 p2 (own_S1 p1 p2))), .val (.int (own_S3 p1 p2 (own_S1 p1 p2) (own_S2 p1 p2 (own_S1 p1 p2))))] [(.int (1 : Int32))])) _
    refine XS.goto X3.here hx rfl (pc0 := 95) (pc' := 99) rfl (hb hby at_95) (by decide) (by decide) ?_
    show Steps p.tables e below (T3.setTop (mkF m 99 #[.val (.int p1), .val (.int p2), .val (.int (own_S1 p1 p2)), .val (.int (own_S2 p1 p2 (own_S1 p1 p2))), .val (.int (own_S3 p1 p2 (own_S1 p1 p2) (own_S2 p1 p2 (own_S1 p1 p2))))] [(.int (1 : Int32))])) _
    exact retN X3 hx (t := .boolean) Bd.returns (by simp) (hb hby at_99) hr
  · show Q0 Z p1 p2 h0 n0 _ T3.heap _
    exact ⟨rfl, N3⟩
set_option maxRecDepth 65536 in
set_option maxHeartbeats 40000000 in
theorem comes_1 {Post : Tables → Env → Array Value → State → Outcome → State → Prop} (hpost : ∀ tb e args s v u, (limb_1_1.after args s (.returned v) u = true ∧ limb_1_2.after args s (.returned v) u = true ∧ True) → FrameEnd s (.returned v) u (Jvm.fieldLocs frame_1_writes args s ++ Jvm.arrayLocs frame_1_arrays args s ++ Jvm.staticLocs frame_1_statics s) 0 0 → Post tb e args s (.returned v) u) :
    ArmFor flags0 classFile x code maxLocals ret World_1 tables_1 room_1 Calls_1 rest_1 Pre_1 Post := by
  intro l hfl _ _ p e ha hc hk s m args below hf hA hF happ hP
  obtain ⟨hcalls, hrest, hpre⟩ := hP
  obtain ⟨-, -, -, hnamed, -, -, -, hat⟩ := (Spec.applies_iff hf).mp happ
  obtain ⟨hg, hn⟩ := and_e (Cond.before_iff.mp (show (Jvm.Cond.and given_1 narrow_1).before args s = true from hpre))
  obtain ⟨g4, g5⟩ := and_e hg
  obtain ⟨g6, g7⟩ := and_e g5
  obtain ⟨w0, w1, rfl⟩ : ∃ w0 w1 : Value, args = #[w0, w1] := by
    have hs : args.size = 2 := by simpa [Cond.value, given_1] using g4
    obtain ⟨L⟩ := args
    match L, hs with
    | [w0, w1], _ => exact ⟨w0, w1, rfl⟩
  have hw := fun d (hd : d ∈ tables_1) => atoms_spec (ws := Jvm.Cond.code x code maxLocals ret :: tables_1) hat d (List.mem_cons_of_mem _ hd)
  have hfit : Fit s := fun {y c} hc i hi => by
    obtain ⟨ha, rfl⟩ := Array.getElem?_eq_some_iff.mp hc
    have q := List.all_eq_true.mp ((Array.all_eq_true_iff_forall_mem.mp hF) _ (Array.getElem_mem ha)) i (List.mem_range.mpr hi)
    simpa [Array.getElem?_eq_getElem hi] using q
  obtain ⟨i0, ei0⟩ := is_v g6
  obtain rfl : w0 = (.int i0) := Option.some.inj ei0
  obtain ⟨i1, ei1⟩ := is_v g7
  obtain rfl : w1 = (.int i1) := Option.some.inj ei1
  obtain ⟨n, o, h1, h2, h3, _, L, rfl, ⟨rfl, N⟩, hq⟩ := rm0 l s _ hw tables_1 i0 i1 s.heap s.heap.size (Nat.le_refl _) p e ha hc hk s m _ below hf ((Spec.applies_iff_loose hf).mp happ).1 ⟨rfl, State.Warmed39.refl s, rfl⟩ trivial
  refine ⟨n, _, h1, h2, h3, hpost _ _ _ _ _ _ ⟨Cond.after_iff.mpr rfl, Cond.after_iff.mpr (eq_i res_at (Term.int_eval (1)) rfl), trivial⟩ ⟨hq.1, hq.2.1, (hq.2.2.sift fun y hy => Or.inr (N y hy)).mono (by decide) (by decide)⟩⟩
theorem main_1_1 : Claimed_1_1 := comes_1 fun _ _ _ _ _ _ h hF => ⟨h.1, hF⟩
theorem main_1_2 : Claimed_1_2 := comes_1 fun _ _ _ _ _ _ h hF => ⟨h.2.1, hF⟩
end Jvm.Pilot.@@N@@
namespace Jvm.Pilot.@@N@@
open Jvm Jvm.ClassFile Sem Op Lib Jvm.Free Jvm.Stand Jvm.Pilot.@@N@@.Jvm.D
/-! MADE BY PROGRAM (witnessworld.py) out of the Statement's table words and the real class files: 9 classes; the members and pool entries that the words name. The judged class is class 1, her method 1. -/
namespace start1
open Jvm.ClassFile
def u (s : String) : CpInfo := .utf8 (stringToUtf16 s)
/-- a pool by its gaps: so many unusable entries, then the entry; so many at the end -/
def gap : Nat → List CpInfo → List CpInfo
  | 0, r => r
  | n + 1, r => .unusable :: gap n r
def poolList (es : List (Nat × CpInfo)) (last : Nat) : List CpInfo := es.foldr (fun e r => gap e.1 (e.2 :: r)) (gap last [])
def pool (es : List (Nat × CpInfo)) (last : Nat) : Array CpInfo := ⟨poolList es last⟩
def fileOf (pool : Array CpInfo) (this : Nat) (attrs : Array Attribute := #[]) (ms : Array MethodInfo := #[]) (fl : Nat := 33) (sup : Nat := 0) (ifs : Array Nat := #[]) (fds : Array FieldInfo := #[]) : ClassFile where
  minorVersion := 0
  majorVersion := 65
  constantPool := pool
  accessFlags := fl
  thisClass := this
  superClass := sup
  interfaces := ifs
  fields := fds
  methods := ms
  attributes := attrs
def plain (name : String) (sup : Option ClassId) : Class where
  name := name
  kind := .ordinary
  loader := none
  accessFlags := 33
  super := sup
  interfaces := #[]
  cf := none
  fields := #[]
  methods := #[]
  instanceTypes := #[]
  staticTypes := #[]
  resolved := #[]
  callSites := []
  init := .initialized
  statics := none
  mirror := none

def pool0 : Array CpInfo := pool [(5, u "<init>"), (0, u "()V"), (1, .class_ 10), (1, u "java/lang/Object")] 113

def k0m0 : Method := { name := "<init>", desc := "()V", sig := { parameters := [], returnType := none }, accessFlags := 1, code := none }
/-- java/lang/Object -/
def k0 : Class := { plain "java/lang/Object" none with
  accessFlags := 33
  interfaces := #[]
  cf := some (fileOf pool0 8 #[] #[{ accessFlags := 1, nameIndex := 5, descriptorIndex := 6, attributes := #[] }] 33 0 #[] #[])
  fields := #[]
  methods := #[k0m0]
  instanceTypes := #[]
  staticTypes := #[]
  resolved := Array.replicate 124 none
  statics := none }

def pool1 : Array CpInfo := pool [(2, .class_ 4), (1, u "java/lang/Object"), (0, u "<init>"), (0, u "()V"), (0, .methodref 8 9), (0, .class_ 10), (0, .nameAndType 11 12), (0, u "com/example/tracewell/tracewell/XmlSyntax"), (0, u "isRestricted11"), (0, u "(I)Z"), (0, .class_ 14), (0, u "com/example/tracewell/tracewell/XmlSyntaxIsRestricted11PinLaw"), (2, u "law"), (0, u "(II)Z")] 3

def k1m0 : Method := { name := "<init>", desc := "()V", sig := { parameters := [], returnType := none }, accessFlags := 2, code := none }
def k1c1 : Code := { maxStack := 2, maxLocals := 5, code := code, exceptionTable := #[], attributes := #[] }
def k1m1 : Method := { name := "law", desc := "(II)Z", sig := { parameters := [.int, .int], returnType := some .boolean }, accessFlags := 9, code := some k1c1 }
/-- com/example/tracewell/tracewell/XmlSyntaxIsRestricted11PinLaw -/
def k1 : Class := { plain "com/example/tracewell/tracewell/XmlSyntaxIsRestricted11PinLaw" (some 0) with
  accessFlags := 49
  interfaces := #[]
  cf := some (fileOf pool1 13 #[] #[{ accessFlags := 2, nameIndex := 5, descriptorIndex := 6, attributes := #[] }, { accessFlags := 9, nameIndex := 17, descriptorIndex := 18, attributes := #[] }] 49 2 #[] #[])
  fields := #[]
  methods := #[k1m0, k1m1]
  instanceTypes := #[]
  staticTypes := #[]
  resolved := Array.replicate 22 none
  statics := none }

def pool2 : Array CpInfo := pool [(2, .class_ 4), (1, u "java/lang/Object"), (0, u "<init>"), (0, u "()V"), (10, .class_ 19), (1, u "com/example/tracewell/tracewell/XmlSyntax"), (1, u "(I)Z"), (32, u "ENCODING_NAME"), (0, u "Ljava/util/regex/Pattern;"), (0, u "BLANK"), (0, u "Ljava/lang/String;"), (9, u "isRestricted11")] 8

def k2m0 : Method := { name := "<init>", desc := "()V", sig := { parameters := [], returnType := none }, accessFlags := 2, code := none }
def k2c1 : Code := { maxStack := 2, maxLocals := 1, code := prog_56_method_5_code, exceptionTable := #[], attributes := #[] }
def k2m1 : Method := { name := "isRestricted11", desc := "(I)Z", sig := { parameters := [.int], returnType := some .boolean }, accessFlags := 8, code := some k2c1 }
/-- com/example/tracewell/tracewell/XmlSyntax -/
def k2 : Class := { plain "com/example/tracewell/tracewell/XmlSyntax" (some 0) with
  accessFlags := 48
  interfaces := #[]
  cf := some (fileOf pool2 17 #[] #[{ accessFlags := 2, nameIndex := 5, descriptorIndex := 6, attributes := #[] }, { accessFlags := 8, nameIndex := 67, descriptorIndex := 21, attributes := #[] }] 48 2 #[] #[{ accessFlags := 24, nameIndex := 54, descriptorIndex := 55, attributes := #[] }, { accessFlags := 24, nameIndex := 56, descriptorIndex := 57, attributes := #[] }])
  fields := #[{ name := "ENCODING_NAME", type := (.object "java/util/regex/Pattern"), accessFlags := 24, slot := 0, constantValue := 0 }, { name := "BLANK", type := (.object "java/lang/String"), accessFlags := 24, slot := 1, constantValue := 0 }]
  methods := #[k2m0, k2m1]
  instanceTypes := #[]
  staticTypes := #[(.object "java/util/regex/Pattern"), (.object "java/lang/String")]
  resolved := Array.replicate 76 none
  statics := none }

def pool3 : Array CpInfo := pool [(1, u "java/lang/Cloneable"), (0, .class_ 1), (0, u "java/lang/Object"), (0, .class_ 3)] 3

/-- java/lang/Cloneable -/
def k3 : Class := { plain "java/lang/Cloneable" (some 0) with
  accessFlags := 1537
  interfaces := #[]
  cf := some (fileOf pool3 2 #[] #[] 1537 4 #[] #[])
  fields := #[]
  methods := #[]
  instanceTypes := #[]
  staticTypes := #[]
  resolved := Array.replicate 8 none
  statics := none }

def pool4 : Array CpInfo := pool [(1, u "java/io/Serializable"), (0, .class_ 1), (0, u "java/lang/Object"), (0, .class_ 3)] 3

/-- java/io/Serializable -/
def k4 : Class := { plain "java/io/Serializable" (some 0) with
  accessFlags := 1537
  interfaces := #[]
  cf := some (fileOf pool4 2 #[] #[] 1537 4 #[] #[])
  fields := #[]
  methods := #[]
  instanceTypes := #[]
  staticTypes := #[]
  resolved := Array.replicate 8 none
  statics := none }

/-- the primitive byte -/
def k5 : Class := { plain "byte" none with kind := .primitive 'B', accessFlags := 0x411 }
/-- [B -/
def k6 : Class := { plain "[B" (some 0) with kind := .array 5 .byte, interfaces := #[3, 4], accessFlags := 1041 }

/-- the primitive int -/
def k7 : Class := { plain "int" none with kind := .primitive 'I', accessFlags := 0x411 }
/-- [I -/
def k8 : Class := { plain "[I" (some 0) with kind := .array 7 .int, interfaces := #[3, 4], accessFlags := 1041 }

def heap : Heap := #[]
def classes : Array Class := #[k0, k1, k2, k3, k4, k5, k6, k7, k8]
def interned : List (Array UInt16 × Addr) := []
def slotsUsed : Nat := 0
def theMethod : MethodId := ⟨1, 1⟩
def args0 : Array Value := #[.int 5, .int 1]
def aboutOver (below : List Frame) : State where
  vm := { classes := classes, interned := interned.toArray }
  heap := heap
  slotsUsed := slotsUsed
  threads := #[{ frames := .invoking theMethod args0 :: below }]
def below0 : List Frame := [.native { method := ⟨0, 0⟩, args := #[] }]
def about1 : State := aboutOver below0
def p0 : Program := .bare "" "" ""
def e0 : Env := launch0.env 0 0 0
theorem w_frames : about1.frames = Frame.invoking theMethod args0 :: below0 := rfl
set_option maxRecDepth 65536 in
theorem w_args : argsFit about1.vm theMethod args0 = true := by decide +kernel
set_option maxRecDepth 65536 in
theorem w_heap : heapFits about1 = true := by decide +kernel
set_option maxRecDepth 65536 in
theorem w_runnable : about1.curStatus? = some .runnable := by decide +kernel
set_option maxRecDepth 65536 in
theorem w_alone : about1.alone = true := by decide +kernel
set_option maxRecDepth 65536 in
theorem w_named : about1.methodNamed? x = some theMethod := by decide +kernel
set_option maxRecDepth 65536 in
theorem w_hears : about1.hears theMethod below0 = true := by decide +kernel
set_option maxRecDepth 65536 in
theorem w_ripe : about1.ripe theMethod args0 below0 = true := by decide +kernel
theorem w_running : about1.status = .running := rfl
set_option maxRecDepth 65536 in
theorem w_room : about1.hasRoom e0.platform room_1 = true :=
  launch0.hasRoom_least _ room_1 (by decide +kernel) (by decide +kernel) (by decide +kernel) (by decide +kernel) (by decide +kernel) (by decide +kernel)
theorem allAtoms_all (ts : List Jvm.Cond) (a : Array Jvm.Value) (st : Jvm.State) : (allAtoms ts).before a st = ts.all (fun c => c.before a st) := by
  induction ts with
  | nil => rfl
  | cons c t ih =>
    show (Jvm.Cond.and c (allAtoms t)).before a st = _
    rw [Jvm.Cond.before_and, ih, List.all_cons]
def words1 : List Jvm.Cond := Jvm.Cond.code x code maxLocals ret :: tables_1
/-- a 'code' word, met by the world's own term for the bytes: nothing is compared byte by byte -/
theorem code_word {y : MethodName} {bytes : ByteArray} {mx : Nat} {rt : Option FieldType} {a : Array Value} {s : State} {m : MethodId} {meth : Method} {c : Code} (h1 : s.methodNamed? y = some m) (h2 : s.vm.method? m = some meth) (h3 : meth.code = some c) (h4 : c.code = bytes)
    (h5 : (c.maxLocals == mx && c.exceptionTable.isEmpty && decide (c.maxStack ≤ mostOperands) && decide (meth.sig.returnType = rt) && !meth.locks && decide (parseMethodDescriptor y.desc = some meth.sig)) = true) : (Jvm.Cond.code y bytes mx rt).before a s = true := by
  simp only [Bool.and_eq_true, beq_iff_eq, Bool.not_eq_true', decide_eq_true_eq] at h5
  obtain ⟨⟨⟨⟨⟨g1, g2⟩, g3⟩, g4⟩, g5⟩, g6⟩ := h5
  simp [Cond.before, Cond.holds, Cond.value, h1, h2, h3, h4, g1, g2, g3, g4, g5, g6]
def isCode : Jvm.Cond → Bool
  | .code _ _ _ _ => true
  | _ => false
theorem all_split {L : List Jvm.Cond} {P : Jvm.Cond → Bool} (h1 : L.all (fun c => isCode c || P c) = true) (h2 : ∀ c ∈ L.filter isCode, P c = true) : L.all P = true := by
  refine List.all_eq_true.mpr fun c hc => ?_
  have h := List.all_eq_true.mp h1 c hc
  rcases Bool.eq_false_or_eq_true (isCode c) with hi | hi
  · exact h2 c (List.mem_filter.mpr ⟨hc, hi⟩)
  · simpa [hi] using h
set_option maxRecDepth 65536 in
theorem w_c0 : (Jvm.Cond.code x code maxLocals ret).before args0 about1 = true := code_word (m := ⟨1, 1⟩) (meth := k1m1) (c := k1c1) (by decide +kernel) rfl rfl rfl (by decide +kernel)
set_option maxRecDepth 65536 in
theorem w_c1 : (Jvm.Cond.code ({ cls := "com/example/tracewell/tracewell/XmlSyntax", name := "isRestricted11", desc := "(I)Z" } : Jvm.MethodName) prog_56_method_5_code (1 : Nat) (Option.some Jvm.ClassFile.FieldType.boolean)).before args0 about1 = true := code_word (m := ⟨2, 1⟩) (meth := k2m1) (c := k2c1) (by decide +kernel) rfl rfl rfl (by decide +kernel)
def codes1 : List Jvm.Cond := [Jvm.Cond.code x code maxLocals ret, Jvm.Cond.code ({ cls := "com/example/tracewell/tracewell/XmlSyntax", name := "isRestricted11", desc := "(I)Z" } : Jvm.MethodName) prog_56_method_5_code (1 : Nat) (Option.some Jvm.ClassFile.FieldType.boolean)]
set_option maxRecDepth 65536 in
theorem codes_eq : words1.filter isCode = codes1 := rfl
theorem w_codes : ∀ c ∈ words1.filter isCode, c.before args0 about1 = true := by
  rw [codes_eq]
  intro c hc
  simp only [codes1, List.mem_cons, List.not_mem_nil, or_false] at hc
  rcases hc with rfl | rfl
  · exact w_c0
  · exact w_c1
set_option maxRecDepth 65536 in
theorem w_t1 : words1.all (fun c => isCode c || c.before args0 about1) = true := by decide +kernel
theorem w_tables : (allAtoms (Jvm.Cond.code x code maxLocals ret :: tables_1)).before args0 about1 = true := by
  rw [allAtoms_all]
  show words1.all (fun c => c.before args0 about1) = true
  refine all_split ?_ w_codes
  rw [w_t1]
set_option maxRecDepth 65536 in
theorem w_case : (Jvm.Cond.and given_1 narrow_1).before args0 about1 = true := by decide +kernel
theorem w_applies : (headSpec (Jvm.Cond.code x code maxLocals ret :: tables_1) room_1).applies x e0.platform about1 = true :=
  (Spec.applies_iff w_frames).mpr ⟨w_running, w_runnable, w_alone, w_named, w_hears, w_ripe, w_room, w_tables⟩
theorem atStart : AtStart classFile x code maxLocals ret World_1 tables_1 room_1 Calls_1 rest_1 Pre_1 launch0 p0 e0 about1 theMethod args0 below0 :=
  ⟨lists_1, trivial, launch0.admits_env _ _ _, launch0.least_env, fairChoices_fair.cas, fairChoices_fair.clock, w_frames, w_args, w_heap, w_applies, trivial, trivial, w_case⟩
end start1
theorem witness_1 : WitnessClaimed_1 := ⟨start1.p0, start1.e0, start1.about1, start1.theMethod, start1.args0, start1.below0, start1.atStart⟩
end Jvm.Pilot.@@N@@
