import JvmDerived
import JvmDerived.Pilot.@@N@@Statement
import JvmDerived.Pilot.@@N@@Code
set_option linter.unusedVariables false
set_option linter.unusedSimpArgs false
@@BLOCK:NumsL.lean.txt@@
namespace Jvm.RoadKit
open Sem ClassFile Op Lib Jvm.Stand Jvm.Free Jvm.LawKit
section New
variable {p : Program} {l : Launch} {e : Env} {R : Room} {s : State} {m : MethodId} {args : Array Value} {below : List Frame} {meth : Method} {c : Code} {T : State} {locs : List Loc} {cells slots : Nat}
theorem retI (X : Stand p l e R s m args below meth c T locs cells slots) (hx : p.tables.exec = Jvm.exec) {pc : Nat} {Ls : Array Slot} {z : Int32} {rest : List Value} (hret : meth.sig.returnType = some .int) (hd : decode c.code pc = .ok (.ireturn, 1)) {fs : List Frame}
    (hl : ∀ (f : JFrame) (acts : List Action), f.method = m → f.locked = none → f.entered = [] → (doReturn e (T.setTop f) acts (some (.int z))).1 = T.setFrames fs) : Steps p.tables e below (T.setTop (mkF m pc Ls (.int z :: rest))) (T.setFrames fs) := by
  have hm' : T.vm.method? m = some meth := X.method'
  have hn : narrow .int (.int z) = .int z := rfl
  show Steps p.tables e below (T.setTop { method := m, pc := pc, locals := Ls, stack := _ :: rest, locked := none }) _
  jvm_step X.here [X.here.top, hx, hd, hm', hret, hn]
  first | (intro acts; rw [hl _ acts rfl rfl rfl]) | rw [hl _ _ rfl rfl rfl]
  exact Steps.refl _
end New
end Jvm.RoadKit
namespace Jvm.Pilot.@@N@@
open Jvm Jvm.ClassFile Sem Op Lib Jvm.Free Jvm.Stand Jvm.LawKit Jvm.RoadKit Bundle Jvm.Pilot.@@N@@.Jvm.D
theorem d1_0 : decode prog_1_method_15_code 0 = .ok (.lload_n 0, 1) := by decide +kernel
theorem d1_1 : decode prog_1_method_15_code 1 = .ok (.ldc2_w 102, 3) := by decide +kernel
theorem d1_4 : decode prog_1_method_15_code 4 = .ok (.ladd, 1) := by decide +kernel
theorem d1_5 : decode prog_1_method_15_code 5 = .ok (.lconst 1, 1) := by decide +kernel
theorem d1_6 : decode prog_1_method_15_code 6 = .ok (.lsub, 1) := by decide +kernel
theorem d1_7 : decode prog_1_method_15_code 7 = .ok (.ldc2_w 102, 3) := by decide +kernel
theorem d1_10 : decode prog_1_method_15_code 10 = .ok (.ldiv, 1) := by decide +kernel
theorem d1_11 : decode prog_1_method_15_code 11 = .ok (.l2i, 1) := by decide +kernel
theorem d1_12 : decode prog_1_method_15_code 12 = .ok (.ireturn, 1) := by decide +kernel
theorem pn_1 : plainName "com/example/universe_into_bits/universeintobits/BloomFilter" = true := by first | (simp [plainName, overriddenIn]; done) | decide +kernel
theorem ef_1 (m : MethodId) (q1 : Int64) : entryFrame m #[(.long q1)] 2 = (mkF m 0 #[.val (.long q1), .second] []) := by first | (simp [entryFrame, mkF, argsToLocals, Value.category]; done) | rfl
def own_F1 (q1 : Int64) : Int32 := ((((q1 + (64 : Int64)) - (1 : Int64)) / (64 : Int64)).toInt32)
def Q1 (Z : State) (q1 : Int64) (h0 : Heap) (n0 : Nat) (v : Option Value) (h : Heap) (L : List Loc) : Prop := v = some (.int (own_F1 q1)) ∧ Fr n0 L ∧ h = h0
set_option maxRecDepth 65536 in
set_option maxHeartbeats 40000000 in
theorem rm1 (l : Launch) (Z : State) (a0 : Array Value) (hw : ∀ d ∈ tables_1, d.before a0 Z = true) (ws : List Jvm.Cond) (q1 : Int64) (h0 : Heap) (n0 : Nat) (Z0 : n0 ≤ h0.size) :
    MetFree l (⟨"com/example/universe_into_bits/universeintobits/BloomFilter", "wordsFor", "(J)I"⟩ : MethodName) (head1 (Jvm.Cond.code (⟨"com/example/universe_into_bits/universeintobits/BloomFilter", "wordsFor", "(J)I"⟩ : MethodName) prog_1_method_15_code 2 (some .int) :: ws) ({ frames := 0, cells := 0, slots := 0, locals := 0 } : Room)) (fun a U => a = #[(.long q1)] ∧ Z.Warmed39 U.vm ∧ U.heap = h0) (fun _ _ _ _ _ => True) (fun _ U o U' => ∃ v L, o = .returned v ∧ Q1 Z q1 h0 n0 v U'.heap L ∧ FrameEnd U o U' L ({ frames := 0, cells := 0, slots := 0, locals := 0 } : Room).cells ({ frames := 0, cells := 0, slots := 0, locals := 0 } : Room).slots) := by
  refine MetFree.of_bodySF (plainFor_of_name pn_1) hisR ?_
  intro p e s m args below meth c s₁ Bd hml0 hP hK
  obtain ⟨rfl, hZ, hh⟩ := hP
  have hx := Bd.exec
  have hby := Bd.bytes
  have hml : c.maxLocals = 2 := hml0
  have hown : s.vm.findClass "com/example/universe_into_bits/universeintobits/BloomFilter" = some m.cls := findClass_of_methodNamed Bd.named
  have X0 : Stand p l e ({ frames := 0, cells := 0, slots := 0, locals := 0 } : Room) s m #[(.long q1)] below meth c s₁ [] 0 0 := Stand.of_body Bd
  have e0 : s₁.heap = h0 := by rw [← hh, Bd.state]; rfl
  have N0 := Fr.nil n0
  have pre0 : ∀ t, Steps p.tables e below (s₁.setTop (mkF m 0 #[.val (.long q1), .second] [])) t → Steps p.tables e below (s₁.setTop (entryFrame m #[(.long q1)] 2)) t := fun t k => castTop (ef_1 m q1) k
  obtain ⟨fs, hr, hrun, hended, hW, hsame⟩ := X0.leave (v := some (.int (own_F1 q1))) (fun h => by rw [Bd.returns] at h; cases h)
  refine ⟨_, _, pre0 _ ?_, hrun, hended, _, _, rfl, ?_, ⟨_, rfl⟩, hW, hsame.mono (by decide) (by decide)⟩
  · show Steps p.tables e below (s₁.setTop (mkF m 0 #[.val (.long q1), .second] [])) _
    refine XS.lloadN X0.here hx rfl (hb hby d1_0) rfl ?_
    show Steps p.tables e below (s₁.setTop (mkF m 1 #[.val (.long q1), .second] [(.long q1)])) _
    refine X0.ldc2Long hx hown (mvT hZ (hw _ (List.mem_of_getElem? (i := 6) rfl))) (g := (mkF m 1 #[.val (.long q1), .second] [(.long q1)])) rfl (hb hby d1_1) _ ?_
    show Steps p.tables e below (s₁.setTop (mkF m 4 #[.val (.long q1), .second] [(.long (64 : Int64)), (.long q1)])) _
    refine XS.ladd X0.here hx rfl (hb hby d1_4) rfl ?_
    show Steps p.tables e below (s₁.setTop (mkF m 5 #[.val (.long q1), .second] [(.long (q1 + (64 : Int64)))])) _
    refine XS.lconst X0.here hx rfl (hb hby d1_5) ?_
    show Steps p.tables e below (s₁.setTop (mkF m 6 #[.val (.long q1), .second] [(.long (1 : Int64)), (.long (q1 + (64 : Int64)))])) _
    refine XS.lsub X0.here hx rfl (hb hby d1_6) rfl ?_
    show Steps p.tables e below (s₁.setTop (mkF m 7 #[.val (.long q1), .second] [(.long ((q1 + (64 : Int64)) - (1 : Int64)))])) _
    refine X0.ldc2Long hx hown (mvT hZ (hw _ (List.mem_of_getElem? (i := 6) rfl))) (g := (mkF m 7 #[.val (.long q1), .second] [(.long ((q1 + (64 : Int64)) - (1 : Int64)))])) rfl (hb hby d1_7) _ ?_
    show Steps p.tables e below (s₁.setTop (mkF m 10 #[.val (.long q1), .second] [(.long (64 : Int64)), (.long ((q1 + (64 : Int64)) - (1 : Int64)))])) _
    refine XS.ldiv X0.here hx rfl (hb hby d1_10) rfl (by decide) ?_
    show Steps p.tables e below (s₁.setTop (mkF m 11 #[.val (.long q1), .second] [(.long (((q1 + (64 : Int64)) - (1 : Int64)) / (64 : Int64)))])) _
    refine XS.l2i X0.here hx rfl (hb hby d1_11) rfl ?_
    show Steps p.tables e below (s₁.setTop (mkF m 12 #[.val (.long q1), .second] [(.int ((((q1 + (64 : Int64)) - (1 : Int64)) / (64 : Int64)).toInt32))])) _
    have hv : (own_F1 q1) = ((((q1 + (64 : Int64)) - (1 : Int64)) / (64 : Int64)).toInt32) := by unfold own_F1; rfl
    rw [hv] at hr
    exact retI X0 hx Bd.returns (hb hby d1_12) hr
  · show Q1 Z q1 h0 n0 _ s₁.heap _
    rw [e0]
    exact ⟨rfl, N0, rfl⟩
def own_S1 (q1 : Int64) : Int64 := (((q1 &&& (9223372036854775807 : Int64)) - ((q1 &&& (9223372036854775807 : Int64)) / (137438952896 : Int64)) * (137438952896 : Int64)) + (1 : Int64))
set_option maxRecDepth 65536 in
set_option maxHeartbeats 40000000 in
theorem own_seg1 {p : Program} {l : Launch} {e : Env} {R : Room} {s : State} {m : MethodId} {args : Array Value} {below : List Frame} {meth : Method} {c : Code} {T0 : State} {locs : List Loc} {cells slots : Nat} {Z : State} {a0 : Array Value} (q1 : Int64) (X0 : Stand p l e R s m args below meth c T0 locs cells slots) (hx : p.tables.exec = Jvm.exec) (hZ : Z.Warmed39 s.vm) (hw : ∀ d ∈ tables_1, d.before a0 Z = true) (hby : c.code = code) (hown : s.vm.findClass "com/example/universe_into_bits/universeintobits/BloomFilterWordsForPinLaw" = some m.cls) {target : State} (kt : Steps p.tables e below (T0.setTop (mkF m 12 #[.val (.long q1), .second, .val (.long (own_S1 q1)), .second, .unset, .unset, .unset, .unset, .unset] [])) target) :
    Steps p.tables e below (T0.setTop (mkF m 0 #[.val (.long q1), .second, .unset, .unset, .unset, .unset, .unset, .unset, .unset] [])) target := by
  show Steps p.tables e below (T0.setTop (mkF m 0 #[.val (.long q1), .second, .unset, .unset, .unset, .unset, .unset, .unset, .unset] [])) _
  refine XS.lloadN X0.here hx rfl (hb hby at_0) rfl ?_
  show Steps p.tables e below (T0.setTop (mkF m 1 #[.val (.long q1), .second, .unset, .unset, .unset, .unset, .unset, .unset, .unset] [(.long q1)])) _
  refine X0.ldc2Long hx hown (mvT hZ (hw _ (List.mem_of_getElem? (i := 0) rfl))) (g := (mkF m 1 #[.val (.long q1), .second, .unset, .unset, .unset, .unset, .unset, .unset, .unset] [(.long q1)])) rfl (hb hby at_1) _ ?_
  show Steps p.tables e below (T0.setTop (mkF m 4 #[.val (.long q1), .second, .unset, .unset, .unset, .unset, .unset, .unset, .unset] [(.long (9223372036854775807 : Int64)), (.long q1)])) _
  refine XS.land X0.here hx rfl (hb hby at_4) rfl ?_
  show Steps p.tables e below (T0.setTop (mkF m 5 #[.val (.long q1), .second, .unset, .unset, .unset, .unset, .unset, .unset, .unset] [(.long (q1 &&& (9223372036854775807 : Int64)))])) _
  refine X0.ldc2Long hx hown (mvT hZ (hw _ (List.mem_of_getElem? (i := 1) rfl))) (g := (mkF m 5 #[.val (.long q1), .second, .unset, .unset, .unset, .unset, .unset, .unset, .unset] [(.long (q1 &&& (9223372036854775807 : Int64)))])) rfl (hb hby at_5) _ ?_
  show Steps p.tables e below (T0.setTop (mkF m 8 #[.val (.long q1), .second, .unset, .unset, .unset, .unset, .unset, .unset, .unset] [(.long (137438952896 : Int64)), (.long (q1 &&& (9223372036854775807 : Int64)))])) _
  refine XS.lrem X0.here hx rfl (hb hby at_8) rfl (by decide) ?_
  show Steps p.tables e below (T0.setTop (mkF m 9 #[.val (.long q1), .second, .unset, .unset, .unset, .unset, .unset, .unset, .unset] [(.long ((q1 &&& (9223372036854775807 : Int64)) - ((q1 &&& (9223372036854775807 : Int64)) / (137438952896 : Int64)) * (137438952896 : Int64)))])) _
  refine XS.lconst X0.here hx rfl (hb hby at_9) ?_
  show Steps p.tables e below (T0.setTop (mkF m 10 #[.val (.long q1), .second, .unset, .unset, .unset, .unset, .unset, .unset, .unset] [(.long (1 : Int64)), (.long ((q1 &&& (9223372036854775807 : Int64)) - ((q1 &&& (9223372036854775807 : Int64)) / (137438952896 : Int64)) * (137438952896 : Int64)))])) _
  refine XS.ladd X0.here hx rfl (hb hby at_10) rfl ?_
  show Steps p.tables e below (T0.setTop (mkF m 11 #[.val (.long q1), .second, .unset, .unset, .unset, .unset, .unset, .unset, .unset] [(.long (((q1 &&& (9223372036854775807 : Int64)) - ((q1 &&& (9223372036854775807 : Int64)) / (137438952896 : Int64)) * (137438952896 : Int64)) + (1 : Int64)))])) _
  refine XS.lstoreN X0.here hx rfl (hb hby at_11) rfl (l' := #[.val (.long q1), .second, .val (.long (((q1 &&& (9223372036854775807 : Int64)) - ((q1 &&& (9223372036854775807 : Int64)) / (137438952896 : Int64)) * (137438952896 : Int64)) + (1 : Int64))), .second, .unset, .unset, .unset, .unset, .unset]) rfl ?_
  show Steps p.tables e below (T0.setTop (mkF m 12 #[.val (.long q1), .second, .val (.long (((q1 &&& (9223372036854775807 : Int64)) - ((q1 &&& (9223372036854775807 : Int64)) / (137438952896 : Int64)) * (137438952896 : Int64)) + (1 : Int64))), .second, .unset, .unset, .unset, .unset, .unset] [])) _
  have hv : (own_S1 q1) = (((q1 &&& (9223372036854775807 : Int64)) - ((q1 &&& (9223372036854775807 : Int64)) / (137438952896 : Int64)) * (137438952896 : Int64)) + (1 : Int64)) := by unfold own_S1; rfl
  rw [hv] at kt
  exact kt
theorem own_bits (q : Int64) : 1 ≤ (own_S1 q).toInt ∧ (own_S1 q).toInt ≤ 137438952896 := by
  have e1 : (q &&& (9223372036854775807 : Int64)).toInt = q.toInt % 2 ^ 63 := Jvm.Kit.i64_mask q _ (k := 63) (by decide) (by decide)
  have e2 : ((q &&& (9223372036854775807 : Int64)) - ((q &&& (9223372036854775807 : Int64)) / (137438952896 : Int64)) * (137438952896 : Int64)).toInt = (q &&& (9223372036854775807 : Int64)).toInt % (137438952896 : Int64).toInt := Jvm.Kit.i64_rem_nonneg (by rw [e1]; omega)
  have e3 : (137438952896 : Int64).toInt = 137438952896 := by decide
  have e4 : (1 : Int64).toInt = 1 := by decide
  rw [e3] at e2
  unfold own_S1
  rw [Jvm.Kit.i64_add (by rw [e2, e4]; omega) (by rw [e2, e4]; omega), e2, e4]
  omega
theorem own_words {b : Int64} (h1 : 1 ≤ b.toInt) (h2 : b.toInt ≤ 137438952896) : (own_F1 b).toInt = (b.toInt + 63) / 64 := by
  have e64 : (64 : Int64).toInt = 64 := by decide
  have e1 : (1 : Int64).toInt = 1 := by decide
  have a1 : (b + (64 : Int64)).toInt = b.toInt + 64 := by rw [Jvm.Kit.i64_add (by rw [e64]; omega) (by rw [e64]; omega), e64]
  have a2 : ((b + (64 : Int64)) - (1 : Int64)).toInt = b.toInt + 63 := by rw [Jvm.Kit.i64_sub (by rw [a1, e1]; omega) (by rw [a1, e1]; omega), a1, e1]; omega
  have a3 : (((b + (64 : Int64)) - (1 : Int64)) / (64 : Int64)).toInt = (b.toInt + 63) / 64 := by
    rw [Jvm.Kit.i64_div (by rw [e64]; omega), a2, e64, Int.tdiv_eq_ediv_of_nonneg (by omega)]
  unfold own_F1
  rw [Jvm.Kit.i32_of_i64 (by rw [a3]; omega) (by rw [a3]; omega), a3]
theorem own_facts (q : Int64) : ¬ ((own_F1 (own_S1 q)).toInt64 * (64 : Int64) < own_S1 q) ∧ ((own_F1 (own_S1 q)).toInt64 - (1 : Int64)) * (64 : Int64) < own_S1 q ∧ ¬ ((2147483639 : Int64) < (own_F1 (own_S1 q)).toInt64) := by
  obtain ⟨h1, h2⟩ := own_bits q
  have hw := own_words h1 h2
  generalize own_S1 q = b at *
  have hl : (own_F1 b).toInt64.toInt = (b.toInt + 63) / 64 := by rw [Jvm.Kit.i64_of_i32, hw]
  generalize (own_F1 b).toInt64 = w at *
  have e64 : (64 : Int64).toInt = 64 := by decide
  have e1 : (1 : Int64).toInt = 1 := by decide
  have eM : (2147483639 : Int64).toInt = 2147483639 := by decide
  have m1 : (w * (64 : Int64)).toInt = w.toInt * 64 := by rw [Jvm.Kit.i64_mul (by rw [e64]; omega) (by rw [e64]; omega), e64]
  have m2 : (w - (1 : Int64)).toInt = w.toInt - 1 := by rw [Jvm.Kit.i64_sub (by rw [e1]; omega) (by rw [e1]; omega), e1]
  have m3 : ((w - (1 : Int64)) * (64 : Int64)).toInt = (w.toInt - 1) * 64 := by rw [Jvm.Kit.i64_mul (by rw [e64, m2]; omega) (by rw [e64, m2]; omega), e64, m2]
  refine ⟨?_, ?_, ?_⟩
  · rw [Int64.lt_iff_toInt_lt, m1]; omega
  · rw [Int64.lt_iff_toInt_lt, m3]; omega
  · rw [Int64.lt_iff_toInt_lt, eM]; omega
theorem pn_0 : plainName "com/example/universe_into_bits/universeintobits/BloomFilterWordsForPinLaw" = true := by first | (simp [plainName, overriddenIn]; done) | decide +kernel
theorem pd_0_0 : parseMethodDescriptor "(J)I" = some ⟨[.long], some .int⟩ := by decide +kernel
theorem ef_0 (m : MethodId) (q1 : Int64) : entryFrame m #[(.long q1)] maxLocals = (mkF m 0 #[.val (.long q1), .second, .unset, .unset, .unset, .unset, .unset, .unset, .unset] []) := by first | (simp [entryFrame, mkF, argsToLocals, Value.category, maxLocals]; done) | rfl
def Q0 (Z : State) (q1 : Int64) (h0 : Heap) (n0 : Nat) (v : Option Value) (h : Heap) (L : List Loc) : Prop := v = some (.int (1 : Int32)) ∧ Fr n0 L
set_option maxRecDepth 65536 in
set_option maxHeartbeats 40000000 in
theorem rm0 (l : Launch) (Z : State) (a0 : Array Value) (hw : ∀ d ∈ tables_1, d.before a0 Z = true) (ws : List Jvm.Cond) (q1 : Int64) (h0 : Heap) (n0 : Nat) (Z0 : n0 ≤ h0.size) :
    MetFree l x (head1 (Jvm.Cond.code x code maxLocals ret :: ws) room_1) (fun a U => a = #[(.long q1)] ∧ Z.Warmed39 U.vm ∧ U.heap = h0) (fun _ _ _ _ _ => True) (fun _ U o U' => ∃ v L, o = .returned v ∧ Q0 Z q1 h0 n0 v U'.heap L ∧ FrameEnd U o U' L room_1.cells room_1.slots) := by
  refine MetFree.of_bodySF (plainFor_of_name pn_0) hisR ?_
  intro p e s m args below meth c s₁ Bd hml0 hP hK
  obtain ⟨rfl, hZ, hh⟩ := hP
  have hx := Bd.exec
  have hby := Bd.bytes
  have hml : c.maxLocals = 9 := hml0
  have hown : s.vm.findClass "com/example/universe_into_bits/universeintobits/BloomFilterWordsForPinLaw" = some m.cls := findClass_of_methodNamed Bd.named
  have hnm := (name_of_methodNamed Bd.named Bd.method).1
  have X0 : Stand p l e room_1 s m #[(.long q1)] below meth c s₁ [] 0 0 := Stand.of_body Bd
  have e0 : s₁.heap = h0 := by rw [← hh, Bd.state]; rfl
  have N0 := Fr.nil n0
  have pre0 : ∀ t, Steps p.tables e below (s₁.setTop (mkF m 0 #[.val (.long q1), .second, .unset, .unset, .unset, .unset, .unset, .unset, .unset] [])) t → Steps p.tables e below (s₁.setTop (entryFrame m #[(.long q1)] maxLocals)) t := fun t k => castTop (ef_0 m q1) k
  obtain ⟨_, _, ⟨T3, L3, k3, n3⟩, -, X3, ⟨Lc3, hQ3, l3, y3, z3⟩, st3⟩ := Jvm.LawKit.callS X0 hx (y := (⟨"com/example/universe_into_bits/universeintobits/BloomFilter", "wordsFor", "(J)I"⟩ : MethodName)) hown (mvT hZ (hw _ (List.mem_of_getElem? (i := 2) rfl))) (mvT hZ (hw _ (List.mem_of_getElem? (i := 3) rfl))) (mvT hZ (hw _ (List.mem_of_getElem? (i := 4) rfl))) (mvT hZ (hw _ (List.mem_of_getElem? (i := 5) rfl))) (by decide) (backOf (W := 0) (rm1 l Z a0 hw [] (own_S1 q1) h0 n0 Z0) hZ (hw _ (List.mem_of_getElem? (i := 5) rfl)) (hw _ (List.mem_of_getElem? (i := 4) rfl)) (by decide) (by decide)) (g := (mkF m 13 #[.val (.long q1), .second, .val (.long (own_S1 q1)), .second, .unset, .unset, .unset, .unset, .unset] [(.long (own_S1 q1))])) rfl (by rw [hml]; rfl) (argsL := [(.long (own_S1 q1))]) (rest := []) (lenOf pd_0_0 rfl) rfl (by show 2 * 0 + _ ≤ _; exact Nat.le_of_eq rfl) (hb hby at_13) (fun _ _ => ⟨rfl, e0, (by decide : 0 + 0 ≤ _), (by decide : 0 + 0 ≤ _)⟩)
  dsimp only [Pt.U, Pt.locs, Pt.cells, Pt.slots] at X3 l3 y3 z3 st3 hQ3
  subst l3 y3 z3
  obtain ⟨rfl, N3q, q3⟩ := hQ3
  have N3 := Fr.app N0 N3q
  obtain ⟨fs, hr, hrun, hended, hW, hsame⟩ := X3.leave (v := some (.int (1 : Int32))) (fun h => by rw [Bd.returns] at h; cases h)
  refine ⟨_, _, pre0 _ ?_, hrun, hended, _, _, rfl, ?_, ⟨_, rfl⟩, hW, hsame.mono (by decide) (by decide)⟩
  · refine own_seg1 q1 X0 hx hZ hw hby hown ?_
    show Steps p.tables e below (s₁.setTop (mkF m 12 #[.val (.long q1), .second, .val (.long (own_S1 q1)), .second, .unset, .unset, .unset, .unset, .unset] [])) _
    refine XS.lloadN X0.here hx rfl (hb hby at_12) rfl ?_
    show Steps p.tables e below (s₁.setTop (mkF m 13 #[.val (.long q1), .second, .val (.long (own_S1 q1)), .second, .unset, .unset, .unset, .unset, .unset] [(.long (own_S1 q1))])) _
    refine st3 _ ?_
    show Steps p.tables e below (T3.setTop (mkF m 16 #[.val (.long q1), .second, .val (.long (own_S1 q1)), .second, .unset, .unset, .unset, .unset, .unset] [(.int (own_F1 (own_S1 q1)))])) _
    refine XS.i2l X3.here hx rfl (hb hby at_16) rfl ?_
    show Steps p.tables e below (T3.setTop (mkF m 17 #[.val (.long q1), .second, .val (.long (own_S1 q1)), .second, .unset, .unset, .unset, .unset, .unset] [(.long ((own_F1 (own_S1 q1)).toInt64))])) _
    refine XS.lstore X3.here hx rfl (hb hby at_17) rfl (l' := #[.val (.long q1), .second, .val (.long (own_S1 q1)), .second, .val (.long ((own_F1 (own_S1 q1)).toInt64)), .second, .unset, .unset, .unset]) rfl ?_
    show Steps p.tables e below (T3.setTop (mkF m 19 #[.val (.long q1), .second, .val (.long (own_S1 q1)), .second, .val (.long ((own_F1 (own_S1 q1)).toInt64)), .second, .unset, .unset, .unset] [])) _
    refine XS.lload X3.here hx rfl (hb hby at_19) rfl ?_
    show Steps p.tables e below (T3.setTop (mkF m 21 #[.val (.long q1), .second, .val (.long (own_S1 q1)), .second, .val (.long ((own_F1 (own_S1 q1)).toInt64)), .second, .unset, .unset, .unset] [(.long ((own_F1 (own_S1 q1)).toInt64))])) _
    refine X3.ldc2Long hx hown (mvT hZ (hw _ (List.mem_of_getElem? (i := 7) rfl))) (g := (mkF m 21 #[.val (.long q1), .second, .val (.long (own_S1 q1)), .second, .val (.long ((own_F1 (own_S1 q1)).toInt64)), .second, .unset, .unset, .unset] [(.long ((own_F1 (own_S1 q1)).toInt64))])) rfl (hb hby at_21) _ ?_
    show Steps p.tables e below (T3.setTop (mkF m 24 #[.val (.long q1), .second, .val (.long (own_S1 q1)), .second, .val (.long ((own_F1 (own_S1 q1)).toInt64)), .second, .unset, .unset, .unset] [(.long (64 : Int64)), (.long ((own_F1 (own_S1 q1)).toInt64))])) _
    refine XS.lmul X3.here hx rfl (hb hby at_24) rfl ?_
    show Steps p.tables e below (T3.setTop (mkF m 25 #[.val (.long q1), .second, .val (.long (own_S1 q1)), .second, .val (.long ((own_F1 (own_S1 q1)).toInt64)), .second, .unset, .unset, .unset] [(.long (((own_F1 (own_S1 q1)).toInt64) * (64 : Int64)))])) _
    refine XS.lloadN X3.here hx rfl (hb hby at_25) rfl ?_
    show Steps p.tables e below (T3.setTop (mkF m 26 #[.val (.long q1), .second, .val (.long (own_S1 q1)), .second, .val (.long ((own_F1 (own_S1 q1)).toInt64)), .second, .unset, .unset, .unset] [(.long (own_S1 q1)), (.long (((own_F1 (own_S1 q1)).toInt64) * (64 : Int64)))])) _
    refine XS.lcmp X3.here hx rfl (hb hby at_26) rfl ?_
    show Steps p.tables e below (T3.setTop (mkF m 27 #[.val (.long q1), .second, .val (.long (own_S1 q1)), .second, .val (.long ((own_F1 (own_S1 q1)).toInt64)), .second, .unset, .unset, .unset] [(.int (lcmpW (((own_F1 (own_S1 q1)).toInt64) * (64 : Int64)) (own_S1 q1)))])) _
    refine XS.ifNo X3.here hx rfl (hb hby at_27) rfl ((if0 _ _).trans (flt (fun hz => (own_facts q1).1 ((lw_lt (((own_F1 (own_S1 q1)).toInt64) * (64 : Int64)) (own_S1 q1)).mp hz))).1) ?_
    show Steps p.tables e below (T3.setTop (mkF m 30 #[.val (.long q1), .second, .val (.long (own_S1 q1)), .second, .val (.long ((own_F1 (own_S1 q1)).toInt64)), .second, .unset, .unset, .unset] [])) _
    refine XS.iconst X3.here hx rfl (hb hby at_30) ?_
    show Steps p.tables e below (T3.setTop (mkF m 31 #[.val (.long q1), .second, .val (.long (own_S1 q1)), .second, .val (.long ((own_F1 (own_S1 q1)).toInt64)), .second, .unset, .unset, .unset] [(.int (1 : Int32))])) _
    refine XS.goto X3.here hx rfl (pc0 := 31) (pc' := 35) rfl (hb hby at_31) (by decide) (by decide) ?_
    show Steps p.tables e below (T3.setTop (mkF m 35 #[.val (.long q1), .second, .val (.long (own_S1 q1)), .second, .val (.long ((own_F1 (own_S1 q1)).toInt64)), .second, .unset, .unset, .unset] [(.int (1 : Int32))])) _
    refine XS.istore X3.here hx rfl (hb hby at_35) rfl (l' := #[.val (.long q1), .second, .val (.long (own_S1 q1)), .second, .val (.long ((own_F1 (own_S1 q1)).toInt64)), .second, .val (.int (1 : Int32)), .unset, .unset]) rfl ?_
    show Steps p.tables e below (T3.setTop (mkF m 37 #[.val (.long q1), .second, .val (.long (own_S1 q1)), .second, .val (.long ((own_F1 (own_S1 q1)).toInt64)), .second, .val (.int (1 : Int32)), .unset, .unset] [])) _
    refine XS.lload X3.here hx rfl (hb hby at_37) rfl ?_
    show Steps p.tables e below (T3.setTop (mkF m 39 #[.val (.long q1), .second, .val (.long (own_S1 q1)), .second, .val (.long ((own_F1 (own_S1 q1)).toInt64)), .second, .val (.int (1 : Int32)), .unset, .unset] [(.long ((own_F1 (own_S1 q1)).toInt64))])) _
    refine XS.lconst X3.here hx rfl (hb hby at_39) ?_
    show Steps p.tables e below (T3.setTop (mkF m 40 #[.val (.long q1), .second, .val (.long (own_S1 q1)), .second, .val (.long ((own_F1 (own_S1 q1)).toInt64)), .second, .val (.int (1 : Int32)), .unset, .unset] [(.long (1 : Int64)), (.long ((own_F1 (own_S1 q1)).toInt64))])) _
    refine XS.lsub X3.here hx rfl (hb hby at_40) rfl ?_
    show Steps p.tables e below (T3.setTop (mkF m 41 #[.val (.long q1), .second, .val (.long (own_S1 q1)), .second, .val (.long ((own_F1 (own_S1 q1)).toInt64)), .second, .val (.int (1 : Int32)), .unset, .unset] [(.long (((own_F1 (own_S1 q1)).toInt64) - (1 : Int64)))])) _
    refine X3.ldc2Long hx hown (mvT hZ (hw _ (List.mem_of_getElem? (i := 7) rfl))) (g := (mkF m 41 #[.val (.long q1), .second, .val (.long (own_S1 q1)), .second, .val (.long ((own_F1 (own_S1 q1)).toInt64)), .second, .val (.int (1 : Int32)), .unset, .unset] [(.long (((own_F1 (own_S1 q1)).toInt64) - (1 : Int64)))])) rfl (hb hby at_41) _ ?_
    show Steps p.tables e below (T3.setTop (mkF m 44 #[.val (.long q1), .second, .val (.long (own_S1 q1)), .second, .val (.long ((own_F1 (own_S1 q1)).toInt64)), .second, .val (.int (1 : Int32)), .unset, .unset] [(.long (64 : Int64)), (.long (((own_F1 (own_S1 q1)).toInt64) - (1 : Int64)))])) _
    refine XS.lmul X3.here hx rfl (hb hby at_44) rfl ?_
    show Steps p.tables e below (T3.setTop (mkF m 45 #[.val (.long q1), .second, .val (.long (own_S1 q1)), .second, .val (.long ((own_F1 (own_S1 q1)).toInt64)), .second, .val (.int (1 : Int32)), .unset, .unset] [(.long ((((own_F1 (own_S1 q1)).toInt64) - (1 : Int64)) * (64 : Int64)))])) _
    refine XS.lloadN X3.here hx rfl (hb hby at_45) rfl ?_
    show Steps p.tables e below (T3.setTop (mkF m 46 #[.val (.long q1), .second, .val (.long (own_S1 q1)), .second, .val (.long ((own_F1 (own_S1 q1)).toInt64)), .second, .val (.int (1 : Int32)), .unset, .unset] [(.long (own_S1 q1)), (.long ((((own_F1 (own_S1 q1)).toInt64) - (1 : Int64)) * (64 : Int64)))])) _
    refine XS.lcmp X3.here hx rfl (hb hby at_46) rfl ?_
    show Steps p.tables e below (T3.setTop (mkF m 47 #[.val (.long q1), .second, .val (.long (own_S1 q1)), .second, .val (.long ((own_F1 (own_S1 q1)).toInt64)), .second, .val (.int (1 : Int32)), .unset, .unset] [(.int (lcmpW ((((own_F1 (own_S1 q1)).toInt64) - (1 : Int64)) * (64 : Int64)) (own_S1 q1)))])) _
    refine XS.ifNo X3.here hx rfl (hb hby at_47) rfl ((if0 _ _).trans (tlt ((lw_lt ((((own_F1 (own_S1 q1)).toInt64) - (1 : Int64)) * (64 : Int64)) (own_S1 q1)).mpr (own_facts q1).2.1)).2.1) ?_
    show Steps p.tables e below (T3.setTop (mkF m 50 #[.val (.long q1), .second, .val (.long (own_S1 q1)), .second, .val (.long ((own_F1 (own_S1 q1)).toInt64)), .second, .val (.int (1 : Int32)), .unset, .unset] [])) _
    refine XS.iconst X3.here hx rfl (hb hby at_50) ?_
    show Steps p.tables e below (T3.setTop (mkF m 51 #[.val (.long q1), .second, .val (.long (own_S1 q1)), .second, .val (.long ((own_F1 (own_S1 q1)).toInt64)), .second, .val (.int (1 : Int32)), .unset, .unset] [(.int (1 : Int32))])) _
    refine XS.goto X3.here hx rfl (pc0 := 51) (pc' := 55) rfl (hb hby at_51) (by decide) (by decide) ?_
    show Steps p.tables e below (T3.setTop (mkF m 55 #[.val (.long q1), .second, .val (.long (own_S1 q1)), .second, .val (.long ((own_F1 (own_S1 q1)).toInt64)), .second, .val (.int (1 : Int32)), .unset, .unset] [(.int (1 : Int32))])) _
    refine XS.istore X3.here hx rfl (hb hby at_55) rfl (l' := #[.val (.long q1), .second, .val (.long (own_S1 q1)), .second, .val (.long ((own_F1 (own_S1 q1)).toInt64)), .second, .val (.int (1 : Int32)), .val (.int (1 : Int32)), .unset]) rfl ?_
    show Steps p.tables e below (T3.setTop (mkF m 57 #[.val (.long q1), .second, .val (.long (own_S1 q1)), .second, .val (.long ((own_F1 (own_S1 q1)).toInt64)), .second, .val (.int (1 : Int32)), .val (.int (1 : Int32)), .unset] [])) _
    refine XS.lload X3.here hx rfl (hb hby at_57) rfl ?_
    show Steps p.tables e below (T3.setTop (mkF m 59 #[.val (.long q1), .second, .val (.long (own_S1 q1)), .second, .val (.long ((own_F1 (own_S1 q1)).toInt64)), .second, .val (.int (1 : Int32)), .val (.int (1 : Int32)), .unset] [(.long ((own_F1 (own_S1 q1)).toInt64))])) _
    refine X3.ldc2Long hx hown (mvT hZ (hw _ (List.mem_of_getElem? (i := 8) rfl))) (g := (mkF m 59 #[.val (.long q1), .second, .val (.long (own_S1 q1)), .second, .val (.long ((own_F1 (own_S1 q1)).toInt64)), .second, .val (.int (1 : Int32)), .val (.int (1 : Int32)), .unset] [(.long ((own_F1 (own_S1 q1)).toInt64))])) rfl (hb hby at_59) _ ?_
    show Steps p.tables e below (T3.setTop (mkF m 62 #[.val (.long q1), .second, .val (.long (own_S1 q1)), .second, .val (.long ((own_F1 (own_S1 q1)).toInt64)), .second, .val (.int (1 : Int32)), .val (.int (1 : Int32)), .unset] [(.long (2147483639 : Int64)), (.long ((own_F1 (own_S1 q1)).toInt64))])) _
    refine XS.lcmp X3.here hx rfl (hb hby at_62) rfl ?_
    show Steps p.tables e below (T3.setTop (mkF m 63 #[.val (.long q1), .second, .val (.long (own_S1 q1)), .second, .val (.long ((own_F1 (own_S1 q1)).toInt64)), .second, .val (.int (1 : Int32)), .val (.int (1 : Int32)), .unset] [(.int (lcmpW ((own_F1 (own_S1 q1)).toInt64) (2147483639 : Int64)))])) _
    refine XS.ifNo X3.here hx rfl (hb hby at_63) rfl ((if0 _ _).trans (flt (fun hz => (own_facts q1).2.2 ((lw_gt ((own_F1 (own_S1 q1)).toInt64) (2147483639 : Int64)).mp hz))).2.2.1) ?_
    show Steps p.tables e below (T3.setTop (mkF m 66 #[.val (.long q1), .second, .val (.long (own_S1 q1)), .second, .val (.long ((own_F1 (own_S1 q1)).toInt64)), .second, .val (.int (1 : Int32)), .val (.int (1 : Int32)), .unset] [])) _
    refine XS.iconst X3.here hx rfl (hb hby at_66) ?_
    show Steps p.tables e below (T3.setTop (mkF m 67 #[.val (.long q1), .second, .val (.long (own_S1 q1)), .second, .val (.long ((own_F1 (own_S1 q1)).toInt64)), .second, .val (.int (1 : Int32)), .val (.int (1 : Int32)), .unset] [(.int (1 : Int32))])) _
    refine XS.goto X3.here hx rfl (pc0 := 67) (pc' := 71) rfl (hb hby at_67) (by decide) (by decide) ?_
    show Steps p.tables e below (T3.setTop (mkF m 71 #[.val (.long q1), .second, .val (.long (own_S1 q1)), .second, .val (.long ((own_F1 (own_S1 q1)).toInt64)), .second, .val (.int (1 : Int32)), .val (.int (1 : Int32)), .unset] [(.int (1 : Int32))])) _
    refine XS.istore X3.here hx rfl (hb hby at_71) rfl (l' := #[.val (.long q1), .second, .val (.long (own_S1 q1)), .second, .val (.long ((own_F1 (own_S1 q1)).toInt64)), .second, .val (.int (1 : Int32)), .val (.int (1 : Int32)), .val (.int (1 : Int32))]) rfl ?_
    show Steps p.tables e below (T3.setTop (mkF m 73 #[.val (.long q1), .second, .val (.long (own_S1 q1)), .second, .val (.long ((own_F1 (own_S1 q1)).toInt64)), .second, .val (.int (1 : Int32)), .val (.int (1 : Int32)), .val (.int (1 : Int32))] [])) _
    refine XS.iload X3.here hx rfl (hb hby at_73) rfl ?_
    show Steps p.tables e below (T3.setTop (mkF m 75 #[.val (.long q1), .second, .val (.long (own_S1 q1)), .second, .val (.long ((own_F1 (own_S1 q1)).toInt64)), .second, .val (.int (1 : Int32)), .val (.int (1 : Int32)), .val (.int (1 : Int32))] [(.int (1 : Int32))])) _
    refine XS.ifNo X3.here hx rfl (hb hby at_75) rfl ((if0 _ _).trans (feq (show ¬ ((1 : Int32) = (0 : Int32)) from by decide)).1) ?_
    show Steps p.tables e below (T3.setTop (mkF m 78 #[.val (.long q1), .second, .val (.long (own_S1 q1)), .second, .val (.long ((own_F1 (own_S1 q1)).toInt64)), .second, .val (.int (1 : Int32)), .val (.int (1 : Int32)), .val (.int (1 : Int32))] [])) _
    refine XS.iload X3.here hx rfl (hb hby at_78) rfl ?_
    show Steps p.tables e below (T3.setTop (mkF m 80 #[.val (.long q1), .second, .val (.long (own_S1 q1)), .second, .val (.long ((own_F1 (own_S1 q1)).toInt64)), .second, .val (.int (1 : Int32)), .val (.int (1 : Int32)), .val (.int (1 : Int32))] [(.int (1 : Int32))])) _
    refine XS.ifNo X3.here hx rfl (hb hby at_80) rfl ((if0 _ _).trans (feq (show ¬ ((1 : Int32) = (0 : Int32)) from by decide)).1) ?_
    show Steps p.tables e below (T3.setTop (mkF m 83 #[.val (.long q1), .second, .val (.long (own_S1 q1)), .second, .val (.long ((own_F1 (own_S1 q1)).toInt64)), .second, .val (.int (1 : Int32)), .val (.int (1 : Int32)), .val (.int (1 : Int32))] [])) _
    refine XS.iload X3.here hx rfl (hb hby at_83) rfl ?_
    show Steps p.tables e below (T3.setTop (mkF m 85 #[.val (.long q1), .second, .val (.long (own_S1 q1)), .second, .val (.long ((own_F1 (own_S1 q1)).toInt64)), .second, .val (.int (1 : Int32)), .val (.int (1 : Int32)), .val (.int (1 : Int32))] [(.int (1 : Int32))])) _
    refine XS.ifNo X3.here hx rfl (hb hby at_85) rfl ((if0 _ _).trans (feq (show ¬ ((1 : Int32) = (0 : Int32)) from by decide)).1) ?_
    show Steps p.tables e below (T3.setTop (mkF m 88 #[.val (.long q1), .second, .val (.long (own_S1 q1)), .second, .val (.long ((own_F1 (own_S1 q1)).toInt64)), .second, .val (.int (1 : Int32)), .val (.int (1 : Int32)), .val (.int (1 : Int32))] [])) _
    refine XS.iconst X3.here hx rfl (hb hby at_88) ?_
    show Steps p.tables e below (T3.setTop (mkF m 89 #[.val (.long q1), .second, .val (.long (own_S1 q1)), .second, .val (.long ((own_F1 (own_S1 q1)).toInt64)), .second, .val (.int (1 : Int32)), .val (.int (1 : Int32)), .val (.int (1 : Int32))] [(.int (1 : Int32))])) _
    refine XS.goto X3.here hx rfl (pc0 := 89) (pc' := 93) rfl (hb hby at_89) (by decide) (by decide) ?_
    show Steps p.tables e below (T3.setTop (mkF m 93 #[.val (.long q1), .second, .val (.long (own_S1 q1)), .second, .val (.long ((own_F1 (own_S1 q1)).toInt64)), .second, .val (.int (1 : Int32)), .val (.int (1 : Int32)), .val (.int (1 : Int32))] [(.int (1 : Int32))])) _
    exact retN X3 hx (t := .boolean) Bd.returns (by simp) (hb hby at_93) hr
  · show Q0 Z q1 h0 n0 _ T3.heap _
    exact ⟨rfl, N3⟩
set_option maxRecDepth 65536 in
set_option maxHeartbeats 40000000 in
theorem comes_1 {Post : Tables → Env → Array Value → State → Outcome → State → Prop} (hpost : ∀ tb e args s v u, (limb_1_1.after args s (.returned v) u = true ∧ limb_1_2.after args s (.returned v) u = true ∧ True) → FrameEnd s (.returned v) u (Jvm.fieldLocs frame_1_writes args s ++ Jvm.arrayLocs frame_1_arrays args s ++ Jvm.staticLocs frame_1_statics s) 0 0 → Post tb e args s (.returned v) u) :
    ArmFor flags0 classFile x code maxLocals ret World_1 tables_1 room_1 Calls_1 rest_1 Pre_1 Post := by
  intro l hfl _ _ p e ha hc hk s m args below hf hA hF happ hP
  obtain ⟨hcalls, hrest, hpre⟩ := hP
  obtain ⟨-, -, -, hnamed, -, -, -, hat⟩ := (Spec.applies_iff hf).mp happ
  obtain ⟨hg, hn⟩ := and_e (Cond.before_iff.mp (show (Jvm.Cond.and given_1 narrow_1).before args s = true from hpre))
  obtain ⟨gc, r0⟩ := and_e hg
  obtain ⟨w0, rfl⟩ : ∃ w0 : Value, args = #[w0] := by
    have hs : args.size = 1 := by simpa [Cond.value, given_1] using gc
    obtain ⟨L⟩ := args
    match L, hs with
    | [w0], _ => exact ⟨w0, rfl⟩
  have hw := fun d (hd : d ∈ tables_1) => atoms_spec (ws := Jvm.Cond.code x code maxLocals ret :: tables_1) hat d (List.mem_cons_of_mem _ hd)
  obtain ⟨i0, ei0⟩ := isL_v r0
  obtain rfl : w0 = (.long i0) := Option.some.inj ei0
  obtain ⟨n, o, h1, h2, h3, _, L, rfl, ⟨rfl, N⟩, hq⟩ := rm0 l s _ hw tables_1 i0 s.heap s.heap.size (Nat.le_refl _) p e ha hc hk s m _ below hf ((Spec.applies_iff_loose hf).mp happ).1 ⟨rfl, State.Warmed39.refl s, rfl⟩ trivial
  refine ⟨n, _, h1, h2, h3, hpost _ _ _ _ _ _ ⟨Cond.after_iff.mpr rfl, Cond.after_iff.mpr (eq_i res_at (Term.int_eval (1)) rfl), trivial⟩ ⟨hq.1, hq.2.1, (hq.2.2.sift fun y hy => Or.inr (N y hy)).mono (by decide) (by decide)⟩⟩
theorem main_1_1 : Claimed_1_1 := comes_1 fun _ _ _ _ _ _ h hF => ⟨h.1, hF⟩
theorem main_1_2 : Claimed_1_2 := comes_1 fun _ _ _ _ _ _ h hF => ⟨h.2.1, hF⟩
end Jvm.Pilot.@@N@@
namespace Jvm.Pilot.@@N@@
open Jvm Jvm.ClassFile Sem Op Lib Jvm.Free Jvm.Stand Jvm.Pilot.@@N@@.Jvm.D
/-! MADE BY PROGRAM (witnessworld.py) out of the Statement's table words and the real class files: 8 classes; the members and pool entries that the words name. The judged class is class 1, her method 1. -/
namespace start1
open Jvm.ClassFile
def u (s : String) : CpInfo := .utf8 (stringToUtf16 s)
/-- a pool by its gaps: so many unusable entries, then the entry; so many at the end -/
def gap : Nat → List CpInfo → List CpInfo
  | 0, r => r
  | n + 1, r => .unusable :: gap n r
def poolList (es : List (Nat × CpInfo)) (last : Nat) : List CpInfo := es.foldr (fun e r => gap e.1 (e.2 :: r)) (gap last [])
def pool (es : List (Nat × CpInfo)) (last : Nat) : Array CpInfo := ⟨poolList es last⟩
def fileOf (pool : Array CpInfo) (this : Nat) (attrs : Array Attribute := #[]) (ms : Array MethodInfo := #[]) (fl : Nat := 33) (sup : Nat := 0) (ifs : Array Nat := #[]) (fds : Array FieldInfo := #[]) : ClassFile where
  minorVersion := 0
  majorVersion := 65
  constantPool := pool
  accessFlags := fl
  thisClass := this
  superClass := sup
  interfaces := ifs
  fields := fds
  methods := ms
  attributes := attrs
def plain (name : String) (sup : Option ClassId) : Class where
  name := name
  kind := .ordinary
  loader := none
  accessFlags := 33
  super := sup
  interfaces := #[]
  cf := none
  fields := #[]
  methods := #[]
  instanceTypes := #[]
  staticTypes := #[]
  resolved := #[]
  callSites := []
  init := .initialized
  statics := none
  mirror := none

def pool0 : Array CpInfo := pool [(5, u "<init>"), (0, u "()V"), (1, .class_ 10), (1, u "java/lang/Object")] 113

def k0m0 : Method := { name := "<init>", desc := "()V", sig := { parameters := [], returnType := none }, accessFlags := 1, code := none }
/-- java/lang/Object -/
def k0 : Class := { plain "java/lang/Object" none with
  accessFlags := 33
  interfaces := #[]
  cf := some (fileOf pool0 8 #[] #[{ accessFlags := 1, nameIndex := 5, descriptorIndex := 6, attributes := #[] }] 33 0 #[] #[])
  fields := #[]
  methods := #[k0m0]
  instanceTypes := #[]
  staticTypes := #[]
  resolved := Array.replicate 124 none
  statics := none }

def pool1 : Array CpInfo := pool [(2, .class_ 4), (1, u "java/lang/Object"), (0, u "<init>"), (0, u "()V"), (2, .long 9223372036854775807), (3, .long 137438952896), (1, .methodref 16 17), (0, .class_ 18), (0, .nameAndType 19 20), (0, u "com/example/universe_into_bits/universeintobits/BloomFilter"), (0, u "wordsFor"), (0, u "(J)I"), (0, .long 64), (3, .long 2147483639), (1, .class_ 28), (0, u "com/example/universe_into_bits/universeintobits/BloomFilterWordsForPinLaw"), (2, u "law"), (0, u "(J)Z")] 3

def k1m0 : Method := { name := "<init>", desc := "()V", sig := { parameters := [], returnType := none }, accessFlags := 1, code := none }
def k1c1 : Code := { maxStack := 4, maxLocals := 9, code := code, exceptionTable := #[], attributes := #[] }
def k1m1 : Method := { name := "law", desc := "(J)Z", sig := { parameters := [.long], returnType := some .boolean }, accessFlags := 9, code := some k1c1 }
/-- com/example/universe_into_bits/universeintobits/BloomFilterWordsForPinLaw -/
def k1 : Class := { plain "com/example/universe_into_bits/universeintobits/BloomFilterWordsForPinLaw" (some 0) with
  accessFlags := 49
  interfaces := #[]
  cf := some (fileOf pool1 27 #[] #[{ accessFlags := 1, nameIndex := 5, descriptorIndex := 6, attributes := #[] }, { accessFlags := 9, nameIndex := 31, descriptorIndex := 32, attributes := #[] }] 49 2 #[] #[])
  fields := #[]
  methods := #[k1m0, k1m1]
  instanceTypes := #[]
  staticTypes := #[]
  resolved := Array.replicate 36 none
  statics := none }

def pool2 : Array CpInfo := pool [(4, .class_ 6), (1, u "java/lang/Object"), (6, .class_ 15), (1, u "com/example/universe_into_bits/universeintobits/Filter"), (0, u "keysAdded"), (0, u "Ljava/util/concurrent/atomic/LongAdder;"), (2, u "bits"), (0, u "J"), (2, u "hashes"), (0, u "I"), (6, u "plannedKeys"), (2, u "targetRate"), (0, u "D"), (51, u "CLAIMED_ADDS"), (0, u "Ljava/lang/invoke/VarHandle;"), (21, u "CLAIMANT"), (10, u "claimant"), (0, u "Ljava/lang/Thread;"), (66, u "claimedAdds"), (51, u "MAX_BITS"), (1, u "MAX_HASHES"), (1, u "UNPLANNED"), (0, u "NO_RATE")] 49

/-- com/example/universe_into_bits/universeintobits/Filter -/
def k2 : Class := { plain "com/example/universe_into_bits/universeintobits/Filter" (some 0) with
  accessFlags := 1057
  interfaces := #[]
  cf := some (fileOf pool2 13 #[] #[] 1057 4 #[] #[{ accessFlags := 25, nameIndex := 242, descriptorIndex := 21, attributes := #[] }, { accessFlags := 25, nameIndex := 244, descriptorIndex := 25, attributes := #[] }, { accessFlags := 24, nameIndex := 246, descriptorIndex := 21, attributes := #[] }, { accessFlags := 24, nameIndex := 247, descriptorIndex := 36, attributes := #[] }, { accessFlags := 26, nameIndex := 111, descriptorIndex := 89, attributes := #[] }, { accessFlags := 26, nameIndex := 88, descriptorIndex := 89, attributes := #[] }, { accessFlags := 18, nameIndex := 20, descriptorIndex := 21, attributes := #[] }, { accessFlags := 18, nameIndex := 24, descriptorIndex := 25, attributes := #[] }, { accessFlags := 18, nameIndex := 16, descriptorIndex := 17, attributes := #[] }, { accessFlags := 66, nameIndex := 122, descriptorIndex := 123, attributes := #[] }, { accessFlags := 2, nameIndex := 190, descriptorIndex := 21, attributes := #[] }, { accessFlags := 18, nameIndex := 32, descriptorIndex := 21, attributes := #[] }, { accessFlags := 18, nameIndex := 35, descriptorIndex := 36, attributes := #[] }])
  fields := #[{ name := "MAX_BITS", type := .long, accessFlags := 25, slot := 0, constantValue := 0 }, { name := "MAX_HASHES", type := .int, accessFlags := 25, slot := 1, constantValue := 0 }, { name := "UNPLANNED", type := .long, accessFlags := 24, slot := 2, constantValue := 0 }, { name := "NO_RATE", type := .double, accessFlags := 24, slot := 3, constantValue := 0 }, { name := "CLAIMANT", type := (.object "java/lang/invoke/VarHandle"), accessFlags := 26, slot := 4, constantValue := 0 }, { name := "CLAIMED_ADDS", type := (.object "java/lang/invoke/VarHandle"), accessFlags := 26, slot := 5, constantValue := 0 }, { name := "bits", type := .long, accessFlags := 18, slot := 0, constantValue := 0 }, { name := "hashes", type := .int, accessFlags := 18, slot := 1, constantValue := 0 }, { name := "keysAdded", type := (.object "java/util/concurrent/atomic/LongAdder"), accessFlags := 18, slot := 2, constantValue := 0 }, { name := "claimant", type := (.object "java/lang/Thread"), accessFlags := 66, slot := 3, constantValue := 0 }, { name := "claimedAdds", type := .long, accessFlags := 2, slot := 4, constantValue := 0 }, { name := "plannedKeys", type := .long, accessFlags := 18, slot := 5, constantValue := 0 }, { name := "targetRate", type := .double, accessFlags := 18, slot := 6, constantValue := 0 }]
  methods := #[]
  instanceTypes := #[.long, .int, (.object "java/util/concurrent/atomic/LongAdder"), (.object "java/lang/Thread"), .long, .long, .double]
  staticTypes := #[.long, .int, .long, .double, (.object "java/lang/invoke/VarHandle"), (.object "java/lang/invoke/VarHandle")]
  resolved := Array.replicate 297 none
  statics := none }

def pool3 : Array CpInfo := pool [(2, .class_ 4), (1, u "com/example/universe_into_bits/universeintobits/BloomFilter"), (6, .class_ 12), (0, u "com/example/universe_into_bits/universeintobits/Filter"), (4, u "wordsFor"), (0, u "(J)I"), (36, u "words"), (0, u "[J"), (27, u "WORDS"), (0, u "Ljava/lang/invoke/VarHandle;"), (16, .long 64)] 31

def k3c0 : Code := { maxStack := 4, maxLocals := 2, code := prog_1_method_15_code, exceptionTable := #[], attributes := #[] }
def k3m0 : Method := { name := "wordsFor", desc := "(J)I", sig := { parameters := [.long], returnType := some .int }, accessFlags := 8, code := some k3c0 }
/-- com/example/universe_into_bits/universeintobits/BloomFilter -/
def k3 : Class := { plain "com/example/universe_into_bits/universeintobits/BloomFilter" (some 2) with
  accessFlags := 33
  interfaces := #[]
  cf := some (fileOf pool3 2 #[] #[{ accessFlags := 8, nameIndex := 17, descriptorIndex := 18, attributes := #[] }] 33 11 #[] #[{ accessFlags := 26, nameIndex := 84, descriptorIndex := 85, attributes := #[] }, { accessFlags := 18, nameIndex := 55, descriptorIndex := 56, attributes := #[] }])
  fields := #[{ name := "WORDS", type := (.object "java/lang/invoke/VarHandle"), accessFlags := 26, slot := 0, constantValue := 0 }, { name := "words", type := (.array .long), accessFlags := 18, slot := 7, constantValue := 0 }]
  methods := #[k3m0]
  instanceTypes := #[.long, .int, (.object "java/util/concurrent/atomic/LongAdder"), (.object "java/lang/Thread"), .long, .long, .double, (.array .long)]
  staticTypes := #[(.object "java/lang/invoke/VarHandle")]
  resolved := Array.replicate 134 none
  statics := none }

def pool4 : Array CpInfo := pool [(1, u "java/lang/Cloneable"), (0, .class_ 1), (0, u "java/lang/Object"), (0, .class_ 3)] 3

/-- java/lang/Cloneable -/
def k4 : Class := { plain "java/lang/Cloneable" (some 0) with
  accessFlags := 1537
  interfaces := #[]
  cf := some (fileOf pool4 2 #[] #[] 1537 4 #[] #[])
  fields := #[]
  methods := #[]
  instanceTypes := #[]
  staticTypes := #[]
  resolved := Array.replicate 8 none
  statics := none }

def pool5 : Array CpInfo := pool [(1, u "java/io/Serializable"), (0, .class_ 1), (0, u "java/lang/Object"), (0, .class_ 3)] 3

/-- java/io/Serializable -/
def k5 : Class := { plain "java/io/Serializable" (some 0) with
  accessFlags := 1537
  interfaces := #[]
  cf := some (fileOf pool5 2 #[] #[] 1537 4 #[] #[])
  fields := #[]
  methods := #[]
  instanceTypes := #[]
  staticTypes := #[]
  resolved := Array.replicate 8 none
  statics := none }

/-- the primitive byte -/
def k6 : Class := { plain "byte" none with kind := .primitive 'B', accessFlags := 0x411 }
/-- [B -/
def k7 : Class := { plain "[B" (some 0) with kind := .array 6 .byte, interfaces := #[4, 5], accessFlags := 1041 }

def heap : Heap := #[]
def classes : Array Class := #[k0, k1, k2, k3, k4, k5, k6, k7]
def interned : List (Array UInt16 × Addr) := []
def slotsUsed : Nat := 0
def theMethod : MethodId := ⟨1, 1⟩
def args0 : Array Value := #[.long 5]
def aboutOver (below : List Frame) : State where
  vm := { classes := classes, interned := interned.toArray }
  heap := heap
  slotsUsed := slotsUsed
  threads := #[{ frames := .invoking theMethod args0 :: below }]
def below0 : List Frame := [.native { method := ⟨0, 0⟩, args := #[] }]
def about1 : State := aboutOver below0
def p0 : Program := .bare "" "" ""
def e0 : Env := launch0.env 0 0 0
theorem w_frames : about1.frames = Frame.invoking theMethod args0 :: below0 := rfl
set_option maxRecDepth 65536 in
theorem w_args : argsFit about1.vm theMethod args0 = true := by decide +kernel
set_option maxRecDepth 65536 in
theorem w_heap : heapFits about1 = true := by decide +kernel
set_option maxRecDepth 65536 in
theorem w_runnable : about1.curStatus? = some .runnable := by decide +kernel
set_option maxRecDepth 65536 in
theorem w_alone : about1.alone = true := by decide +kernel
set_option maxRecDepth 65536 in
theorem w_named : about1.methodNamed? x = some theMethod := by decide +kernel
set_option maxRecDepth 65536 in
theorem w_hears : about1.hears theMethod below0 = true := by decide +kernel
set_option maxRecDepth 65536 in
theorem w_ripe : about1.ripe theMethod args0 below0 = true := by decide +kernel
theorem w_running : about1.status = .running := rfl
set_option maxRecDepth 65536 in
theorem w_room : about1.hasRoom e0.platform room_1 = true :=
  launch0.hasRoom_least _ room_1 (by decide +kernel) (by decide +kernel) (by decide +kernel) (by decide +kernel) (by decide +kernel) (by decide +kernel)
theorem allAtoms_all (ts : List Jvm.Cond) (a : Array Jvm.Value) (st : Jvm.State) : (allAtoms ts).before a st = ts.all (fun c => c.before a st) := by
  induction ts with
  | nil => rfl
  | cons c t ih =>
    show (Jvm.Cond.and c (allAtoms t)).before a st = _
    rw [Jvm.Cond.before_and, ih, List.all_cons]
def words1 : List Jvm.Cond := Jvm.Cond.code x code maxLocals ret :: tables_1
/-- a 'code' word, met by the world's own term for the bytes: nothing is compared byte by byte -/
theorem code_word {y : MethodName} {bytes : ByteArray} {mx : Nat} {rt : Option FieldType} {a : Array Value} {s : State} {m : MethodId} {meth : Method} {c : Code} (h1 : s.methodNamed? y = some m) (h2 : s.vm.method? m = some meth) (h3 : meth.code = some c) (h4 : c.code = bytes)
    (h5 : (c.maxLocals == mx && c.exceptionTable.isEmpty && decide (c.maxStack ≤ mostOperands) && decide (meth.sig.returnType = rt) && !meth.locks && decide (parseMethodDescriptor y.desc = some meth.sig)) = true) : (Jvm.Cond.code y bytes mx rt).before a s = true := by
  simp only [Bool.and_eq_true, beq_iff_eq, Bool.not_eq_true', decide_eq_true_eq] at h5
  obtain ⟨⟨⟨⟨⟨g1, g2⟩, g3⟩, g4⟩, g5⟩, g6⟩ := h5
  simp [Cond.before, Cond.holds, Cond.value, h1, h2, h3, h4, g1, g2, g3, g4, g5, g6]
def isCode : Jvm.Cond → Bool
  | .code _ _ _ _ => true
  | _ => false
theorem all_split {L : List Jvm.Cond} {P : Jvm.Cond → Bool} (h1 : L.all (fun c => isCode c || P c) = true) (h2 : ∀ c ∈ L.filter isCode, P c = true) : L.all P = true := by
  refine List.all_eq_true.mpr fun c hc => ?_
  have h := List.all_eq_true.mp h1 c hc
  rcases Bool.eq_false_or_eq_true (isCode c) with hi | hi
  · exact h2 c (List.mem_filter.mpr ⟨hc, hi⟩)
  · simpa [hi] using h
set_option maxRecDepth 65536 in
theorem w_c0 : (Jvm.Cond.code x code maxLocals ret).before args0 about1 = true := code_word (m := ⟨1, 1⟩) (meth := k1m1) (c := k1c1) (by decide +kernel) rfl rfl rfl (by decide +kernel)
set_option maxRecDepth 65536 in
theorem w_c1 : (Jvm.Cond.code ({ cls := "com/example/universe_into_bits/universeintobits/BloomFilter", name := "wordsFor", desc := "(J)I" } : Jvm.MethodName) prog_1_method_15_code (2 : Nat) (Option.some Jvm.ClassFile.FieldType.int)).before args0 about1 = true := code_word (m := ⟨3, 0⟩) (meth := k3m0) (c := k3c0) (by decide +kernel) rfl rfl rfl (by decide +kernel)
def codes1 : List Jvm.Cond := [Jvm.Cond.code x code maxLocals ret, Jvm.Cond.code ({ cls := "com/example/universe_into_bits/universeintobits/BloomFilter", name := "wordsFor", desc := "(J)I" } : Jvm.MethodName) prog_1_method_15_code (2 : Nat) (Option.some Jvm.ClassFile.FieldType.int)]
set_option maxRecDepth 65536 in
theorem codes_eq : words1.filter isCode = codes1 := rfl
theorem w_codes : ∀ c ∈ words1.filter isCode, c.before args0 about1 = true := by
  rw [codes_eq]
  intro c hc
  simp only [codes1, List.mem_cons, List.not_mem_nil, or_false] at hc
  rcases hc with rfl | rfl
  · exact w_c0
  · exact w_c1
set_option maxRecDepth 65536 in
theorem w_t1 : words1.all (fun c => isCode c || c.before args0 about1) = true := by decide +kernel
theorem w_tables : (allAtoms (Jvm.Cond.code x code maxLocals ret :: tables_1)).before args0 about1 = true := by
  rw [allAtoms_all]
  show words1.all (fun c => c.before args0 about1) = true
  refine all_split ?_ w_codes
  rw [w_t1]
set_option maxRecDepth 65536 in
theorem w_case : (Jvm.Cond.and given_1 narrow_1).before args0 about1 = true := by decide +kernel
theorem w_applies : (headSpec (Jvm.Cond.code x code maxLocals ret :: tables_1) room_1).applies x e0.platform about1 = true :=
  (Spec.applies_iff w_frames).mpr ⟨w_running, w_runnable, w_alone, w_named, w_hears, w_ripe, w_room, w_tables⟩
theorem atStart : AtStart classFile x code maxLocals ret World_1 tables_1 room_1 Calls_1 rest_1 Pre_1 launch0 p0 e0 about1 theMethod args0 below0 :=
  ⟨lists_1, trivial, launch0.admits_env _ _ _, launch0.least_env, fairChoices_fair.cas, fairChoices_fair.clock, w_frames, w_args, w_heap, w_applies, trivial, trivial, w_case⟩
end start1
theorem witness_1 : WitnessClaimed_1 := ⟨start1.p0, start1.e0, start1.about1, start1.theMethod, start1.args0, start1.below0, start1.atStart⟩
end Jvm.Pilot.@@N@@
