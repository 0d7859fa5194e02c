import JvmDerived
import JvmDerived.Pilot.@@N@@Statement
import JvmDerived.Pilot.@@N@@Code
set_option linter.unusedVariables false
set_option linter.unusedSimpArgs false
namespace Jvm.RoadKit
open Sem ClassFile Op Lib Jvm.Stand Jvm.Free Jvm.LawKit
section New
variable {p : Program} {l : Launch} {e : Env} {R : Room} {s : State} {m : MethodId} {args : Array Value} {below : List Frame} {meth : Method} {c : Code} {T : State} {locs : List Loc} {cells slots : Nat}
theorem retI (X : Stand p l e R s m args below meth c T locs cells slots) (hx : p.tables.exec = Jvm.exec) {pc : Nat} {Ls : Array Slot} {z : Int32} {rest : List Value} (hret : meth.sig.returnType = some .int) (hd : decode c.code pc = .ok (.ireturn, 1)) {fs : List Frame}
    (hl : ∀ (f : JFrame) (acts : List Action), f.method = m → f.locked = none → f.entered = [] → (doReturn e (T.setTop f) acts (some (.int z))).1 = T.setFrames fs) : Steps p.tables e below (T.setTop (mkF m pc Ls (.int z :: rest))) (T.setFrames fs) := by
  have hm' : T.vm.method? m = some meth := X.method'
  have hn : narrow .int (.int z) = .int z := rfl
  show Steps p.tables e below (T.setTop { method := m, pc := pc, locals := Ls, stack := _ :: rest, locked := none }) _
  jvm_step X.here [X.here.top, hx, hd, hm', hret, hn]
  first | (intro acts; rw [hl _ acts rfl rfl rfl]) | rw [hl _ _ rfl rfl rfl]
  exact Steps.refl _
end New
end Jvm.RoadKit
namespace Jvm.Pilot.@@N@@
open Jvm Jvm.ClassFile Sem Op Lib Jvm.Free Jvm.Stand Jvm.LawKit Jvm.RoadKit Bundle Jvm.Pilot.@@N@@.Jvm.D
/-! small numbers -/
theorem own_lt {i t : Nat} (hi : i ≤ 5) (ht : t ≤ 5) : (Int32.ofNat i < Int32.ofNat t) ↔ i < t := by
  have a : ∀ i t : Fin 6, (Int32.ofNat i.1 < Int32.ofNat t.1) ↔ i.1 < t.1 := by decide +kernel
  exact a ⟨i, by omega⟩ ⟨t, by omega⟩
theorem own_succ {i : Nat} (hi : i ≤ 5) : Int32.ofNat i + (1 : Int32) = Int32.ofNat (i + 1) := by
  have a : ∀ i : Fin 6, Int32.ofNat i.1 + (1 : Int32) = Int32.ofNat (i.1 + 1) := by decide +kernel
  exact a ⟨i, by omega⟩
theorem own_nat {i : Nat} (hi : i ≤ 5) : (Int32.ofNat i).toNatClampNeg = i := by
  have a : ∀ i : Fin 6, (Int32.ofNat i.1).toNatClampNeg = i.1 := by decide +kernel
  exact a ⟨i, by omega⟩
theorem own_pos {i : Nat} (hi : i ≤ 5) : ¬ Int32.ofNat i < 0 := by
  have a : ∀ i : Fin 6, ¬ Int32.ofNat i.1 < 0 := by decide +kernel
  exact a ⟨i, by omega⟩
theorem own_six (p : Int32) : ∃ f : Nat, f ≤ 5 ∧ ((p &&& (2147483647 : Int32)) - ((p &&& (2147483647 : Int32)) / (6 : Int32)) * (6 : Int32)) = Int32.ofNat f := by
  have e1 : (p &&& (2147483647 : Int32)).toInt = p.toInt % 2147483648 := c_mask p _ 31 (by decide) (by decide)
  have e2 := (c_irem (p &&& (2147483647 : Int32)) (6 : Int32) 6 (by decide)).1 (by rw [e1]; omega)
  refine ⟨((p.toInt % 2147483648) % 6).toNat, by omega, ?_⟩
  rw [Jvm.irem_eq_mod]
  apply Int32.toInt_inj.mp
  rw [e2, e1, Int32.toInt_ofNat_of_lt (by omega)]
  omega
def own_idx (xs : List Int32) (v : Int32) : Nat → Nat → Int32
  | 0, _ => -1
  | k + 1, i => if xs.getD i 0 = v then Int32.ofNat i else own_idx xs v k (i + 1)
theorem own_found (xs : List Int32) (v : Int32) (j : Nat) (hj : xs.getD j 0 = v) : ∀ k i, j < i + k → i ≤ j → (∀ q, i ≤ q → q < j → ¬ xs.getD q 0 = v) → own_idx xs v k i = Int32.ofNat j := by
  intro k
  induction k with
  | zero => intro i h1 h2; omega
  | succ k ih =>
    intro i h1 h2 h3
    show (if xs.getD i 0 = v then Int32.ofNat i else own_idx xs v k (i + 1)) = _
    by_cases e : i = j
    · subst e; rw [if_pos hj]
    · rw [if_neg (h3 i (Nat.le_refl _) (by omega))]
      exact ih (i + 1) (by omega) (by omega) (fun q a b => h3 q (by omega) b)
theorem own_nowhere (xs : List Int32) (v : Int32) : ∀ k i, (∀ q, i ≤ q → q < i + k → ¬ xs.getD q 0 = v) → own_idx xs v k i = -1 := by
  intro k
  induction k with
  | zero => intro i h; rfl
  | succ k ih =>
    intro i h
    show (if xs.getD i 0 = v then Int32.ofNat i else own_idx xs v k (i + 1)) = _
    rw [if_neg (h i (Nat.le_refl _) (by omega))]
    exact ih (i + 1) (fun q a b => h q (by omega) (by omega))
theorem own_vals (xs : List Int32) (i : Nat) : (xs.map Value.int).getD i (.int (0 : Int32)) = .int (xs.getD i 0) := by
  simp only [List.getD_eq_getElem?_getD, List.getElem?_map]
  cases xs[i]? <;> rfl
theorem d1_0 : decode prog_47_method_9_code 0 = .ok (.iload_n 2, 1) := by decide +kernel
theorem d1_1 : decode prog_47_method_9_code 1 = .ok (.istore 4, 2) := by decide +kernel
theorem d1_3 : decode prog_47_method_9_code 3 = .ok (.iload 4, 2) := by decide +kernel
theorem d1_5 : decode prog_47_method_9_code 5 = .ok (.iload_n 3, 1) := by decide +kernel
theorem d1_6 : decode prog_47_method_9_code 6 = .ok (.if_icmp .ge 20, 3) := by decide +kernel
theorem d1_9 : decode prog_47_method_9_code 9 = .ok (.aload_n 0, 1) := by decide +kernel
theorem d1_10 : decode prog_47_method_9_code 10 = .ok (.iload 4, 2) := by decide +kernel
theorem d1_12 : decode prog_47_method_9_code 12 = .ok (.baload, 1) := by decide +kernel
theorem d1_13 : decode prog_47_method_9_code 13 = .ok (.iload_n 1, 1) := by decide +kernel
theorem d1_14 : decode prog_47_method_9_code 14 = .ok (.if_icmp .ne 6, 3) := by decide +kernel
theorem d1_17 : decode prog_47_method_9_code 17 = .ok (.iload 4, 2) := by decide +kernel
theorem d1_19 : decode prog_47_method_9_code 19 = .ok (.ireturn, 1) := by decide +kernel
theorem d1_20 : decode prog_47_method_9_code 20 = .ok (.iinc 4 1, 3) := by decide +kernel
theorem d1_23 : decode prog_47_method_9_code 23 = .ok (.goto (-20), 3) := by decide +kernel
theorem d1_26 : decode prog_47_method_9_code 26 = .ok (.iconst (-1), 1) := by decide +kernel
theorem d1_27 : decode prog_47_method_9_code 27 = .ok (.ireturn, 1) := by decide +kernel
set_option maxRecDepth 65536 in
set_option maxHeartbeats 40000000 in
theorem own_turn {p : Program} {l : Launch} {e : Env} {R : Room} {s : State} {m : MethodId} {args : Array Value} {below : List Frame} {meth : Method} {c : Code} {locs : List Loc} {cells slots : Nat} {Z : State} {h0 : Heap} {cl : Cell} {T0 : State} (o0 : Addr) (i1 i2 : Int32) (t : Nat) (ht : t ≤ 5) (xs : List Int32) (Ar : Arr Z h0 o0 cl .byte) (S : cl.slots.size = 5) (hH : ∀ i, i < 5 → cl.slots[i]? = some (.int (xs.getD i 0))) (hx : p.tables.exec = Jvm.exec) (hZ : Z.Warmed39 s.vm) (hby : c.code = prog_47_method_9_code) (hret : meth.sig.returnType = some .int) {fs : List Frame} (i : Nat) (hi : i < t) (X0 : Stand p l e R s m args below meth c T0 locs cells slots) (e0 : T0.heap = h0)
    (hr : xs.getD i 0 = i1 → (∀ (f : JFrame) (acts : List Action), f.method = m → f.locked = none → f.entered = [] → (doReturn e (T0.setTop f) acts (some (.int (Int32.ofNat i)))).1 = T0.setFrames fs)) (kt : ¬ xs.getD i 0 = i1 → Steps p.tables e below (T0.setTop (mkF m 3 #[.val (.ref o0), .val (.int i1), .val (.int i2), .val (.int (Int32.ofNat t)), .val (.int (Int32.ofNat (i + 1)))] [])) (T0.setFrames fs)) :
    Steps p.tables e below (T0.setTop (mkF m 3 #[.val (.ref o0), .val (.int i1), .val (.int i2), .val (.int (Int32.ofNat t)), .val (.int (Int32.ofNat i))] [])) (T0.setFrames fs) := by
  have hlt : (Int32.ofNat i) < (Int32.ofNat t) := (own_lt (by omega) ht).mpr hi
  have hin : ¬ ((Int32.ofNat i) < 0 ∨ cl.slots.size ≤ (Int32.ofNat i).toNatClampNeg) := fun q => q.elim (fun q => own_pos (i := i) (by omega) q) (fun q => by rw [own_nat (by omega), S] at q; omega)
  have hat : cl.slots[(Int32.ofNat i).toNatClampNeg]? = some (.int (xs.getD i 0)) := by rw [own_nat (by omega)]; exact hH i (by omega)
  show Steps p.tables e below (T0.setTop (mkF m 3 #[.val (.ref o0), .val (.int i1), .val (.int i2), .val (.int (Int32.ofNat t)), .val (.int (Int32.ofNat i))] [])) _
  refine XS.iload X0.here hx rfl (hb hby d1_3) rfl ?_
  show Steps p.tables e below (T0.setTop (mkF m 5 #[.val (.ref o0), .val (.int i1), .val (.int i2), .val (.int (Int32.ofNat t)), .val (.int (Int32.ofNat i))] [(.int (Int32.ofNat i))])) _
  refine XS.iloadN X0.here hx rfl (hb hby d1_5) rfl ?_
  show Steps p.tables e below (T0.setTop (mkF m 6 #[.val (.ref o0), .val (.int i1), .val (.int i2), .val (.int (Int32.ofNat t)), .val (.int (Int32.ofNat i))] [(.int (Int32.ofNat t)), (.int (Int32.ofNat i))])) _
  refine XS.icmpNo X0.here hx rfl (hb hby d1_6) rfl (tlt hlt).2.1 ?_
  show Steps p.tables e below (T0.setTop (mkF m 9 #[.val (.ref o0), .val (.int i1), .val (.int i2), .val (.int (Int32.ofNat t)), .val (.int (Int32.ofNat i))] [])) _
  refine XS.aloadN X0.here hx rfl (hb hby d1_9) rfl rfl ?_
  show Steps p.tables e below (T0.setTop (mkF m 10 #[.val (.ref o0), .val (.int i1), .val (.int i2), .val (.int (Int32.ofNat t)), .val (.int (Int32.ofNat i))] [(.ref o0)])) _
  refine XS.iload X0.here hx rfl (hb hby d1_10) rfl ?_
  show Steps p.tables e below (T0.setTop (mkF m 12 #[.val (.ref o0), .val (.int i1), .val (.int i2), .val (.int (Int32.ofNat t)), .val (.int (Int32.ofNat i))] [(.int (Int32.ofNat i)), (.ref o0)])) _
  refine X0.baloadBytes hx (j := (Int32.ofNat i)) (v := (.int (xs.getD i 0))) (by rw [e0]; exact Ar.1) (State.isArrayOf_alike hZ.alike Ar.2.1) Ar.2.2 hin hat (g := (mkF m 12 #[.val (.ref o0), .val (.int i1), .val (.int i2), .val (.int (Int32.ofNat t)), .val (.int (Int32.ofNat i))] [(.int (Int32.ofNat i)), (.ref o0)])) rfl rfl (hb hby d1_12) _ ?_
  show Steps p.tables e below (T0.setTop (mkF m 13 #[.val (.ref o0), .val (.int i1), .val (.int i2), .val (.int (Int32.ofNat t)), .val (.int (Int32.ofNat i))] [(.int (xs.getD i 0))])) _
  refine XS.iloadN X0.here hx rfl (hb hby d1_13) rfl ?_
  show Steps p.tables e below (T0.setTop (mkF m 14 #[.val (.ref o0), .val (.int i1), .val (.int i2), .val (.int (Int32.ofNat t)), .val (.int (Int32.ofNat i))] [(.int i1), (.int (xs.getD i 0))])) _
  by_cases hc14 : (xs.getD i 0) = i1
  · refine XS.icmpNo X0.here hx rfl (hb hby d1_14) rfl (teq hc14).2 ?_
    show Steps p.tables e below (T0.setTop (mkF m 17 #[.val (.ref o0), .val (.int i1), .val (.int i2), .val (.int (Int32.ofNat t)), .val (.int (Int32.ofNat i))] [])) _
    refine XS.iload X0.here hx rfl (hb hby d1_17) rfl ?_
    show Steps p.tables e below (T0.setTop (mkF m 19 #[.val (.ref o0), .val (.int i1), .val (.int i2), .val (.int (Int32.ofNat t)), .val (.int (Int32.ofNat i))] [(.int (Int32.ofNat i))])) _
    exact retI X0 hx hret (hb hby d1_19) (hr hc14)
  · refine XS.icmpYes X0.here hx rfl (pc0 := 14) (pc' := 20) rfl (hb hby d1_14) rfl (feq hc14).2 (by decide) (by decide) ?_
    show Steps p.tables e below (T0.setTop (mkF m 20 #[.val (.ref o0), .val (.int i1), .val (.int i2), .val (.int (Int32.ofNat t)), .val (.int (Int32.ofNat i))] [])) _
    refine XS.iinc X0.here hx rfl (hb hby d1_20) rfl (l' := #[.val (.ref o0), .val (.int i1), .val (.int i2), .val (.int (Int32.ofNat t)), .val (.int ((Int32.ofNat i) + (1 : Int32)))]) rfl ?_
    show Steps p.tables e below (T0.setTop (mkF m 23 #[.val (.ref o0), .val (.int i1), .val (.int i2), .val (.int (Int32.ofNat t)), .val (.int ((Int32.ofNat i) + (1 : Int32)))] [])) _
    refine XS.goto X0.here hx rfl (pc0 := 23) (pc' := 3) rfl (hb hby d1_23) (by decide) (by decide) ?_
    show Steps p.tables e below (T0.setTop (mkF m 3 #[.val (.ref o0), .val (.int i1), .val (.int i2), .val (.int (Int32.ofNat t)), .val (.int ((Int32.ofNat i) + (1 : Int32)))] [])) _
    rw [own_succ (by omega)]
    exact kt hc14
set_option maxRecDepth 65536 in
set_option maxHeartbeats 40000000 in
theorem own_out {p : Program} {l : Launch} {e : Env} {R : Room} {s : State} {m : MethodId} {args : Array Value} {below : List Frame} {meth : Method} {c : Code} {locs : List Loc} {cells slots : Nat} {Z : State} {T0 : State} (o0 : Addr) (i1 i2 : Int32) (t : Nat) (ht : t ≤ 5) (hx : p.tables.exec = Jvm.exec) (hZ : Z.Warmed39 s.vm) (hby : c.code = prog_47_method_9_code) (hret : meth.sig.returnType = some .int) {fs : List Frame} (i : Nat) (h5 : i ≤ 5) (hi : ¬ i < t) (X0 : Stand p l e R s m args below meth c T0 locs cells slots)
    (hr : (∀ (f : JFrame) (acts : List Action), f.method = m → f.locked = none → f.entered = [] → (doReturn e (T0.setTop f) acts (some (.int (-1 : Int32)))).1 = T0.setFrames fs)) :
    Steps p.tables e below (T0.setTop (mkF m 3 #[.val (.ref o0), .val (.int i1), .val (.int i2), .val (.int (Int32.ofNat t)), .val (.int (Int32.ofNat i))] [])) (T0.setFrames fs) := by
  have hlt : ¬ (Int32.ofNat i) < (Int32.ofNat t) := fun q => hi ((own_lt h5 ht).mp q)
  show Steps p.tables e below (T0.setTop (mkF m 3 #[.val (.ref o0), .val (.int i1), .val (.int i2), .val (.int (Int32.ofNat t)), .val (.int (Int32.ofNat i))] [])) _
  refine XS.iload X0.here hx rfl (hb hby d1_3) rfl ?_
  show Steps p.tables e below (T0.setTop (mkF m 5 #[.val (.ref o0), .val (.int i1), .val (.int i2), .val (.int (Int32.ofNat t)), .val (.int (Int32.ofNat i))] [(.int (Int32.ofNat i))])) _
  refine XS.iloadN X0.here hx rfl (hb hby d1_5) rfl ?_
  show Steps p.tables e below (T0.setTop (mkF m 6 #[.val (.ref o0), .val (.int i1), .val (.int i2), .val (.int (Int32.ofNat t)), .val (.int (Int32.ofNat i))] [(.int (Int32.ofNat t)), (.int (Int32.ofNat i))])) _
  refine XS.icmpYes X0.here hx rfl (pc0 := 6) (pc' := 26) rfl (hb hby d1_6) rfl (flt hlt).2.1 (by decide) (by decide) ?_
  show Steps p.tables e below (T0.setTop (mkF m 26 #[.val (.ref o0), .val (.int i1), .val (.int i2), .val (.int (Int32.ofNat t)), .val (.int (Int32.ofNat i))] [])) _
  refine XS.iconst X0.here hx rfl (hb hby d1_26) ?_
  show Steps p.tables e below (T0.setTop (mkF m 27 #[.val (.ref o0), .val (.int i1), .val (.int i2), .val (.int (Int32.ofNat t)), .val (.int (Int32.ofNat i))] [(.int (-1 : Int32))])) _
  exact retI X0 hx hret (hb hby d1_27) hr
theorem own_loop {p : Program} {l : Launch} {e : Env} {R : Room} {s : State} {m : MethodId} {args : Array Value} {below : List Frame} {meth : Method} {c : Code} {locs : List Loc} {cells slots : Nat} {Z : State} {h0 : Heap} {cl : Cell} (o0 : Addr) (i1 i2 : Int32) (t : Nat) (ht : t ≤ 5) (xs : List Int32) (Ar : Arr Z h0 o0 cl .byte) (S : cl.slots.size = 5) (hH : ∀ i, i < 5 → cl.slots[i]? = some (.int (xs.getD i 0))) (hx : p.tables.exec = Jvm.exec) (hZ : Z.Warmed39 s.vm) (hby : c.code = prog_47_method_9_code) (hret : meth.sig.returnType = some .int) {fs : List Frame} :
    ∀ (k i : Nat) (T0 : State), t - i = k → i ≤ 5 → Stand p l e R s m args below meth c T0 locs cells slots → T0.heap = h0 → (∀ (f : JFrame) (acts : List Action), f.method = m → f.locked = none → f.entered = [] → (doReturn e (T0.setTop f) acts (some (.int (own_idx xs i1 k i)))).1 = T0.setFrames fs) →
      Steps p.tables e below (T0.setTop (mkF m 3 #[.val (.ref o0), .val (.int i1), .val (.int i2), .val (.int (Int32.ofNat t)), .val (.int (Int32.ofNat i))] [])) (T0.setFrames fs) := by
  intro k
  induction k with
  | zero =>
    intro i T0 hk h5 X0 e0 hr
    exact own_out o0 i1 i2 t ht hx hZ hby hret i h5 (by omega) X0 hr
  | succ k ih =>
    intro i T0 hk h5 X0 e0 hr
    refine own_turn o0 i1 i2 t ht xs Ar S hH hx hZ hby hret i (by omega) X0 e0 (fun q => ?_) (fun q => ?_)
    · have hv : own_idx xs i1 (k + 1) i = Int32.ofNat i := by show (if xs.getD i 0 = i1 then Int32.ofNat i else own_idx xs i1 k (i + 1)) = _; rw [if_pos q]
      rw [hv] at hr
      exact hr
    · have hv : own_idx xs i1 (k + 1) i = own_idx xs i1 k (i + 1) := by show (if xs.getD i 0 = i1 then Int32.ofNat i else own_idx xs i1 k (i + 1)) = _; rw [if_neg q]
      rw [hv] at hr
      exact ih (i + 1) T0 (by omega) (by omega) X0 e0 hr
theorem pn_1 : plainName "reelfield/record/Bytes" = true := by first | (simp [plainName, overriddenIn]; done) | decide +kernel
theorem ef_1 (m : MethodId) (x0 : Addr) (x1 x2 x3 : Int32) : entryFrame m #[(.ref x0), (.int x1), (.int x2), (.int x3)] 5 = (mkF m 0 #[.val (.ref x0), .val (.int x1), .val (.int x2), .val (.int x3), .unset] []) := by first | (simp [entryFrame, mkF, argsToLocals, Value.category]; done) | rfl
def Q1 (Z : State) (p2 : Int32) (f t : Nat) (xs : List Int32) (h0 : Heap) (n0 : Nat) (v : Option Value) (h : Heap) (L : List Loc) : Prop := v = some (.int (own_idx xs p2 (t - f) f)) ∧ Fr n0 L ∧ h = h0
set_option maxRecDepth 65536 in
set_option maxHeartbeats 40000000 in
theorem rm1 (l : Launch) (Z : State) (a0 : Array Value) (hw : ∀ d ∈ tables_1, d.before a0 Z = true) (ws : List Jvm.Cond) (a1 : Addr) (p2 : Int32) (f t : Nat) (xs : List Int32) (kA : ClassId) (h0 : Heap) (n0 : Nat) (Z0 : n0 ≤ h0.size) (hf : f ≤ 5) (ht : t ≤ 5) (V : Arv Z h0 a1 kA .byte (5 : Int32) (xs.map Value.int) (.int (0 : Int32))) :
    MetFree l (⟨"reelfield/record/Bytes", "indexOf", "([BBII)I"⟩ : MethodName) (head1 (Jvm.Cond.code (⟨"reelfield/record/Bytes", "indexOf", "([BBII)I"⟩ : MethodName) prog_47_method_9_code 5 (some .int) :: ws) ({ frames := 0, cells := 0, slots := 0, locals := 0 } : Room)) (fun a U => a = #[(.ref a1), (.int p2), (.int (Int32.ofNat f)), (.int (Int32.ofNat t))] ∧ Z.Warmed39 U.vm ∧ U.heap = h0) (fun _ _ _ _ _ => True) (fun _ U o U' => ∃ v L, o = .returned v ∧ Q1 Z p2 f t xs h0 n0 v U'.heap L ∧ FrameEnd U o U' L ({ frames := 0, cells := 0, slots := 0, locals := 0 } : Room).cells ({ frames := 0, cells := 0, slots := 0, locals := 0 } : Room).slots) := by
  refine MetFree.of_bodySF (plainFor_of_name pn_1) hisR ?_
  intro p e s m args below meth c s₁ Bd hml0 hP hK
  obtain ⟨rfl, hZ, hh⟩ := hP
  have hx := Bd.exec
  have hby := Bd.bytes
  have hml : c.maxLocals = 5 := hml0
  have hown : s.vm.findClass "reelfield/record/Bytes" = some m.cls := findClass_of_methodNamed Bd.named
  have X0 : Stand p l e ({ frames := 0, cells := 0, slots := 0, locals := 0 } : Room) s m #[(.ref a1), (.int p2), (.int (Int32.ofNat f)), (.int (Int32.ofNat t))] below meth c s₁ [] 0 0 := Stand.of_body Bd
  have e0 : s₁.heap = h0 := by rw [← hh, Bd.state]; rfl
  have N0 := Fr.nil n0
  have pre0 : ∀ tg, Steps p.tables e below (s₁.setTop (mkF m 0 #[.val (.ref a1), .val (.int p2), .val (.int (Int32.ofNat f)), .val (.int (Int32.ofNat t)), .unset] [])) tg → Steps p.tables e below (s₁.setTop (entryFrame m #[(.ref a1), (.int p2), (.int (Int32.ofNat f)), (.int (Int32.ofNat t))] 5)) tg := fun tg k => castTop (ef_1 m a1 p2 (Int32.ofNat f) (Int32.ofNat t)) k
  obtain ⟨cl, Ar, q1, S, q3, H, G⟩ := V
  have S : cl.slots.size = 5 := S
  have hH : ∀ i, i < 5 → cl.slots[i]? = some (.int (xs.getD i 0)) := fun i hi => by rw [H i (by rw [S]; exact hi), own_vals]
  obtain ⟨fs, hr, hrun, hended, hW, hsame⟩ := X0.leave (v := some (.int (own_idx xs p2 (t - f) f))) (fun h => by rw [Bd.returns] at h; cases h)
  refine ⟨_, _, pre0 _ ?_, hrun, hended, _, _, rfl, ?_, ⟨_, rfl⟩, hW, hsame.mono (by decide) (by decide)⟩
  · show Steps p.tables e below (s₁.setTop (mkF m 0 #[.val (.ref a1), .val (.int p2), .val (.int (Int32.ofNat f)), .val (.int (Int32.ofNat t)), .unset] [])) _
    refine XS.iloadN X0.here hx rfl (hb hby d1_0) rfl ?_
    show Steps p.tables e below (s₁.setTop (mkF m 1 #[.val (.ref a1), .val (.int p2), .val (.int (Int32.ofNat f)), .val (.int (Int32.ofNat t)), .unset] [(.int (Int32.ofNat f))])) _
    refine XS.istore X0.here hx rfl (hb hby d1_1) rfl (l' := #[.val (.ref a1), .val (.int p2), .val (.int (Int32.ofNat f)), .val (.int (Int32.ofNat t)), .val (.int (Int32.ofNat f))]) rfl ?_
    show Steps p.tables e below (s₁.setTop (mkF m 3 #[.val (.ref a1), .val (.int p2), .val (.int (Int32.ofNat f)), .val (.int (Int32.ofNat t)), .val (.int (Int32.ofNat f))] [])) _
    exact own_loop a1 p2 (Int32.ofNat f) t ht xs Ar S hH hx hZ hby Bd.returns _ f s₁ rfl hf X0 e0 hr
  · show Q1 Z p2 f t xs h0 n0 _ s₁.heap _
    rw [e0]
    exact ⟨rfl, N0, rfl⟩
theorem d2_0 : decode method_2_code 0 = .ok (.iload_n 3, 1) := by decide +kernel
theorem d2_1 : decode method_2_code 1 = .ok (.iload_n 1, 1) := by decide +kernel
theorem d2_2 : decode method_2_code 2 = .ok (.if_icmp .gt 20, 3) := by decide +kernel
theorem d2_5 : decode method_2_code 5 = .ok (.iload_n 1, 1) := by decide +kernel
theorem d2_6 : decode method_2_code 6 = .ok (.iload 4, 2) := by decide +kernel
theorem d2_8 : decode method_2_code 8 = .ok (.if_icmp .ge 14, 3) := by decide +kernel
theorem d2_11 : decode method_2_code 11 = .ok (.aload_n 0, 1) := by decide +kernel
theorem d2_12 : decode method_2_code 12 = .ok (.iload_n 1, 1) := by decide +kernel
theorem d2_13 : decode method_2_code 13 = .ok (.baload, 1) := by decide +kernel
theorem d2_14 : decode method_2_code 14 = .ok (.iload_n 2, 1) := by decide +kernel
theorem d2_15 : decode method_2_code 15 = .ok (.if_icmp .ne 7, 3) := by decide +kernel
theorem d2_18 : decode method_2_code 18 = .ok (.iconst 1, 1) := by decide +kernel
theorem d2_19 : decode method_2_code 19 = .ok (.goto 4, 3) := by decide +kernel
theorem d2_22 : decode method_2_code 22 = .ok (.iconst 0, 1) := by decide +kernel
theorem d2_23 : decode method_2_code 23 = .ok (.ireturn, 1) := by decide +kernel
theorem pn_2 : plainName "reelfield/record/BytesIndexOfPinLaw" = true := by first | (simp [plainName, overriddenIn]; done) | decide +kernel
theorem ef_2 (m : MethodId) (a1 : Addr) (p2 p3 p4 p5 : Int32) : entryFrame m #[(.ref a1), (.int p2), (.int p3), (.int p4), (.int p5)] 5 = (mkF m 0 #[.val (.ref a1), .val (.int p2), .val (.int p3), .val (.int p4), .val (.int p5)] []) := by first | (simp [entryFrame, mkF, argsToLocals, Value.category]; done) | rfl
def own_F2 (p2 p3 p4 p5 w : Int32) : Int32 := if p2 < p4 then (0 : Int32) else (if p2 < p5 then (if w = p3 then (1 : Int32) else (0 : Int32)) else (0 : Int32))
def Q2 (Z : State) (p2 p3 p4 p5 w : Int32) (h0 : Heap) (n0 : Nat) (v : Option Value) (h : Heap) (L : List Loc) : Prop := v = some (.int (own_F2 p2 p3 p4 p5 w)) ∧ Fr n0 L ∧ h = h0
set_option maxRecDepth 65536 in
set_option maxHeartbeats 40000000 in
theorem rm2 (l : Launch) (Z : State) (a0 : Array Value) (hw : ∀ d ∈ tables_1, d.before a0 Z = true) (ws : List Jvm.Cond) (a1 : Addr) (p2 p3 p4 p5 w : Int32) (cl : Cell) (h0 : Heap) (n0 : Nat) (Z0 : n0 ≤ h0.size) (Ar : Arr Z h0 a1 cl .byte) (hin : ¬ (p2 < 0 ∨ cl.slots.size ≤ (p2).toNatClampNeg)) (hat : cl.slots[(p2).toNatClampNeg]? = some (.int w)) :
    MetFree l (⟨"reelfield/record/BytesIndexOfPinLaw", "hit", "([BIBII)Z"⟩ : MethodName) (head1 (Jvm.Cond.code (⟨"reelfield/record/BytesIndexOfPinLaw", "hit", "([BIBII)Z"⟩ : MethodName) method_2_code 5 (some .boolean) :: ws) ({ frames := 0, cells := 0, slots := 0, locals := 0 } : Room)) (fun a U => a = #[(.ref a1), (.int p2), (.int p3), (.int p4), (.int p5)] ∧ Z.Warmed39 U.vm ∧ U.heap = h0) (fun _ _ _ _ _ => True) (fun _ U o U' => ∃ v L, o = .returned v ∧ Q2 Z p2 p3 p4 p5 w h0 n0 v U'.heap L ∧ FrameEnd U o U' L ({ frames := 0, cells := 0, slots := 0, locals := 0 } : Room).cells ({ frames := 0, cells := 0, slots := 0, locals := 0 } : Room).slots) := by
  refine MetFree.of_bodySF (plainFor_of_name pn_2) hisR ?_
  intro p e s m args below meth c s₁ Bd hml0 hP hK
  obtain ⟨rfl, hZ, hh⟩ := hP
  have hx := Bd.exec
  have hby := Bd.bytes
  have hml : c.maxLocals = 5 := hml0
  have hown : s.vm.findClass "reelfield/record/BytesIndexOfPinLaw" = some m.cls := findClass_of_methodNamed Bd.named
  have X0 : Stand p l e ({ frames := 0, cells := 0, slots := 0, locals := 0 } : Room) s m #[(.ref a1), (.int p2), (.int p3), (.int p4), (.int p5)] below meth c s₁ [] 0 0 := Stand.of_body Bd
  have e0 : s₁.heap = h0 := by rw [← hh, Bd.state]; rfl
  have N0 := Fr.nil n0
  have pre0 : ∀ tg, Steps p.tables e below (s₁.setTop (mkF m 0 #[.val (.ref a1), .val (.int p2), .val (.int p3), .val (.int p4), .val (.int p5)] [])) tg → Steps p.tables e below (s₁.setTop (entryFrame m #[(.ref a1), (.int p2), (.int p3), (.int p4), (.int p5)] 5)) tg := fun tg k => castTop (ef_2 m a1 p2 p3 p4 p5) k
  obtain ⟨fs, hr, hrun, hended, hW, hsame⟩ := X0.leave (v := some (.int (own_F2 p2 p3 p4 p5 w))) (fun h => by rw [Bd.returns] at h; cases h)
  refine ⟨_, _, pre0 _ ?_, hrun, hended, _, _, rfl, ?_, ⟨_, rfl⟩, hW, hsame.mono (by decide) (by decide)⟩
  · show Steps p.tables e below (s₁.setTop (mkF m 0 #[.val (.ref a1), .val (.int p2), .val (.int p3), .val (.int p4), .val (.int p5)] [])) _
    refine XS.iloadN X0.here hx rfl (hb hby d2_0) rfl ?_
    show Steps p.tables e below (s₁.setTop (mkF m 1 #[.val (.ref a1), .val (.int p2), .val (.int p3), .val (.int p4), .val (.int p5)] [(.int p4)])) _
    refine XS.iloadN X0.here hx rfl (hb hby d2_1) rfl ?_
    show Steps p.tables e below (s₁.setTop (mkF m 2 #[.val (.ref a1), .val (.int p2), .val (.int p3), .val (.int p4), .val (.int p5)] [(.int p2), (.int p4)])) _
    by_cases hc2 : p2 < p4
    · refine XS.icmpYes X0.here hx rfl (pc0 := 2) (pc' := 22) rfl (hb hby d2_2) rfl (tlt hc2).2.2.1 (by decide) (by decide) ?_
      show Steps p.tables e below (s₁.setTop (mkF m 22 #[.val (.ref a1), .val (.int p2), .val (.int p3), .val (.int p4), .val (.int p5)] [])) _
      refine XS.iconst X0.here hx rfl (hb hby d2_22) ?_
      show Steps p.tables e below (s₁.setTop (mkF m 23 #[.val (.ref a1), .val (.int p2), .val (.int p3), .val (.int p4), .val (.int p5)] [(.int (0 : Int32))])) _
      have hv : own_F2 p2 p3 p4 p5 w = (0 : Int32) := by unfold own_F2; rw [if_pos hc2]
      rw [hv] at hr
      exact retN X0 hx (t := .boolean) Bd.returns (by simp) (hb hby d2_23) hr
    · refine XS.icmpNo X0.here hx rfl (hb hby d2_2) rfl (flt hc2).2.2.1 ?_
      show Steps p.tables e below (s₁.setTop (mkF m 5 #[.val (.ref a1), .val (.int p2), .val (.int p3), .val (.int p4), .val (.int p5)] [])) _
      refine XS.iloadN X0.here hx rfl (hb hby d2_5) rfl ?_
      show Steps p.tables e below (s₁.setTop (mkF m 6 #[.val (.ref a1), .val (.int p2), .val (.int p3), .val (.int p4), .val (.int p5)] [(.int p2)])) _
      refine XS.iload X0.here hx rfl (hb hby d2_6) rfl ?_
      show Steps p.tables e below (s₁.setTop (mkF m 8 #[.val (.ref a1), .val (.int p2), .val (.int p3), .val (.int p4), .val (.int p5)] [(.int p5), (.int p2)])) _
      by_cases hc8 : p2 < p5
      · refine XS.icmpNo X0.here hx rfl (hb hby d2_8) rfl (tlt hc8).2.1 ?_
        show Steps p.tables e below (s₁.setTop (mkF m 11 #[.val (.ref a1), .val (.int p2), .val (.int p3), .val (.int p4), .val (.int p5)] [])) _
        refine XS.aloadN X0.here hx rfl (hb hby d2_11) rfl rfl ?_
        show Steps p.tables e below (s₁.setTop (mkF m 12 #[.val (.ref a1), .val (.int p2), .val (.int p3), .val (.int p4), .val (.int p5)] [(.ref a1)])) _
        refine XS.iloadN X0.here hx rfl (hb hby d2_12) rfl ?_
        show Steps p.tables e below (s₁.setTop (mkF m 13 #[.val (.ref a1), .val (.int p2), .val (.int p3), .val (.int p4), .val (.int p5)] [(.int p2), (.ref a1)])) _
        refine X0.baloadBytes hx (j := p2) (v := (.int w)) (by rw [e0]; exact Ar.1) (State.isArrayOf_alike hZ.alike Ar.2.1) Ar.2.2 hin hat (g := (mkF m 13 #[.val (.ref a1), .val (.int p2), .val (.int p3), .val (.int p4), .val (.int p5)] [(.int p2), (.ref a1)])) rfl rfl (hb hby d2_13) _ ?_
        show Steps p.tables e below (s₁.setTop (mkF m 14 #[.val (.ref a1), .val (.int p2), .val (.int p3), .val (.int p4), .val (.int p5)] [(.int w)])) _
        refine XS.iloadN X0.here hx rfl (hb hby d2_14) rfl ?_
        show Steps p.tables e below (s₁.setTop (mkF m 15 #[.val (.ref a1), .val (.int p2), .val (.int p3), .val (.int p4), .val (.int p5)] [(.int p3), (.int w)])) _
        by_cases hc15 : w = p3
        · refine XS.icmpNo X0.here hx rfl (hb hby d2_15) rfl (teq hc15).2 ?_
          show Steps p.tables e below (s₁.setTop (mkF m 18 #[.val (.ref a1), .val (.int p2), .val (.int p3), .val (.int p4), .val (.int p5)] [])) _
          refine XS.iconst X0.here hx rfl (hb hby d2_18) ?_
          show Steps p.tables e below (s₁.setTop (mkF m 19 #[.val (.ref a1), .val (.int p2), .val (.int p3), .val (.int p4), .val (.int p5)] [(.int (1 : Int32))])) _
          refine XS.goto X0.here hx rfl (pc0 := 19) (pc' := 23) rfl (hb hby d2_19) (by decide) (by decide) ?_
          show Steps p.tables e below (s₁.setTop (mkF m 23 #[.val (.ref a1), .val (.int p2), .val (.int p3), .val (.int p4), .val (.int p5)] [(.int (1 : Int32))])) _
          have hv : own_F2 p2 p3 p4 p5 w = (1 : Int32) := by unfold own_F2; rw [if_neg hc2, if_pos hc8, if_pos hc15]
          rw [hv] at hr
          exact retN X0 hx (t := .boolean) Bd.returns (by simp) (hb hby d2_23) hr
        · refine XS.icmpYes X0.here hx rfl (pc0 := 15) (pc' := 22) rfl (hb hby d2_15) rfl (feq hc15).2 (by decide) (by decide) ?_
          show Steps p.tables e below (s₁.setTop (mkF m 22 #[.val (.ref a1), .val (.int p2), .val (.int p3), .val (.int p4), .val (.int p5)] [])) _
          refine XS.iconst X0.here hx rfl (hb hby d2_22) ?_
          show Steps p.tables e below (s₁.setTop (mkF m 23 #[.val (.ref a1), .val (.int p2), .val (.int p3), .val (.int p4), .val (.int p5)] [(.int (0 : Int32))])) _
          have hv : own_F2 p2 p3 p4 p5 w = (0 : Int32) := by unfold own_F2; rw [if_neg hc2, if_pos hc8, if_neg hc15]
          rw [hv] at hr
          exact retN X0 hx (t := .boolean) Bd.returns (by simp) (hb hby d2_23) hr
      · refine XS.icmpYes X0.here hx rfl (pc0 := 8) (pc' := 22) rfl (hb hby d2_8) rfl (flt hc8).2.1 (by decide) (by decide) ?_
        show Steps p.tables e below (s₁.setTop (mkF m 22 #[.val (.ref a1), .val (.int p2), .val (.int p3), .val (.int p4), .val (.int p5)] [])) _
        refine XS.iconst X0.here hx rfl (hb hby d2_22) ?_
        show Steps p.tables e below (s₁.setTop (mkF m 23 #[.val (.ref a1), .val (.int p2), .val (.int p3), .val (.int p4), .val (.int p5)] [(.int (0 : Int32))])) _
        have hv : own_F2 p2 p3 p4 p5 w = (0 : Int32) := by unfold own_F2; rw [if_neg hc2, if_neg hc8]
        rw [hv] at hr
        exact retN X0 hx (t := .boolean) Bd.returns (by simp) (hb hby d2_23) hr
  · show Q2 Z p2 p3 p4 p5 w h0 n0 _ s₁.heap _
    rw [e0]
    exact ⟨rfl, N0, rfl⟩
theorem own_hit {i f t : Nat} (hi : i ≤ 5) (hf : f ≤ 5) (ht : t ≤ 5) (w v : Int32) : own_F2 (Int32.ofNat i) v (Int32.ofNat f) (Int32.ofNat t) w = 0 ↔ ¬ (f ≤ i ∧ i < t ∧ w = v) := by
  unfold own_F2
  by_cases h1 : Int32.ofNat i < Int32.ofNat f
  · rw [if_pos h1]; have := (own_lt hi hf).mp h1; constructor
    · intro _ q; omega
    · intro _; rfl
  · rw [if_neg h1]; have g1 : f ≤ i := Nat.le_of_not_lt fun q => h1 ((own_lt hi hf).mpr q)
    by_cases h2 : Int32.ofNat i < Int32.ofNat t
    · rw [if_pos h2]; have g2 := (own_lt hi ht).mp h2
      by_cases h3 : w = v
      · rw [if_pos h3]; constructor
        · intro q; exact absurd q (by decide)
        · intro q; exact absurd ⟨g1, g2, h3⟩ q
      · rw [if_neg h3]; constructor
        · intro _ q; exact h3 q.2.2
        · intro _; rfl
    · rw [if_neg h2]; have g2 : ¬ i < t := fun q => h2 ((own_lt hi ht).mpr q)
      constructor
      · intro _ q; exact g2 q.2.1
      · intro _; rfl
theorem own_byte (x : Int32) : x.toInt8.toInt32.toInt8.toInt32 = x.toInt8.toInt32 := by rw [Int8.toInt8_toInt32]
theorem own_at {xs : List Int32} {v : Int32} {f t : Nat} (j : Nat) (hj : f ≤ j ∧ j < t ∧ xs.getD j 0 = v) (hb : ∀ q, q < j → ¬ (f ≤ q ∧ q < t ∧ xs.getD q 0 = v)) : own_idx xs v (t - f) f = Int32.ofNat j :=
  own_found xs v j hj.2.2 (t - f) f (by omega) hj.1 (fun q a b c => hb q b ⟨a, by omega, c⟩)
theorem own_no {xs : List Int32} {v : Int32} {f t : Nat} (ht : t ≤ 5) (hb : ∀ q, q < 5 → ¬ (f ≤ q ∧ q < t ∧ xs.getD q 0 = v)) : own_idx xs v (t - f) f = -1 :=
  own_nowhere xs v (t - f) f (fun q a b c => hb q (by omega) ⟨a, by omega, c⟩)
theorem pn_0 : plainName "reelfield/record/BytesIndexOfPinLaw" = true := by first | (simp [plainName, overriddenIn]; done) | decide +kernel
theorem pd_0_0 : parseMethodDescriptor "([BBII)I" = some ⟨[(.array .byte), .byte, .int, .int], some .int⟩ := by decide +kernel
theorem pd_0_1 : parseMethodDescriptor "([BIBII)Z" = some ⟨[(.array .byte), .int, .byte, .int, .int], some .boolean⟩ := by decide +kernel
theorem ef_0 (m : MethodId) (p1 : Int32) (p2 : Int32) (p3 : Int32) (p4 : Int32) (p5 : Int32) : entryFrame m #[(.int p1), (.int p2), (.int p3), (.int p4), (.int p5)] maxLocals = (mkF m 0 #[.val (.int p1), .val (.int p2), .val (.int p3), .val (.int p4), .val (.int p5), .unset, .unset, .unset, .unset, .unset, .unset] []) := by first | (simp [entryFrame, mkF, argsToLocals, Value.category, maxLocals]; done) | rfl
def Q0 (Z : State) (p1 : Int32) (p2 : Int32) (p3 : Int32) (p4 : Int32) (p5 : Int32) (h0 : Heap) (n0 : Nat) (v : Option Value) (h : Heap) (L : List Loc) : Prop := v = some (.int (1 : Int32)) ∧ Fr n0 L
set_option maxRecDepth 65536 in
set_option maxHeartbeats 40000000 in
theorem rm0 (l : Launch) (Z : State) (a0 : Array Value) (hw : ∀ d ∈ tables_1, d.before a0 Z = true) (ws : List Jvm.Cond) (p1 : Int32) (p2 : Int32) (p3 : Int32) (p4 : Int32) (p5 : Int32) (h0 : Heap) (n0 : Nat) (Z0 : n0 ≤ h0.size) :
    MetFree l x (head1 (Jvm.Cond.code x code maxLocals ret :: ws) room_1) (fun a U => a = #[(.int p1), (.int p2), (.int p3), (.int p4), (.int p5)] ∧ Z.Warmed39 U.vm ∧ U.heap = h0) (fun _ _ _ _ _ => True) (fun _ U o U' => ∃ v L, o = .returned v ∧ Q0 Z p1 p2 p3 p4 p5 h0 n0 v U'.heap L ∧ FrameEnd U o U' L 16 128) := by
  refine MetFree.of_bodySF (plainFor_of_name pn_0) hisR ?_
  intro p e s m args below meth c s₁ Bd hml0 hP hK
  obtain ⟨rfl, hZ, hh⟩ := hP
  have hx := Bd.exec
  have hby := Bd.bytes
  have hml : c.maxLocals = 11 := hml0
  have hown : s.vm.findClass "reelfield/record/BytesIndexOfPinLaw" = some m.cls := findClass_of_methodNamed Bd.named
  have hnm := (name_of_methodNamed Bd.named Bd.method).1
  have X0 : Stand p l e room_1 s m #[(.int p1), (.int p2), (.int p3), (.int p4), (.int p5)] below meth c s₁ [] 0 0 := Stand.of_body Bd
  have e0 : s₁.heap = h0 := by rw [← hh, Bd.state]; rfl
  have N0 := Fr.nil n0
  have pre0 : ∀ t, Steps p.tables e below (s₁.setTop (mkF m 0 #[.val (.int p1), .val (.int p2), .val (.int p3), .val (.int p4), .val (.int p5), .unset, .unset, .unset, .unset, .unset, .unset] [])) t → Steps p.tables e below (s₁.setTop (entryFrame m #[(.int p1), (.int p2), (.int p3), (.int p4), (.int p5)] maxLocals)) t := fun t k => castTop (ef_0 m p1 p2 p3 p4 p5) k
  obtain ⟨T3, h3, k3, X3, e3, E3, A3, st3⟩ := newP X0 hx hZ (hw _ (List.mem_of_getElem? (i := 0) rfl)) e0 (g := (mkF m 1 #[.val (.int p1), .val (.int p2), .val (.int p3), .val (.int p4), .val (.int p5), .unset, .unset, .unset, .unset, .unset, .unset] [(.int (5 : Int32))])) rfl (hb hby at_1) rfl (by decide) (cap := 5) (by decide) (by decide) (by decide) (by decide)
  obtain ⟨b3, g3⟩ : ∃ z, z = h0.size := ⟨_, rfl⟩
  rw [← g3] at A3 st3
  have V3 : Arv Z h3 b3 k3 .byte (5 : Int32) [(.int (0 : Int32)), (.int (0 : Int32)), (.int (0 : Int32)), (.int (0 : Int32)), (.int (0 : Int32))] (.int (0 : Int32)) := (Arv.new A3 (by decide)).pad (pad_rep [] (.int (0 : Int32)) 5)
  have g_b3 : n0 ≤ b3 := Nat.le_trans Z0 (Nat.le_of_eq g3.symm)
  have sz_b3 : h0.size ≤ b3 := Nat.le_of_eq g3.symm
  have K3 : Keep h0 h3 [] := (Keep.refl h0 []).ext E3
  obtain ⟨x0, hx0⟩ : ∃ z, z = (p1.toInt8.toInt32) := ⟨_, rfl⟩
  have bx0 : x0.toInt8.toInt32 = x0 := by rw [hx0]; exact own_byte _
  obtain ⟨cl4, Ar4, q4, S4, N4', H4, G4⟩ := V3
  have hin10 : ¬ ((0 : Int32) < 0 ∨ cl4.slots.size ≤ ((0 : Int32)).toNatClampNeg) := inb_of S4 ⟨by decide, by decide⟩
  obtain ⟨T4, h4, X4, e4, W4, st4⟩ := stB X3 hx hZ e3 Ar4 (j := (0 : Int32)) hin10 (g := (mkF m 10 #[.val (.int p1), .val (.int p2), .val (.int p3), .val (.int p4), .val (.int p5), .val (.ref b3), .unset, .unset, .unset, .unset, .unset] [(.int x0), (.int (0 : Int32)), (.ref b3)])) rfl rfl (hb hby at_10)
  have V4 : Arv Z h4 b3 k3 .byte (5 : Int32) [(.int x0), (.int (0 : Int32)), (.int (0 : Int32)), (.int (0 : Int32)), (.int (0 : Int32))] (.int (0 : Int32)) := by
    have q := Arv.set Ar4 q4 S4 N4' H4 G4 (fits_nar_byte _) W4 0 rfl (Nat.le_of_ble_eq_true rfl)
    rw [bx0] at q
    exact q
  have K4 : Keep h0 h4 [] := K3.wr W4 (Or.inr sz_b3)
  have N4 := Fr.snoc X4 N0 g_b3
  obtain ⟨x1, hx1⟩ : ∃ z, z = ((p1 >>> ((8 : Int32) &&& 31)).toInt8.toInt32) := ⟨_, rfl⟩
  have bx1 : x1.toInt8.toInt32 = x1 := by rw [hx1]; exact own_byte _
  obtain ⟨cl5, Ar5, q5, S5, N5', H5, G5⟩ := V4
  have hin19 : ¬ ((1 : Int32) < 0 ∨ cl5.slots.size ≤ ((1 : Int32)).toNatClampNeg) := inb_of S5 ⟨by decide, by decide⟩
  obtain ⟨T5, h5, X5, e5, W5, st5⟩ := stB X4 hx hZ e4 Ar5 (j := (1 : Int32)) hin19 (g := (mkF m 19 #[.val (.int p1), .val (.int p2), .val (.int p3), .val (.int p4), .val (.int p5), .val (.ref b3), .unset, .unset, .unset, .unset, .unset] [(.int x1), (.int (1 : Int32)), (.ref b3)])) rfl rfl (hb hby at_19)
  have V5 : Arv Z h5 b3 k3 .byte (5 : Int32) [(.int x0), (.int x1), (.int (0 : Int32)), (.int (0 : Int32)), (.int (0 : Int32))] (.int (0 : Int32)) := by
    have q := Arv.set Ar5 q5 S5 N5' H5 G5 (fits_nar_byte _) W5 1 rfl (Nat.le_of_ble_eq_true rfl)
    rw [bx1] at q
    exact q
  have K5 : Keep h0 h5 [] := K4.wr W5 (Or.inr sz_b3)
  have N5 := Fr.snoc X5 N4 g_b3
  obtain ⟨x2, hx2⟩ : ∃ z, z = ((p1 >>> ((16 : Int32) &&& 31)).toInt8.toInt32) := ⟨_, rfl⟩
  have bx2 : x2.toInt8.toInt32 = x2 := by rw [hx2]; exact own_byte _
  obtain ⟨cl6, Ar6, q6, S6, N6', H6, G6⟩ := V5
  have hin28 : ¬ ((2 : Int32) < 0 ∨ cl6.slots.size ≤ ((2 : Int32)).toNatClampNeg) := inb_of S6 ⟨by decide, by decide⟩
  obtain ⟨T6, h6, X6, e6, W6, st6⟩ := stB X5 hx hZ e5 Ar6 (j := (2 : Int32)) hin28 (g := (mkF m 28 #[.val (.int p1), .val (.int p2), .val (.int p3), .val (.int p4), .val (.int p5), .val (.ref b3), .unset, .unset, .unset, .unset, .unset] [(.int x2), (.int (2 : Int32)), (.ref b3)])) rfl rfl (hb hby at_28)
  have V6 : Arv Z h6 b3 k3 .byte (5 : Int32) [(.int x0), (.int x1), (.int x2), (.int (0 : Int32)), (.int (0 : Int32))] (.int (0 : Int32)) := by
    have q := Arv.set Ar6 q6 S6 N6' H6 G6 (fits_nar_byte _) W6 2 rfl (Nat.le_of_ble_eq_true rfl)
    rw [bx2] at q
    exact q
  have K6 : Keep h0 h6 [] := K5.wr W6 (Or.inr sz_b3)
  have N6 := Fr.snoc X6 N5 g_b3
  obtain ⟨x3, hx3⟩ : ∃ z, z = (((p1.toUInt32 >>> ((24 : Int32) &&& 31).toUInt32).toInt32).toInt8.toInt32) := ⟨_, rfl⟩
  have bx3 : x3.toInt8.toInt32 = x3 := by rw [hx3]; exact own_byte _
  obtain ⟨cl7, Ar7, q7, S7, N7', H7, G7⟩ := V6
  have hin37 : ¬ ((3 : Int32) < 0 ∨ cl7.slots.size ≤ ((3 : Int32)).toNatClampNeg) := inb_of S7 ⟨by decide, by decide⟩
  obtain ⟨T7, h7, X7, e7, W7, st7⟩ := stB X6 hx hZ e6 Ar7 (j := (3 : Int32)) hin37 (g := (mkF m 37 #[.val (.int p1), .val (.int p2), .val (.int p3), .val (.int p4), .val (.int p5), .val (.ref b3), .unset, .unset, .unset, .unset, .unset] [(.int x3), (.int (3 : Int32)), (.ref b3)])) rfl rfl (hb hby at_37)
  have V7 : Arv Z h7 b3 k3 .byte (5 : Int32) [(.int x0), (.int x1), (.int x2), (.int x3), (.int (0 : Int32))] (.int (0 : Int32)) := by
    have q := Arv.set Ar7 q7 S7 N7' H7 G7 (fits_nar_byte _) W7 3 rfl (Nat.le_of_ble_eq_true rfl)
    rw [bx3] at q
    exact q
  have K7 : Keep h0 h7 [] := K6.wr W7 (Or.inr sz_b3)
  have N7 := Fr.snoc X7 N6 g_b3
  obtain ⟨x4, hx4⟩ : ∃ z, z = (p2.toInt8.toInt32) := ⟨_, rfl⟩
  have bx4 : x4.toInt8.toInt32 = x4 := by rw [hx4]; exact own_byte _
  obtain ⟨cl8, Ar8, q8, S8, N8', H8, G8⟩ := V7
  have hin43 : ¬ ((4 : Int32) < 0 ∨ cl8.slots.size ≤ ((4 : Int32)).toNatClampNeg) := inb_of S8 ⟨by decide, by decide⟩
  obtain ⟨T8, h8, X8, e8, W8, st8⟩ := stB X7 hx hZ e7 Ar8 (j := (4 : Int32)) hin43 (g := (mkF m 43 #[.val (.int p1), .val (.int p2), .val (.int p3), .val (.int p4), .val (.int p5), .val (.ref b3), .unset, .unset, .unset, .unset, .unset] [(.int x4), (.int (4 : Int32)), (.ref b3)])) rfl rfl (hb hby at_43)
  have V8 : Arv Z h8 b3 k3 .byte (5 : Int32) [(.int x0), (.int x1), (.int x2), (.int x3), (.int x4)] (.int (0 : Int32)) := by
    have q := Arv.set Ar8 q8 S8 N8' H8 G8 (fits_nar_byte _) W8 4 rfl (Nat.le_of_ble_eq_true rfl)
    rw [bx4] at q
    exact q
  have K8 : Keep h0 h8 [] := K7.wr W8 (Or.inr sz_b3)
  have N8 := Fr.snoc X8 N7 g_b3
  obtain ⟨vv, hvv⟩ : ∃ z, z = (p3.toInt8.toInt32) := ⟨_, rfl⟩
  obtain ⟨f, hf, ef⟩ := own_six p4
  obtain ⟨t, ht, et⟩ := own_six p5
  obtain ⟨xs, hxs⟩ : ∃ z : List Int32, z = [x0, x1, x2, x3, x4] := ⟨_, rfl⟩
  have V9 : Arv Z h8 b3 k3 .byte (5 : Int32) (xs.map Value.int) (.int (0 : Int32)) := by rw [hxs]; exact V8
  have ZH : n0 ≤ h8.size := Nat.le_trans Z0 K8.1
  obtain ⟨_, _, ⟨T20, L20, k20, n20⟩, -, X20, ⟨Lc20, hQ20, l20, y20, z20⟩, st20⟩ := Jvm.LawKit.callS X8 hx (y := (⟨"reelfield/record/Bytes", "indexOf", "([BBII)I"⟩ : MethodName)) hown (mvT hZ (hw _ (List.mem_of_getElem? (i := 2) rfl))) (mvT hZ (hw _ (List.mem_of_getElem? (i := 3) rfl))) (mvT hZ (hw _ (List.mem_of_getElem? (i := 4) rfl))) (mvT hZ (hw _ (List.mem_of_getElem? (i := 5) rfl))) (by decide) (backOf (W := 0) (rm1 l Z a0 hw [] b3 vv f t xs k3 h8 n0 ZH hf ht V9) hZ (hw _ (List.mem_of_getElem? (i := 5) rfl)) (hw _ (List.mem_of_getElem? (i := 4) rfl)) (by decide) (by decide)) (g := (mkF m 75 #[.val (.int p1), .val (.int p2), .val (.int p3), .val (.int p4), .val (.int p5), .val (.ref b3), .val (.int vv), .val (.int (Int32.ofNat f)), .val (.int (Int32.ofNat t)), .unset, .unset] [(.int (Int32.ofNat t)), (.int (Int32.ofNat f)), (.int vv), (.ref b3)])) rfl (by rw [hml]; rfl) (argsL := [(.ref b3), (.int vv), (.int (Int32.ofNat f)), (.int (Int32.ofNat t))]) (rest := []) (lenOf pd_0_0 rfl) rfl (by show 2 * 0 + _ ≤ _; exact Nat.le_of_eq rfl) (hb hby at_75) (fun _ _ => ⟨rfl, e8, (by decide : 1 + 0 ≤ _), (by decide : 5 + 0 ≤ _)⟩)
  dsimp only [Pt.U, Pt.locs, Pt.cells, Pt.slots] at X20 l20 y20 z20 st20 hQ20
  subst l20 y20 z20
  obtain ⟨rfl, N20q, q20⟩ := hQ20
  have N20 := Fr.app N8 N20q
  obtain ⟨cl, Ar, qq1, SS, qq3, HH, GG⟩ := V9
  have SS : cl.slots.size = 5 := SS
  have hin_0 : ¬ ((0 : Int32) < 0 ∨ cl.slots.size ≤ ((0 : Int32)).toNatClampNeg) := by rw [SS]; decide
  have hat_0 : cl.slots[((0 : Int32)).toNatClampNeg]? = some (.int (xs.getD 0 0)) := by have q := HH 0 (by rw [SS]; decide); rw [own_vals] at q; exact q
  obtain ⟨u0, hu0⟩ : ∃ z, z = own_F2 (0 : Int32) vv (Int32.ofNat f) (Int32.ofNat t) (xs.getD 0 0) := ⟨_, rfl⟩
  have z0 : u0 = 0 ↔ ¬ (f ≤ 0 ∧ 0 < t ∧ xs.getD 0 0 = vv) := by rw [hu0]; exact own_hit (i := 0) (by decide) hf ht _ _
  have hin_1 : ¬ ((1 : Int32) < 0 ∨ cl.slots.size ≤ ((1 : Int32)).toNatClampNeg) := by rw [SS]; decide
  have hat_1 : cl.slots[((1 : Int32)).toNatClampNeg]? = some (.int (xs.getD 1 0)) := by have q := HH 1 (by rw [SS]; decide); rw [own_vals] at q; exact q
  obtain ⟨u1, hu1⟩ : ∃ z, z = own_F2 (1 : Int32) vv (Int32.ofNat f) (Int32.ofNat t) (xs.getD 1 0) := ⟨_, rfl⟩
  have z1 : u1 = 0 ↔ ¬ (f ≤ 1 ∧ 1 < t ∧ xs.getD 1 0 = vv) := by rw [hu1]; exact own_hit (i := 1) (by decide) hf ht _ _
  have hin_2 : ¬ ((2 : Int32) < 0 ∨ cl.slots.size ≤ ((2 : Int32)).toNatClampNeg) := by rw [SS]; decide
  have hat_2 : cl.slots[((2 : Int32)).toNatClampNeg]? = some (.int (xs.getD 2 0)) := by have q := HH 2 (by rw [SS]; decide); rw [own_vals] at q; exact q
  obtain ⟨u2, hu2⟩ : ∃ z, z = own_F2 (2 : Int32) vv (Int32.ofNat f) (Int32.ofNat t) (xs.getD 2 0) := ⟨_, rfl⟩
  have z2 : u2 = 0 ↔ ¬ (f ≤ 2 ∧ 2 < t ∧ xs.getD 2 0 = vv) := by rw [hu2]; exact own_hit (i := 2) (by decide) hf ht _ _
  have hin_3 : ¬ ((3 : Int32) < 0 ∨ cl.slots.size ≤ ((3 : Int32)).toNatClampNeg) := by rw [SS]; decide
  have hat_3 : cl.slots[((3 : Int32)).toNatClampNeg]? = some (.int (xs.getD 3 0)) := by have q := HH 3 (by rw [SS]; decide); rw [own_vals] at q; exact q
  obtain ⟨u3, hu3⟩ : ∃ z, z = own_F2 (3 : Int32) vv (Int32.ofNat f) (Int32.ofNat t) (xs.getD 3 0) := ⟨_, rfl⟩
  have z3 : u3 = 0 ↔ ¬ (f ≤ 3 ∧ 3 < t ∧ xs.getD 3 0 = vv) := by rw [hu3]; exact own_hit (i := 3) (by decide) hf ht _ _
  have hin_4 : ¬ ((4 : Int32) < 0 ∨ cl.slots.size ≤ ((4 : Int32)).toNatClampNeg) := by rw [SS]; decide
  have hat_4 : cl.slots[((4 : Int32)).toNatClampNeg]? = some (.int (xs.getD 4 0)) := by have q := HH 4 (by rw [SS]; decide); rw [own_vals] at q; exact q
  obtain ⟨u4, hu4⟩ : ∃ z, z = own_F2 (4 : Int32) vv (Int32.ofNat f) (Int32.ofNat t) (xs.getD 4 0) := ⟨_, rfl⟩
  have z4 : u4 = 0 ↔ ¬ (f ≤ 4 ∧ 4 < t ∧ xs.getD 4 0 = vv) := by rw [hu4]; exact own_hit (i := 4) (by decide) hf ht _ _
  obtain ⟨_, _, ⟨T30, L30, k30, n30⟩, -, X30, ⟨Lc30, hQ30, l30, y30, z30⟩, st30⟩ := Jvm.LawKit.callS X20 hx (y := (⟨"reelfield/record/BytesIndexOfPinLaw", "hit", "([BIBII)Z"⟩ : MethodName)) hown (mvT hZ (hw _ (List.mem_of_getElem? (i := 6) rfl))) (mvT hZ (hw _ (List.mem_of_getElem? (i := 7) rfl))) (mvT hZ (hw _ (List.mem_of_getElem? (i := 8) rfl))) (mvT hZ (hw _ (List.mem_of_getElem? (i := 9) rfl))) (by decide) (backOf (W := 0) (rm2 l Z a0 hw [] b3 (0 : Int32) vv (Int32.ofNat f) (Int32.ofNat t) (xs.getD 0 0) cl h8 n0 ZH Ar hin_0 hat_0) hZ (hw _ (List.mem_of_getElem? (i := 9) rfl)) (hw _ (List.mem_of_getElem? (i := 8) rfl)) (by decide) (by decide)) (g := (mkF m 89 #[.val (.int p1), .val (.int p2), .val (.int p3), .val (.int p4), .val (.int p5), .val (.ref b3), .val (.int vv), .val (.int (Int32.ofNat f)), .val (.int (Int32.ofNat t)), .val (.int (own_idx xs vv (t - f) f)), .unset] [(.int (Int32.ofNat t)), (.int (Int32.ofNat f)), (.int vv), (.int (0 : Int32)), (.ref b3)])) rfl (by rw [hml]; rfl) (argsL := [(.ref b3), (.int (0 : Int32)), (.int vv), (.int (Int32.ofNat f)), (.int (Int32.ofNat t))]) (rest := []) (lenOf pd_0_1 rfl) rfl (by show 2 * 0 + _ ≤ _; exact Nat.le_of_eq rfl) (hb hby at_89) (fun _ _ => ⟨rfl, q20, (by decide : 1 + 0 ≤ _), (by decide : 5 + 0 ≤ _)⟩)
  dsimp only [Pt.U, Pt.locs, Pt.cells, Pt.slots] at X30 l30 y30 z30 st30 hQ30
  subst l30 y30 z30
  obtain ⟨rfl, N30q, q30⟩ := hQ30
  have N30 := Fr.app N20 N30q
  rw [← hu0] at st30
  by_cases c0 : u0 = (0 : Int32)
  · obtain ⟨_, _, ⟨T31, L31, k31, n31⟩, -, X31, ⟨Lc31, hQ31, l31, y31, z31⟩, st31⟩ := Jvm.LawKit.callS X30 hx (y := (⟨"reelfield/record/BytesIndexOfPinLaw", "hit", "([BIBII)Z"⟩ : MethodName)) hown (mvT hZ (hw _ (List.mem_of_getElem? (i := 6) rfl))) (mvT hZ (hw _ (List.mem_of_getElem? (i := 7) rfl))) (mvT hZ (hw _ (List.mem_of_getElem? (i := 8) rfl))) (mvT hZ (hw _ (List.mem_of_getElem? (i := 9) rfl))) (by decide) (backOf (W := 0) (rm2 l Z a0 hw [] b3 (1 : Int32) vv (Int32.ofNat f) (Int32.ofNat t) (xs.getD 1 0) cl h8 n0 ZH Ar hin_1 hat_1) hZ (hw _ (List.mem_of_getElem? (i := 9) rfl)) (hw _ (List.mem_of_getElem? (i := 8) rfl)) (by decide) (by decide)) (g := (mkF m 110 #[.val (.int p1), .val (.int p2), .val (.int p3), .val (.int p4), .val (.int p5), .val (.ref b3), .val (.int vv), .val (.int (Int32.ofNat f)), .val (.int (Int32.ofNat t)), .val (.int (own_idx xs vv (t - f) f)), .unset] [(.int (Int32.ofNat t)), (.int (Int32.ofNat f)), (.int vv), (.int (1 : Int32)), (.ref b3)])) rfl (by rw [hml]; rfl) (argsL := [(.ref b3), (.int (1 : Int32)), (.int vv), (.int (Int32.ofNat f)), (.int (Int32.ofNat t))]) (rest := []) (lenOf pd_0_1 rfl) rfl (by show 2 * 0 + _ ≤ _; exact Nat.le_of_eq rfl) (hb hby at_110) (fun _ _ => ⟨rfl, q30, (by decide : 1 + 0 ≤ _), (by decide : 5 + 0 ≤ _)⟩)
    dsimp only [Pt.U, Pt.locs, Pt.cells, Pt.slots] at X31 l31 y31 z31 st31 hQ31
    subst l31 y31 z31
    obtain ⟨rfl, N31q, q31⟩ := hQ31
    have N31 := Fr.app N30 N31q
    rw [← hu1] at st31
    by_cases c1 : u1 = (0 : Int32)
    · obtain ⟨_, _, ⟨T32, L32, k32, n32⟩, -, X32, ⟨Lc32, hQ32, l32, y32, z32⟩, st32⟩ := Jvm.LawKit.callS X31 hx (y := (⟨"reelfield/record/BytesIndexOfPinLaw", "hit", "([BIBII)Z"⟩ : MethodName)) hown (mvT hZ (hw _ (List.mem_of_getElem? (i := 6) rfl))) (mvT hZ (hw _ (List.mem_of_getElem? (i := 7) rfl))) (mvT hZ (hw _ (List.mem_of_getElem? (i := 8) rfl))) (mvT hZ (hw _ (List.mem_of_getElem? (i := 9) rfl))) (by decide) (backOf (W := 0) (rm2 l Z a0 hw [] b3 (2 : Int32) vv (Int32.ofNat f) (Int32.ofNat t) (xs.getD 2 0) cl h8 n0 ZH Ar hin_2 hat_2) hZ (hw _ (List.mem_of_getElem? (i := 9) rfl)) (hw _ (List.mem_of_getElem? (i := 8) rfl)) (by decide) (by decide)) (g := (mkF m 131 #[.val (.int p1), .val (.int p2), .val (.int p3), .val (.int p4), .val (.int p5), .val (.ref b3), .val (.int vv), .val (.int (Int32.ofNat f)), .val (.int (Int32.ofNat t)), .val (.int (own_idx xs vv (t - f) f)), .unset] [(.int (Int32.ofNat t)), (.int (Int32.ofNat f)), (.int vv), (.int (2 : Int32)), (.ref b3)])) rfl (by rw [hml]; rfl) (argsL := [(.ref b3), (.int (2 : Int32)), (.int vv), (.int (Int32.ofNat f)), (.int (Int32.ofNat t))]) (rest := []) (lenOf pd_0_1 rfl) rfl (by show 2 * 0 + _ ≤ _; exact Nat.le_of_eq rfl) (hb hby at_131) (fun _ _ => ⟨rfl, q31, (by decide : 1 + 0 ≤ _), (by decide : 5 + 0 ≤ _)⟩)
      dsimp only [Pt.U, Pt.locs, Pt.cells, Pt.slots] at X32 l32 y32 z32 st32 hQ32
      subst l32 y32 z32
      obtain ⟨rfl, N32q, q32⟩ := hQ32
      have N32 := Fr.app N31 N32q
      rw [← hu2] at st32
      by_cases c2 : u2 = (0 : Int32)
      · obtain ⟨_, _, ⟨T33, L33, k33, n33⟩, -, X33, ⟨Lc33, hQ33, l33, y33, z33⟩, st33⟩ := Jvm.LawKit.callS X32 hx (y := (⟨"reelfield/record/BytesIndexOfPinLaw", "hit", "([BIBII)Z"⟩ : MethodName)) hown (mvT hZ (hw _ (List.mem_of_getElem? (i := 6) rfl))) (mvT hZ (hw _ (List.mem_of_getElem? (i := 7) rfl))) (mvT hZ (hw _ (List.mem_of_getElem? (i := 8) rfl))) (mvT hZ (hw _ (List.mem_of_getElem? (i := 9) rfl))) (by decide) (backOf (W := 0) (rm2 l Z a0 hw [] b3 (3 : Int32) vv (Int32.ofNat f) (Int32.ofNat t) (xs.getD 3 0) cl h8 n0 ZH Ar hin_3 hat_3) hZ (hw _ (List.mem_of_getElem? (i := 9) rfl)) (hw _ (List.mem_of_getElem? (i := 8) rfl)) (by decide) (by decide)) (g := (mkF m 152 #[.val (.int p1), .val (.int p2), .val (.int p3), .val (.int p4), .val (.int p5), .val (.ref b3), .val (.int vv), .val (.int (Int32.ofNat f)), .val (.int (Int32.ofNat t)), .val (.int (own_idx xs vv (t - f) f)), .unset] [(.int (Int32.ofNat t)), (.int (Int32.ofNat f)), (.int vv), (.int (3 : Int32)), (.ref b3)])) rfl (by rw [hml]; rfl) (argsL := [(.ref b3), (.int (3 : Int32)), (.int vv), (.int (Int32.ofNat f)), (.int (Int32.ofNat t))]) (rest := []) (lenOf pd_0_1 rfl) rfl (by show 2 * 0 + _ ≤ _; exact Nat.le_of_eq rfl) (hb hby at_152) (fun _ _ => ⟨rfl, q32, (by decide : 1 + 0 ≤ _), (by decide : 5 + 0 ≤ _)⟩)
        dsimp only [Pt.U, Pt.locs, Pt.cells, Pt.slots] at X33 l33 y33 z33 st33 hQ33
        subst l33 y33 z33
        obtain ⟨rfl, N33q, q33⟩ := hQ33
        have N33 := Fr.app N32 N33q
        rw [← hu3] at st33
        by_cases c3 : u3 = (0 : Int32)
        · obtain ⟨_, _, ⟨T34, L34, k34, n34⟩, -, X34, ⟨Lc34, hQ34, l34, y34, z34⟩, st34⟩ := Jvm.LawKit.callS X33 hx (y := (⟨"reelfield/record/BytesIndexOfPinLaw", "hit", "([BIBII)Z"⟩ : MethodName)) hown (mvT hZ (hw _ (List.mem_of_getElem? (i := 6) rfl))) (mvT hZ (hw _ (List.mem_of_getElem? (i := 7) rfl))) (mvT hZ (hw _ (List.mem_of_getElem? (i := 8) rfl))) (mvT hZ (hw _ (List.mem_of_getElem? (i := 9) rfl))) (by decide) (backOf (W := 0) (rm2 l Z a0 hw [] b3 (4 : Int32) vv (Int32.ofNat f) (Int32.ofNat t) (xs.getD 4 0) cl h8 n0 ZH Ar hin_4 hat_4) hZ (hw _ (List.mem_of_getElem? (i := 9) rfl)) (hw _ (List.mem_of_getElem? (i := 8) rfl)) (by decide) (by decide)) (g := (mkF m 173 #[.val (.int p1), .val (.int p2), .val (.int p3), .val (.int p4), .val (.int p5), .val (.ref b3), .val (.int vv), .val (.int (Int32.ofNat f)), .val (.int (Int32.ofNat t)), .val (.int (own_idx xs vv (t - f) f)), .unset] [(.int (Int32.ofNat t)), (.int (Int32.ofNat f)), (.int vv), (.int (4 : Int32)), (.ref b3)])) rfl (by rw [hml]; rfl) (argsL := [(.ref b3), (.int (4 : Int32)), (.int vv), (.int (Int32.ofNat f)), (.int (Int32.ofNat t))]) (rest := []) (lenOf pd_0_1 rfl) rfl (by show 2 * 0 + _ ≤ _; exact Nat.le_of_eq rfl) (hb hby at_173) (fun _ _ => ⟨rfl, q33, (by decide : 1 + 0 ≤ _), (by decide : 5 + 0 ≤ _)⟩)
          dsimp only [Pt.U, Pt.locs, Pt.cells, Pt.slots] at X34 l34 y34 z34 st34 hQ34
          subst l34 y34 z34
          obtain ⟨rfl, N34q, q34⟩ := hQ34
          have N34 := Fr.app N33 N34q
          rw [← hu4] at st34
          by_cases c4 : u4 = (0 : Int32)
          · have k1 : (own_idx xs vv (t - f) f) = (-1 : Int32) := own_no ht (fun q hq => by
              have e : q = 0 ∨ q = 1 ∨ q = 2 ∨ q = 3 ∨ q = 4 := by omega
              rcases e with rfl | rfl | rfl | rfl | rfl
              · exact z0.mp c0
              · exact z1.mp c1
              · exact z2.mp c2
              · exact z3.mp c3
              · exact z4.mp c4)
            obtain ⟨fs, hr, hrun, hended, hW, hsame⟩ := X34.leave (v := some (.int (1 : Int32))) (fun h => by rw [Bd.returns] at h; cases h)
            refine ⟨_, _, pre0 _ ?_, hrun, hended, _, _, rfl, ?_, ⟨_, rfl⟩, hW, hsame.mono (by decide) (by decide)⟩
            · show Steps p.tables e below (s₁.setTop (mkF m 0 #[.val (.int p1), .val (.int p2), .val (.int p3), .val (.int p4), .val (.int p5), .unset, .unset, .unset, .unset, .unset, .unset] [])) _
              refine XS.iconst X0.here hx rfl (hb hby at_0) ?_
              show Steps p.tables e below (s₁.setTop (mkF m 1 #[.val (.int p1), .val (.int p2), .val (.int p3), .val (.int p4), .val (.int p5), .unset, .unset, .unset, .unset, .unset, .unset] [(.int (5 : Int32))])) _
              refine st3 _ ?_
              show Steps p.tables e below (T3.setTop (mkF m 3 #[.val (.int p1), .val (.int p2), .val (.int p3), .val (.int p4), .val (.int p5), .unset, .unset, .unset, .unset, .unset, .unset] [(.ref b3)])) _
              refine XS.astore X3.here hx rfl (hb hby at_3) rfl rfl (l' := #[.val (.int p1), .val (.int p2), .val (.int p3), .val (.int p4), .val (.int p5), .val (.ref b3), .unset, .unset, .unset, .unset, .unset]) rfl ?_
              show Steps p.tables e below (T3.setTop (mkF m 5 #[.val (.int p1), .val (.int p2), .val (.int p3), .val (.int p4), .val (.int p5), .val (.ref b3), .unset, .unset, .unset, .unset, .unset] [])) _
              refine XS.aload X3.here hx rfl (hb hby at_5) rfl rfl ?_
              show Steps p.tables e below (T3.setTop (mkF m 7 #[.val (.int p1), .val (.int p2), .val (.int p3), .val (.int p4), .val (.int p5), .val (.ref b3), .unset, .unset, .unset, .unset, .unset] [(.ref b3)])) _
              refine XS.iconst X3.here hx rfl (hb hby at_7) ?_
              show Steps p.tables e below (T3.setTop (mkF m 8 #[.val (.int p1), .val (.int p2), .val (.int p3), .val (.int p4), .val (.int p5), .val (.ref b3), .unset, .unset, .unset, .unset, .unset] [(.int (0 : Int32)), (.ref b3)])) _
              refine XS.iloadN X3.here hx rfl (hb hby at_8) rfl ?_
              show Steps p.tables e below (T3.setTop (mkF m 9 #[.val (.int p1), .val (.int p2), .val (.int p3), .val (.int p4), .val (.int p5), .val (.ref b3), .unset, .unset, .unset, .unset, .unset] [(.int p1), (.int (0 : Int32)), (.ref b3)])) _
              refine XS.i2b X3.here hx rfl (hb hby at_9) rfl ?_
              show Steps p.tables e below (T3.setTop (mkF m 10 #[.val (.int p1), .val (.int p2), .val (.int p3), .val (.int p4), .val (.int p5), .val (.ref b3), .unset, .unset, .unset, .unset, .unset] [(.int (p1.toInt8.toInt32)), (.int (0 : Int32)), (.ref b3)])) _
              rw [← hx0]
              show Steps p.tables e below (T3.setTop (mkF m 10 #[.val (.int p1), .val (.int p2), .val (.int p3), .val (.int p4), .val (.int p5), .val (.ref b3), .unset, .unset, .unset, .unset, .unset] [(.int x0), (.int (0 : Int32)), (.ref b3)])) _
              refine st4 _ ?_
              show Steps p.tables e below (T4.setTop (mkF m 11 #[.val (.int p1), .val (.int p2), .val (.int p3), .val (.int p4), .val (.int p5), .val (.ref b3), .unset, .unset, .unset, .unset, .unset] [])) _
              refine XS.aload X4.here hx rfl (hb hby at_11) rfl rfl ?_
              show Steps p.tables e below (T4.setTop (mkF m 13 #[.val (.int p1), .val (.int p2), .val (.int p3), .val (.int p4), .val (.int p5), .val (.ref b3), .unset, .unset, .unset, .unset, .unset] [(.ref b3)])) _
              refine XS.iconst X4.here hx rfl (hb hby at_13) ?_
              show Steps p.tables e below (T4.setTop (mkF m 14 #[.val (.int p1), .val (.int p2), .val (.int p3), .val (.int p4), .val (.int p5), .val (.ref b3), .unset, .unset, .unset, .unset, .unset] [(.int (1 : Int32)), (.ref b3)])) _
              refine XS.iloadN X4.here hx rfl (hb hby at_14) rfl ?_
              show Steps p.tables e below (T4.setTop (mkF m 15 #[.val (.int p1), .val (.int p2), .val (.int p3), .val (.int p4), .val (.int p5), .val (.ref b3), .unset, .unset, .unset, .unset, .unset] [(.int p1), (.int (1 : Int32)), (.ref b3)])) _
              refine XS.bipush X4.here hx rfl (hb hby at_15) ?_
              show Steps p.tables e below (T4.setTop (mkF m 17 #[.val (.int p1), .val (.int p2), .val (.int p3), .val (.int p4), .val (.int p5), .val (.ref b3), .unset, .unset, .unset, .unset, .unset] [(.int (8 : Int32)), (.int p1), (.int (1 : Int32)), (.ref b3)])) _
              refine XS.ishr X4.here hx rfl (hb hby at_17) rfl ?_
              show Steps p.tables e below (T4.setTop (mkF m 18 #[.val (.int p1), .val (.int p2), .val (.int p3), .val (.int p4), .val (.int p5), .val (.ref b3), .unset, .unset, .unset, .unset, .unset] [(.int (p1 >>> ((8 : Int32) &&& 31))), (.int (1 : Int32)), (.ref b3)])) _
              refine XS.i2b X4.here hx rfl (hb hby at_18) rfl ?_
              show Steps p.tables e below (T4.setTop (mkF m 19 #[.val (.int p1), .val (.int p2), .val (.int p3), .val (.int p4), .val (.int p5), .val (.ref b3), .unset, .unset, .unset, .unset, .unset] [(.int ((p1 >>> ((8 : Int32) &&& 31)).toInt8.toInt32)), (.int (1 : Int32)), (.ref b3)])) _
              rw [← hx1]
              show Steps p.tables e below (T4.setTop (mkF m 19 #[.val (.int p1), .val (.int p2), .val (.int p3), .val (.int p4), .val (.int p5), .val (.ref b3), .unset, .unset, .unset, .unset, .unset] [(.int x1), (.int (1 : Int32)), (.ref b3)])) _
              refine st5 _ ?_
              show Steps p.tables e below (T5.setTop (mkF m 20 #[.val (.int p1), .val (.int p2), .val (.int p3), .val (.int p4), .val (.int p5), .val (.ref b3), .unset, .unset, .unset, .unset, .unset] [])) _
              refine XS.aload X5.here hx rfl (hb hby at_20) rfl rfl ?_
              show Steps p.tables e below (T5.setTop (mkF m 22 #[.val (.int p1), .val (.int p2), .val (.int p3), .val (.int p4), .val (.int p5), .val (.ref b3), .unset, .unset, .unset, .unset, .unset] [(.ref b3)])) _
              refine XS.iconst X5.here hx rfl (hb hby at_22) ?_
              show Steps p.tables e below (T5.setTop (mkF m 23 #[.val (.int p1), .val (.int p2), .val (.int p3), .val (.int p4), .val (.int p5), .val (.ref b3), .unset, .unset, .unset, .unset, .unset] [(.int (2 : Int32)), (.ref b3)])) _
              refine XS.iloadN X5.here hx rfl (hb hby at_23) rfl ?_
              show Steps p.tables e below (T5.setTop (mkF m 24 #[.val (.int p1), .val (.int p2), .val (.int p3), .val (.int p4), .val (.int p5), .val (.ref b3), .unset, .unset, .unset, .unset, .unset] [(.int p1), (.int (2 : Int32)), (.ref b3)])) _
              refine XS.bipush X5.here hx rfl (hb hby at_24) ?_
              show Steps p.tables e below (T5.setTop (mkF m 26 #[.val (.int p1), .val (.int p2), .val (.int p3), .val (.int p4), .val (.int p5), .val (.ref b3), .unset, .unset, .unset, .unset, .unset] [(.int (16 : Int32)), (.int p1), (.int (2 : Int32)), (.ref b3)])) _
              refine XS.ishr X5.here hx rfl (hb hby at_26) rfl ?_
              show Steps p.tables e below (T5.setTop (mkF m 27 #[.val (.int p1), .val (.int p2), .val (.int p3), .val (.int p4), .val (.int p5), .val (.ref b3), .unset, .unset, .unset, .unset, .unset] [(.int (p1 >>> ((16 : Int32) &&& 31))), (.int (2 : Int32)), (.ref b3)])) _
              refine XS.i2b X5.here hx rfl (hb hby at_27) rfl ?_
              show Steps p.tables e below (T5.setTop (mkF m 28 #[.val (.int p1), .val (.int p2), .val (.int p3), .val (.int p4), .val (.int p5), .val (.ref b3), .unset, .unset, .unset, .unset, .unset] [(.int ((p1 >>> ((16 : Int32) &&& 31)).toInt8.toInt32)), (.int (2 : Int32)), (.ref b3)])) _
              rw [← hx2]
              show Steps p.tables e below (T5.setTop (mkF m 28 #[.val (.int p1), .val (.int p2), .val (.int p3), .val (.int p4), .val (.int p5), .val (.ref b3), .unset, .unset, .unset, .unset, .unset] [(.int x2), (.int (2 : Int32)), (.ref b3)])) _
              refine st6 _ ?_
              show Steps p.tables e below (T6.setTop (mkF m 29 #[.val (.int p1), .val (.int p2), .val (.int p3), .val (.int p4), .val (.int p5), .val (.ref b3), .unset, .unset, .unset, .unset, .unset] [])) _
              refine XS.aload X6.here hx rfl (hb hby at_29) rfl rfl ?_
              show Steps p.tables e below (T6.setTop (mkF m 31 #[.val (.int p1), .val (.int p2), .val (.int p3), .val (.int p4), .val (.int p5), .val (.ref b3), .unset, .unset, .unset, .unset, .unset] [(.ref b3)])) _
              refine XS.iconst X6.here hx rfl (hb hby at_31) ?_
              show Steps p.tables e below (T6.setTop (mkF m 32 #[.val (.int p1), .val (.int p2), .val (.int p3), .val (.int p4), .val (.int p5), .val (.ref b3), .unset, .unset, .unset, .unset, .unset] [(.int (3 : Int32)), (.ref b3)])) _
              refine XS.iloadN X6.here hx rfl (hb hby at_32) rfl ?_
              show Steps p.tables e below (T6.setTop (mkF m 33 #[.val (.int p1), .val (.int p2), .val (.int p3), .val (.int p4), .val (.int p5), .val (.ref b3), .unset, .unset, .unset, .unset, .unset] [(.int p1), (.int (3 : Int32)), (.ref b3)])) _
              refine XS.bipush X6.here hx rfl (hb hby at_33) ?_
              show Steps p.tables e below (T6.setTop (mkF m 35 #[.val (.int p1), .val (.int p2), .val (.int p3), .val (.int p4), .val (.int p5), .val (.ref b3), .unset, .unset, .unset, .unset, .unset] [(.int (24 : Int32)), (.int p1), (.int (3 : Int32)), (.ref b3)])) _
              refine XS.iushr X6.here hx rfl (hb hby at_35) rfl ?_
              show Steps p.tables e below (T6.setTop (mkF m 36 #[.val (.int p1), .val (.int p2), .val (.int p3), .val (.int p4), .val (.int p5), .val (.ref b3), .unset, .unset, .unset, .unset, .unset] [(.int ((p1.toUInt32 >>> ((24 : Int32) &&& 31).toUInt32).toInt32)), (.int (3 : Int32)), (.ref b3)])) _
              refine XS.i2b X6.here hx rfl (hb hby at_36) rfl ?_
              show Steps p.tables e below (T6.setTop (mkF m 37 #[.val (.int p1), .val (.int p2), .val (.int p3), .val (.int p4), .val (.int p5), .val (.ref b3), .unset, .unset, .unset, .unset, .unset] [(.int (((p1.toUInt32 >>> ((24 : Int32) &&& 31).toUInt32).toInt32).toInt8.toInt32)), (.int (3 : Int32)), (.ref b3)])) _
              rw [← hx3]
              show Steps p.tables e below (T6.setTop (mkF m 37 #[.val (.int p1), .val (.int p2), .val (.int p3), .val (.int p4), .val (.int p5), .val (.ref b3), .unset, .unset, .unset, .unset, .unset] [(.int x3), (.int (3 : Int32)), (.ref b3)])) _
              refine st7 _ ?_
              show Steps p.tables e below (T7.setTop (mkF m 38 #[.val (.int p1), .val (.int p2), .val (.int p3), .val (.int p4), .val (.int p5), .val (.ref b3), .unset, .unset, .unset, .unset, .unset] [])) _
              refine XS.aload X7.here hx rfl (hb hby at_38) rfl rfl ?_
              show Steps p.tables e below (T7.setTop (mkF m 40 #[.val (.int p1), .val (.int p2), .val (.int p3), .val (.int p4), .val (.int p5), .val (.ref b3), .unset, .unset, .unset, .unset, .unset] [(.ref b3)])) _
              refine XS.iconst X7.here hx rfl (hb hby at_40) ?_
              show Steps p.tables e below (T7.setTop (mkF m 41 #[.val (.int p1), .val (.int p2), .val (.int p3), .val (.int p4), .val (.int p5), .val (.ref b3), .unset, .unset, .unset, .unset, .unset] [(.int (4 : Int32)), (.ref b3)])) _
              refine XS.iloadN X7.here hx rfl (hb hby at_41) rfl ?_
              show Steps p.tables e below (T7.setTop (mkF m 42 #[.val (.int p1), .val (.int p2), .val (.int p3), .val (.int p4), .val (.int p5), .val (.ref b3), .unset, .unset, .unset, .unset, .unset] [(.int p2), (.int (4 : Int32)), (.ref b3)])) _
              refine XS.i2b X7.here hx rfl (hb hby at_42) rfl ?_
              show Steps p.tables e below (T7.setTop (mkF m 43 #[.val (.int p1), .val (.int p2), .val (.int p3), .val (.int p4), .val (.int p5), .val (.ref b3), .unset, .unset, .unset, .unset, .unset] [(.int (p2.toInt8.toInt32)), (.int (4 : Int32)), (.ref b3)])) _
              rw [← hx4]
              show Steps p.tables e below (T7.setTop (mkF m 43 #[.val (.int p1), .val (.int p2), .val (.int p3), .val (.int p4), .val (.int p5), .val (.ref b3), .unset, .unset, .unset, .unset, .unset] [(.int x4), (.int (4 : Int32)), (.ref b3)])) _
              refine st8 _ ?_
              show Steps p.tables e below (T8.setTop (mkF m 44 #[.val (.int p1), .val (.int p2), .val (.int p3), .val (.int p4), .val (.int p5), .val (.ref b3), .unset, .unset, .unset, .unset, .unset] [])) _
              refine XS.iloadN X8.here hx rfl (hb hby at_44) rfl ?_
              show Steps p.tables e below (T8.setTop (mkF m 45 #[.val (.int p1), .val (.int p2), .val (.int p3), .val (.int p4), .val (.int p5), .val (.ref b3), .unset, .unset, .unset, .unset, .unset] [(.int p3)])) _
              refine XS.i2b X8.here hx rfl (hb hby at_45) rfl ?_
              show Steps p.tables e below (T8.setTop (mkF m 46 #[.val (.int p1), .val (.int p2), .val (.int p3), .val (.int p4), .val (.int p5), .val (.ref b3), .unset, .unset, .unset, .unset, .unset] [(.int (p3.toInt8.toInt32))])) _
              refine XS.istore X8.here hx rfl (hb hby at_46) rfl (l' := #[.val (.int p1), .val (.int p2), .val (.int p3), .val (.int p4), .val (.int p5), .val (.ref b3), .val (.int (p3.toInt8.toInt32)), .unset, .unset, .unset, .unset]) rfl ?_
              show Steps p.tables e below (T8.setTop (mkF m 48 #[.val (.int p1), .val (.int p2), .val (.int p3), .val (.int p4), .val (.int p5), .val (.ref b3), .val (.int (p3.toInt8.toInt32)), .unset, .unset, .unset, .unset] [])) _
              rw [← hvv]
              show Steps p.tables e below (T8.setTop (mkF m 48 #[.val (.int p1), .val (.int p2), .val (.int p3), .val (.int p4), .val (.int p5), .val (.ref b3), .val (.int vv), .unset, .unset, .unset, .unset] [])) _
              refine XS.iloadN X8.here hx rfl (hb hby at_48) rfl ?_
              show Steps p.tables e below (T8.setTop (mkF m 49 #[.val (.int p1), .val (.int p2), .val (.int p3), .val (.int p4), .val (.int p5), .val (.ref b3), .val (.int vv), .unset, .unset, .unset, .unset] [(.int p4)])) _
              refine X8.ldcInt hx hown (mvT hZ (hw _ (List.mem_of_getElem? (i := 1) rfl))) (g := (mkF m 49 #[.val (.int p1), .val (.int p2), .val (.int p3), .val (.int p4), .val (.int p5), .val (.ref b3), .val (.int vv), .unset, .unset, .unset, .unset] [(.int p4)])) rfl (hb hby at_49) _ ?_
              show Steps p.tables e below (T8.setTop (mkF m 51 #[.val (.int p1), .val (.int p2), .val (.int p3), .val (.int p4), .val (.int p5), .val (.ref b3), .val (.int vv), .unset, .unset, .unset, .unset] [(.int (2147483647 : Int32)), (.int p4)])) _
              refine XS.iand X8.here hx rfl (hb hby at_51) rfl ?_
              show Steps p.tables e below (T8.setTop (mkF m 52 #[.val (.int p1), .val (.int p2), .val (.int p3), .val (.int p4), .val (.int p5), .val (.ref b3), .val (.int vv), .unset, .unset, .unset, .unset] [(.int (p4 &&& (2147483647 : Int32)))])) _
              refine XS.bipush X8.here hx rfl (hb hby at_52) ?_
              show Steps p.tables e below (T8.setTop (mkF m 54 #[.val (.int p1), .val (.int p2), .val (.int p3), .val (.int p4), .val (.int p5), .val (.ref b3), .val (.int vv), .unset, .unset, .unset, .unset] [(.int (6 : Int32)), (.int (p4 &&& (2147483647 : Int32)))])) _
              refine XS.irem X8.here hx rfl (hb hby at_54) rfl (by decide) ?_
              show Steps p.tables e below (T8.setTop (mkF m 55 #[.val (.int p1), .val (.int p2), .val (.int p3), .val (.int p4), .val (.int p5), .val (.ref b3), .val (.int vv), .unset, .unset, .unset, .unset] [(.int ((p4 &&& (2147483647 : Int32)) - ((p4 &&& (2147483647 : Int32)) / (6 : Int32)) * (6 : Int32)))])) _
              refine XS.istore X8.here hx rfl (hb hby at_55) rfl (l' := #[.val (.int p1), .val (.int p2), .val (.int p3), .val (.int p4), .val (.int p5), .val (.ref b3), .val (.int vv), .val (.int ((p4 &&& (2147483647 : Int32)) - ((p4 &&& (2147483647 : Int32)) / (6 : Int32)) * (6 : Int32))), .unset, .unset, .unset]) rfl ?_
              show Steps p.tables e below (T8.setTop (mkF m 57 #[.val (.int p1), .val (.int p2), .val (.int p3), .val (.int p4), .val (.int p5), .val (.ref b3), .val (.int vv), .val (.int ((p4 &&& (2147483647 : Int32)) - ((p4 &&& (2147483647 : Int32)) / (6 : Int32)) * (6 : Int32))), .unset, .unset, .unset] [])) _
              rw [ef]
              show Steps p.tables e below (T8.setTop (mkF m 57 #[.val (.int p1), .val (.int p2), .val (.int p3), .val (.int p4), .val (.int p5), .val (.ref b3), .val (.int vv), .val (.int (Int32.ofNat f)), .unset, .unset, .unset] [])) _
              refine XS.iload X8.here hx rfl (hb hby at_57) rfl ?_
              show Steps p.tables e below (T8.setTop (mkF m 59 #[.val (.int p1), .val (.int p2), .val (.int p3), .val (.int p4), .val (.int p5), .val (.ref b3), .val (.int vv), .val (.int (Int32.ofNat f)), .unset, .unset, .unset] [(.int p5)])) _
              refine X8.ldcInt hx hown (mvT hZ (hw _ (List.mem_of_getElem? (i := 1) rfl))) (g := (mkF m 59 #[.val (.int p1), .val (.int p2), .val (.int p3), .val (.int p4), .val (.int p5), .val (.ref b3), .val (.int vv), .val (.int (Int32.ofNat f)), .unset, .unset, .unset] [(.int p5)])) rfl (hb hby at_59) _ ?_
              show Steps p.tables e below (T8.setTop (mkF m 61 #[.val (.int p1), .val (.int p2), .val (.int p3), .val (.int p4), .val (.int p5), .val (.ref b3), .val (.int vv), .val (.int (Int32.ofNat f)), .unset, .unset, .unset] [(.int (2147483647 : Int32)), (.int p5)])) _
              refine XS.iand X8.here hx rfl (hb hby at_61) rfl ?_
              show Steps p.tables e below (T8.setTop (mkF m 62 #[.val (.int p1), .val (.int p2), .val (.int p3), .val (.int p4), .val (.int p5), .val (.ref b3), .val (.int vv), .val (.int (Int32.ofNat f)), .unset, .unset, .unset] [(.int (p5 &&& (2147483647 : Int32)))])) _
              refine XS.bipush X8.here hx rfl (hb hby at_62) ?_
              show Steps p.tables e below (T8.setTop (mkF m 64 #[.val (.int p1), .val (.int p2), .val (.int p3), .val (.int p4), .val (.int p5), .val (.ref b3), .val (.int vv), .val (.int (Int32.ofNat f)), .unset, .unset, .unset] [(.int (6 : Int32)), (.int (p5 &&& (2147483647 : Int32)))])) _
              refine XS.irem X8.here hx rfl (hb hby at_64) rfl (by decide) ?_
              show Steps p.tables e below (T8.setTop (mkF m 65 #[.val (.int p1), .val (.int p2), .val (.int p3), .val (.int p4), .val (.int p5), .val (.ref b3), .val (.int vv), .val (.int (Int32.ofNat f)), .unset, .unset, .unset] [(.int ((p5 &&& (2147483647 : Int32)) - ((p5 &&& (2147483647 : Int32)) / (6 : Int32)) * (6 : Int32)))])) _
              refine XS.istore X8.here hx rfl (hb hby at_65) rfl (l' := #[.val (.int p1), .val (.int p2), .val (.int p3), .val (.int p4), .val (.int p5), .val (.ref b3), .val (.int vv), .val (.int (Int32.ofNat f)), .val (.int ((p5 &&& (2147483647 : Int32)) - ((p5 &&& (2147483647 : Int32)) / (6 : Int32)) * (6 : Int32))), .unset, .unset]) rfl ?_
              show Steps p.tables e below (T8.setTop (mkF m 67 #[.val (.int p1), .val (.int p2), .val (.int p3), .val (.int p4), .val (.int p5), .val (.ref b3), .val (.int vv), .val (.int (Int32.ofNat f)), .val (.int ((p5 &&& (2147483647 : Int32)) - ((p5 &&& (2147483647 : Int32)) / (6 : Int32)) * (6 : Int32))), .unset, .unset] [])) _
              rw [et]
              show Steps p.tables e below (T8.setTop (mkF m 67 #[.val (.int p1), .val (.int p2), .val (.int p3), .val (.int p4), .val (.int p5), .val (.ref b3), .val (.int vv), .val (.int (Int32.ofNat f)), .val (.int (Int32.ofNat t)), .unset, .unset] [])) _
              refine XS.aload X8.here hx rfl (hb hby at_67) rfl rfl ?_
              show Steps p.tables e below (T8.setTop (mkF m 69 #[.val (.int p1), .val (.int p2), .val (.int p3), .val (.int p4), .val (.int p5), .val (.ref b3), .val (.int vv), .val (.int (Int32.ofNat f)), .val (.int (Int32.ofNat t)), .unset, .unset] [(.ref b3)])) _
              refine XS.iload X8.here hx rfl (hb hby at_69) rfl ?_
              show Steps p.tables e below (T8.setTop (mkF m 71 #[.val (.int p1), .val (.int p2), .val (.int p3), .val (.int p4), .val (.int p5), .val (.ref b3), .val (.int vv), .val (.int (Int32.ofNat f)), .val (.int (Int32.ofNat t)), .unset, .unset] [(.int vv), (.ref b3)])) _
              refine XS.iload X8.here hx rfl (hb hby at_71) rfl ?_
              show Steps p.tables e below (T8.setTop (mkF m 73 #[.val (.int p1), .val (.int p2), .val (.int p3), .val (.int p4), .val (.int p5), .val (.ref b3), .val (.int vv), .val (.int (Int32.ofNat f)), .val (.int (Int32.ofNat t)), .unset, .unset] [(.int (Int32.ofNat f)), (.int vv), (.ref b3)])) _
              refine XS.iload X8.here hx rfl (hb hby at_73) rfl ?_
              show Steps p.tables e below (T8.setTop (mkF m 75 #[.val (.int p1), .val (.int p2), .val (.int p3), .val (.int p4), .val (.int p5), .val (.ref b3), .val (.int vv), .val (.int (Int32.ofNat f)), .val (.int (Int32.ofNat t)), .unset, .unset] [(.int (Int32.ofNat t)), (.int (Int32.ofNat f)), (.int vv), (.ref b3)])) _
              refine st20 _ ?_
              show Steps p.tables e below (T20.setTop (mkF m 78 #[.val (.int p1), .val (.int p2), .val (.int p3), .val (.int p4), .val (.int p5), .val (.ref b3), .val (.int vv), .val (.int (Int32.ofNat f)), .val (.int (Int32.ofNat t)), .unset, .unset] [(.int (own_idx xs vv (t - f) f))])) _
              refine XS.istore X20.here hx rfl (hb hby at_78) rfl (l' := #[.val (.int p1), .val (.int p2), .val (.int p3), .val (.int p4), .val (.int p5), .val (.ref b3), .val (.int vv), .val (.int (Int32.ofNat f)), .val (.int (Int32.ofNat t)), .val (.int (own_idx xs vv (t - f) f)), .unset]) rfl ?_
              show Steps p.tables e below (T20.setTop (mkF m 80 #[.val (.int p1), .val (.int p2), .val (.int p3), .val (.int p4), .val (.int p5), .val (.ref b3), .val (.int vv), .val (.int (Int32.ofNat f)), .val (.int (Int32.ofNat t)), .val (.int (own_idx xs vv (t - f) f)), .unset] [])) _
              refine XS.aload X20.here hx rfl (hb hby at_80) rfl rfl ?_
              show Steps p.tables e below (T20.setTop (mkF m 82 #[.val (.int p1), .val (.int p2), .val (.int p3), .val (.int p4), .val (.int p5), .val (.ref b3), .val (.int vv), .val (.int (Int32.ofNat f)), .val (.int (Int32.ofNat t)), .val (.int (own_idx xs vv (t - f) f)), .unset] [(.ref b3)])) _
              refine XS.iconst X20.here hx rfl (hb hby at_82) ?_
              show Steps p.tables e below (T20.setTop (mkF m 83 #[.val (.int p1), .val (.int p2), .val (.int p3), .val (.int p4), .val (.int p5), .val (.ref b3), .val (.int vv), .val (.int (Int32.ofNat f)), .val (.int (Int32.ofNat t)), .val (.int (own_idx xs vv (t - f) f)), .unset] [(.int (0 : Int32)), (.ref b3)])) _
              refine XS.iload X20.here hx rfl (hb hby at_83) rfl ?_
              show Steps p.tables e below (T20.setTop (mkF m 85 #[.val (.int p1), .val (.int p2), .val (.int p3), .val (.int p4), .val (.int p5), .val (.ref b3), .val (.int vv), .val (.int (Int32.ofNat f)), .val (.int (Int32.ofNat t)), .val (.int (own_idx xs vv (t - f) f)), .unset] [(.int vv), (.int (0 : Int32)), (.ref b3)])) _
              refine XS.iload X20.here hx rfl (hb hby at_85) rfl ?_
              show Steps p.tables e below (T20.setTop (mkF m 87 #[.val (.int p1), .val (.int p2), .val (.int p3), .val (.int p4), .val (.int p5), .val (.ref b3), .val (.int vv), .val (.int (Int32.ofNat f)), .val (.int (Int32.ofNat t)), .val (.int (own_idx xs vv (t - f) f)), .unset] [(.int (Int32.ofNat f)), (.int vv), (.int (0 : Int32)), (.ref b3)])) _
              refine XS.iload X20.here hx rfl (hb hby at_87) rfl ?_
              show Steps p.tables e below (T20.setTop (mkF m 89 #[.val (.int p1), .val (.int p2), .val (.int p3), .val (.int p4), .val (.int p5), .val (.ref b3), .val (.int vv), .val (.int (Int32.ofNat f)), .val (.int (Int32.ofNat t)), .val (.int (own_idx xs vv (t - f) f)), .unset] [(.int (Int32.ofNat t)), (.int (Int32.ofNat f)), (.int vv), (.int (0 : Int32)), (.ref b3)])) _
              refine st30 _ ?_
              show Steps p.tables e below (T30.setTop (mkF m 92 #[.val (.int p1), .val (.int p2), .val (.int p3), .val (.int p4), .val (.int p5), .val (.ref b3), .val (.int vv), .val (.int (Int32.ofNat f)), .val (.int (Int32.ofNat t)), .val (.int (own_idx xs vv (t - f) f)), .unset] [(.int u0)])) _
              refine XS.ifYes X30.here hx rfl (pc0 := 92) (pc' := 101) rfl (hb hby at_92) rfl ((if0 _ _).trans (teq c0).1) (by decide) (by decide) ?_
              show Steps p.tables e below (T30.setTop (mkF m 101 #[.val (.int p1), .val (.int p2), .val (.int p3), .val (.int p4), .val (.int p5), .val (.ref b3), .val (.int vv), .val (.int (Int32.ofNat f)), .val (.int (Int32.ofNat t)), .val (.int (own_idx xs vv (t - f) f)), .unset] [])) _
              refine XS.aload X30.here hx rfl (hb hby at_101) rfl rfl ?_
              show Steps p.tables e below (T30.setTop (mkF m 103 #[.val (.int p1), .val (.int p2), .val (.int p3), .val (.int p4), .val (.int p5), .val (.ref b3), .val (.int vv), .val (.int (Int32.ofNat f)), .val (.int (Int32.ofNat t)), .val (.int (own_idx xs vv (t - f) f)), .unset] [(.ref b3)])) _
              refine XS.iconst X30.here hx rfl (hb hby at_103) ?_
              show Steps p.tables e below (T30.setTop (mkF m 104 #[.val (.int p1), .val (.int p2), .val (.int p3), .val (.int p4), .val (.int p5), .val (.ref b3), .val (.int vv), .val (.int (Int32.ofNat f)), .val (.int (Int32.ofNat t)), .val (.int (own_idx xs vv (t - f) f)), .unset] [(.int (1 : Int32)), (.ref b3)])) _
              refine XS.iload X30.here hx rfl (hb hby at_104) rfl ?_
              show Steps p.tables e below (T30.setTop (mkF m 106 #[.val (.int p1), .val (.int p2), .val (.int p3), .val (.int p4), .val (.int p5), .val (.ref b3), .val (.int vv), .val (.int (Int32.ofNat f)), .val (.int (Int32.ofNat t)), .val (.int (own_idx xs vv (t - f) f)), .unset] [(.int vv), (.int (1 : Int32)), (.ref b3)])) _
              refine XS.iload X30.here hx rfl (hb hby at_106) rfl ?_
              show Steps p.tables e below (T30.setTop (mkF m 108 #[.val (.int p1), .val (.int p2), .val (.int p3), .val (.int p4), .val (.int p5), .val (.ref b3), .val (.int vv), .val (.int (Int32.ofNat f)), .val (.int (Int32.ofNat t)), .val (.int (own_idx xs vv (t - f) f)), .unset] [(.int (Int32.ofNat f)), (.int vv), (.int (1 : Int32)), (.ref b3)])) _
              refine XS.iload X30.here hx rfl (hb hby at_108) rfl ?_
              show Steps p.tables e below (T30.setTop (mkF m 110 #[.val (.int p1), .val (.int p2), .val (.int p3), .val (.int p4), .val (.int p5), .val (.ref b3), .val (.int vv), .val (.int (Int32.ofNat f)), .val (.int (Int32.ofNat t)), .val (.int (own_idx xs vv (t - f) f)), .unset] [(.int (Int32.ofNat t)), (.int (Int32.ofNat f)), (.int vv), (.int (1 : Int32)), (.ref b3)])) _
              refine st31 _ ?_
              show Steps p.tables e below (T31.setTop (mkF m 113 #[.val (.int p1), .val (.int p2), .val (.int p3), .val (.int p4), .val (.int p5), .val (.ref b3), .val (.int vv), .val (.int (Int32.ofNat f)), .val (.int (Int32.ofNat t)), .val (.int (own_idx xs vv (t - f) f)), .unset] [(.int u1)])) _
              refine XS.ifYes X31.here hx rfl (pc0 := 113) (pc' := 122) rfl (hb hby at_113) rfl ((if0 _ _).trans (teq c1).1) (by decide) (by decide) ?_
              show Steps p.tables e below (T31.setTop (mkF m 122 #[.val (.int p1), .val (.int p2), .val (.int p3), .val (.int p4), .val (.int p5), .val (.ref b3), .val (.int vv), .val (.int (Int32.ofNat f)), .val (.int (Int32.ofNat t)), .val (.int (own_idx xs vv (t - f) f)), .unset] [])) _
              refine XS.aload X31.here hx rfl (hb hby at_122) rfl rfl ?_
              show Steps p.tables e below (T31.setTop (mkF m 124 #[.val (.int p1), .val (.int p2), .val (.int p3), .val (.int p4), .val (.int p5), .val (.ref b3), .val (.int vv), .val (.int (Int32.ofNat f)), .val (.int (Int32.ofNat t)), .val (.int (own_idx xs vv (t - f) f)), .unset] [(.ref b3)])) _
              refine XS.iconst X31.here hx rfl (hb hby at_124) ?_
              show Steps p.tables e below (T31.setTop (mkF m 125 #[.val (.int p1), .val (.int p2), .val (.int p3), .val (.int p4), .val (.int p5), .val (.ref b3), .val (.int vv), .val (.int (Int32.ofNat f)), .val (.int (Int32.ofNat t)), .val (.int (own_idx xs vv (t - f) f)), .unset] [(.int (2 : Int32)), (.ref b3)])) _
              refine XS.iload X31.here hx rfl (hb hby at_125) rfl ?_
              show Steps p.tables e below (T31.setTop (mkF m 127 #[.val (.int p1), .val (.int p2), .val (.int p3), .val (.int p4), .val (.int p5), .val (.ref b3), .val (.int vv), .val (.int (Int32.ofNat f)), .val (.int (Int32.ofNat t)), .val (.int (own_idx xs vv (t - f) f)), .unset] [(.int vv), (.int (2 : Int32)), (.ref b3)])) _
              refine XS.iload X31.here hx rfl (hb hby at_127) rfl ?_
              show Steps p.tables e below (T31.setTop (mkF m 129 #[.val (.int p1), .val (.int p2), .val (.int p3), .val (.int p4), .val (.int p5), .val (.ref b3), .val (.int vv), .val (.int (Int32.ofNat f)), .val (.int (Int32.ofNat t)), .val (.int (own_idx xs vv (t - f) f)), .unset] [(.int (Int32.ofNat f)), (.int vv), (.int (2 : Int32)), (.ref b3)])) _
              refine XS.iload X31.here hx rfl (hb hby at_129) rfl ?_
              show Steps p.tables e below (T31.setTop (mkF m 131 #[.val (.int p1), .val (.int p2), .val (.int p3), .val (.int p4), .val (.int p5), .val (.ref b3), .val (.int vv), .val (.int (Int32.ofNat f)), .val (.int (Int32.ofNat t)), .val (.int (own_idx xs vv (t - f) f)), .unset] [(.int (Int32.ofNat t)), (.int (Int32.ofNat f)), (.int vv), (.int (2 : Int32)), (.ref b3)])) _
              refine st32 _ ?_
              show Steps p.tables e below (T32.setTop (mkF m 134 #[.val (.int p1), .val (.int p2), .val (.int p3), .val (.int p4), .val (.int p5), .val (.ref b3), .val (.int vv), .val (.int (Int32.ofNat f)), .val (.int (Int32.ofNat t)), .val (.int (own_idx xs vv (t - f) f)), .unset] [(.int u2)])) _
              refine XS.ifYes X32.here hx rfl (pc0 := 134) (pc' := 143) rfl (hb hby at_134) rfl ((if0 _ _).trans (teq c2).1) (by decide) (by decide) ?_
              show Steps p.tables e below (T32.setTop (mkF m 143 #[.val (.int p1), .val (.int p2), .val (.int p3), .val (.int p4), .val (.int p5), .val (.ref b3), .val (.int vv), .val (.int (Int32.ofNat f)), .val (.int (Int32.ofNat t)), .val (.int (own_idx xs vv (t - f) f)), .unset] [])) _
              refine XS.aload X32.here hx rfl (hb hby at_143) rfl rfl ?_
              show Steps p.tables e below (T32.setTop (mkF m 145 #[.val (.int p1), .val (.int p2), .val (.int p3), .val (.int p4), .val (.int p5), .val (.ref b3), .val (.int vv), .val (.int (Int32.ofNat f)), .val (.int (Int32.ofNat t)), .val (.int (own_idx xs vv (t - f) f)), .unset] [(.ref b3)])) _
              refine XS.iconst X32.here hx rfl (hb hby at_145) ?_
              show Steps p.tables e below (T32.setTop (mkF m 146 #[.val (.int p1), .val (.int p2), .val (.int p3), .val (.int p4), .val (.int p5), .val (.ref b3), .val (.int vv), .val (.int (Int32.ofNat f)), .val (.int (Int32.ofNat t)), .val (.int (own_idx xs vv (t - f) f)), .unset] [(.int (3 : Int32)), (.ref b3)])) _
              refine XS.iload X32.here hx rfl (hb hby at_146) rfl ?_
              show Steps p.tables e below (T32.setTop (mkF m 148 #[.val (.int p1), .val (.int p2), .val (.int p3), .val (.int p4), .val (.int p5), .val (.ref b3), .val (.int vv), .val (.int (Int32.ofNat f)), .val (.int (Int32.ofNat t)), .val (.int (own_idx xs vv (t - f) f)), .unset] [(.int vv), (.int (3 : Int32)), (.ref b3)])) _
              refine XS.iload X32.here hx rfl (hb hby at_148) rfl ?_
              show Steps p.tables e below (T32.setTop (mkF m 150 #[.val (.int p1), .val (.int p2), .val (.int p3), .val (.int p4), .val (.int p5), .val (.ref b3), .val (.int vv), .val (.int (Int32.ofNat f)), .val (.int (Int32.ofNat t)), .val (.int (own_idx xs vv (t - f) f)), .unset] [(.int (Int32.ofNat f)), (.int vv), (.int (3 : Int32)), (.ref b3)])) _
              refine XS.iload X32.here hx rfl (hb hby at_150) rfl ?_
              show Steps p.tables e below (T32.setTop (mkF m 152 #[.val (.int p1), .val (.int p2), .val (.int p3), .val (.int p4), .val (.int p5), .val (.ref b3), .val (.int vv), .val (.int (Int32.ofNat f)), .val (.int (Int32.ofNat t)), .val (.int (own_idx xs vv (t - f) f)), .unset] [(.int (Int32.ofNat t)), (.int (Int32.ofNat f)), (.int vv), (.int (3 : Int32)), (.ref b3)])) _
              refine st33 _ ?_
              show Steps p.tables e below (T33.setTop (mkF m 155 #[.val (.int p1), .val (.int p2), .val (.int p3), .val (.int p4), .val (.int p5), .val (.ref b3), .val (.int vv), .val (.int (Int32.ofNat f)), .val (.int (Int32.ofNat t)), .val (.int (own_idx xs vv (t - f) f)), .unset] [(.int u3)])) _
              refine XS.ifYes X33.here hx rfl (pc0 := 155) (pc' := 164) rfl (hb hby at_155) rfl ((if0 _ _).trans (teq c3).1) (by decide) (by decide) ?_
              show Steps p.tables e below (T33.setTop (mkF m 164 #[.val (.int p1), .val (.int p2), .val (.int p3), .val (.int p4), .val (.int p5), .val (.ref b3), .val (.int vv), .val (.int (Int32.ofNat f)), .val (.int (Int32.ofNat t)), .val (.int (own_idx xs vv (t - f) f)), .unset] [])) _
              refine XS.aload X33.here hx rfl (hb hby at_164) rfl rfl ?_
              show Steps p.tables e below (T33.setTop (mkF m 166 #[.val (.int p1), .val (.int p2), .val (.int p3), .val (.int p4), .val (.int p5), .val (.ref b3), .val (.int vv), .val (.int (Int32.ofNat f)), .val (.int (Int32.ofNat t)), .val (.int (own_idx xs vv (t - f) f)), .unset] [(.ref b3)])) _
              refine XS.iconst X33.here hx rfl (hb hby at_166) ?_
              show Steps p.tables e below (T33.setTop (mkF m 167 #[.val (.int p1), .val (.int p2), .val (.int p3), .val (.int p4), .val (.int p5), .val (.ref b3), .val (.int vv), .val (.int (Int32.ofNat f)), .val (.int (Int32.ofNat t)), .val (.int (own_idx xs vv (t - f) f)), .unset] [(.int (4 : Int32)), (.ref b3)])) _
              refine XS.iload X33.here hx rfl (hb hby at_167) rfl ?_
              show Steps p.tables e below (T33.setTop (mkF m 169 #[.val (.int p1), .val (.int p2), .val (.int p3), .val (.int p4), .val (.int p5), .val (.ref b3), .val (.int vv), .val (.int (Int32.ofNat f)), .val (.int (Int32.ofNat t)), .val (.int (own_idx xs vv (t - f) f)), .unset] [(.int vv), (.int (4 : Int32)), (.ref b3)])) _
              refine XS.iload X33.here hx rfl (hb hby at_169) rfl ?_
              show Steps p.tables e below (T33.setTop (mkF m 171 #[.val (.int p1), .val (.int p2), .val (.int p3), .val (.int p4), .val (.int p5), .val (.ref b3), .val (.int vv), .val (.int (Int32.ofNat f)), .val (.int (Int32.ofNat t)), .val (.int (own_idx xs vv (t - f) f)), .unset] [(.int (Int32.ofNat f)), (.int vv), (.int (4 : Int32)), (.ref b3)])) _
              refine XS.iload X33.here hx rfl (hb hby at_171) rfl ?_
              show Steps p.tables e below (T33.setTop (mkF m 173 #[.val (.int p1), .val (.int p2), .val (.int p3), .val (.int p4), .val (.int p5), .val (.ref b3), .val (.int vv), .val (.int (Int32.ofNat f)), .val (.int (Int32.ofNat t)), .val (.int (own_idx xs vv (t - f) f)), .unset] [(.int (Int32.ofNat t)), (.int (Int32.ofNat f)), (.int vv), (.int (4 : Int32)), (.ref b3)])) _
              refine st34 _ ?_
              show Steps p.tables e below (T34.setTop (mkF m 176 #[.val (.int p1), .val (.int p2), .val (.int p3), .val (.int p4), .val (.int p5), .val (.ref b3), .val (.int vv), .val (.int (Int32.ofNat f)), .val (.int (Int32.ofNat t)), .val (.int (own_idx xs vv (t - f) f)), .unset] [(.int u4)])) _
              refine XS.ifYes X34.here hx rfl (pc0 := 176) (pc' := 185) rfl (hb hby at_176) rfl ((if0 _ _).trans (teq c4).1) (by decide) (by decide) ?_
              show Steps p.tables e below (T34.setTop (mkF m 185 #[.val (.int p1), .val (.int p2), .val (.int p3), .val (.int p4), .val (.int p5), .val (.ref b3), .val (.int vv), .val (.int (Int32.ofNat f)), .val (.int (Int32.ofNat t)), .val (.int (own_idx xs vv (t - f) f)), .unset] [])) _
              refine XS.iconst X34.here hx rfl (hb hby at_185) ?_
              show Steps p.tables e below (T34.setTop (mkF m 186 #[.val (.int p1), .val (.int p2), .val (.int p3), .val (.int p4), .val (.int p5), .val (.ref b3), .val (.int vv), .val (.int (Int32.ofNat f)), .val (.int (Int32.ofNat t)), .val (.int (own_idx xs vv (t - f) f)), .unset] [(.int (-1 : Int32))])) _
              refine XS.istore X34.here hx rfl (hb hby at_186) rfl (l' := #[.val (.int p1), .val (.int p2), .val (.int p3), .val (.int p4), .val (.int p5), .val (.ref b3), .val (.int vv), .val (.int (Int32.ofNat f)), .val (.int (Int32.ofNat t)), .val (.int (own_idx xs vv (t - f) f)), .val (.int (-1 : Int32))]) rfl ?_
              show Steps p.tables e below (T34.setTop (mkF m 188 #[.val (.int p1), .val (.int p2), .val (.int p3), .val (.int p4), .val (.int p5), .val (.ref b3), .val (.int vv), .val (.int (Int32.ofNat f)), .val (.int (Int32.ofNat t)), .val (.int (own_idx xs vv (t - f) f)), .val (.int (-1 : Int32))] [])) _
              refine XS.iload X34.here hx rfl (hb hby at_188) rfl ?_
              show Steps p.tables e below (T34.setTop (mkF m 190 #[.val (.int p1), .val (.int p2), .val (.int p3), .val (.int p4), .val (.int p5), .val (.ref b3), .val (.int vv), .val (.int (Int32.ofNat f)), .val (.int (Int32.ofNat t)), .val (.int (own_idx xs vv (t - f) f)), .val (.int (-1 : Int32))] [(.int (own_idx xs vv (t - f) f))])) _
              refine XS.iload X34.here hx rfl (hb hby at_190) rfl ?_
              show Steps p.tables e below (T34.setTop (mkF m 192 #[.val (.int p1), .val (.int p2), .val (.int p3), .val (.int p4), .val (.int p5), .val (.ref b3), .val (.int vv), .val (.int (Int32.ofNat f)), .val (.int (Int32.ofNat t)), .val (.int (own_idx xs vv (t - f) f)), .val (.int (-1 : Int32))] [(.int (-1 : Int32)), (.int (own_idx xs vv (t - f) f))])) _
              refine XS.icmpNo X34.here hx rfl (hb hby at_192) rfl (teq k1).2 ?_
              show Steps p.tables e below (T34.setTop (mkF m 195 #[.val (.int p1), .val (.int p2), .val (.int p3), .val (.int p4), .val (.int p5), .val (.ref b3), .val (.int vv), .val (.int (Int32.ofNat f)), .val (.int (Int32.ofNat t)), .val (.int (own_idx xs vv (t - f) f)), .val (.int (-1 : Int32))] [])) _
              refine XS.iconst X34.here hx rfl (hb hby at_195) ?_
              show Steps p.tables e below (T34.setTop (mkF m 196 #[.val (.int p1), .val (.int p2), .val (.int p3), .val (.int p4), .val (.int p5), .val (.ref b3), .val (.int vv), .val (.int (Int32.ofNat f)), .val (.int (Int32.ofNat t)), .val (.int (own_idx xs vv (t - f) f)), .val (.int (-1 : Int32))] [(.int (1 : Int32))])) _
              refine XS.goto X34.here hx rfl (pc0 := 196) (pc' := 200) rfl (hb hby at_196) (by decide) (by decide) ?_
              show Steps p.tables e below (T34.setTop (mkF m 200 #[.val (.int p1), .val (.int p2), .val (.int p3), .val (.int p4), .val (.int p5), .val (.ref b3), .val (.int vv), .val (.int (Int32.ofNat f)), .val (.int (Int32.ofNat t)), .val (.int (own_idx xs vv (t - f) f)), .val (.int (-1 : Int32))] [(.int (1 : Int32))])) _
              exact retN X34 hx (t := .boolean) Bd.returns (by simp) (hb hby at_200) hr
            · show Q0 Z p1 p2 p3 p4 p5 h0 n0 _ T34.heap _
              exact ⟨rfl, N34⟩
          · have k1 : (own_idx xs vv (t - f) f) = (4 : Int32) := own_at 4 (Classical.byContradiction fun q => c4 (z4.mpr q)) (fun q hq => by
              have e : q = 0 ∨ q = 1 ∨ q = 2 ∨ q = 3 := by omega
              rcases e with rfl | rfl | rfl | rfl
              · exact z0.mp c0
              · exact z1.mp c1
              · exact z2.mp c2
              · exact z3.mp c3)
            obtain ⟨fs, hr, hrun, hended, hW, hsame⟩ := X34.leave (v := some (.int (1 : Int32))) (fun h => by rw [Bd.returns] at h; cases h)
            refine ⟨_, _, pre0 _ ?_, hrun, hended, _, _, rfl, ?_, ⟨_, rfl⟩, hW, hsame.mono (by decide) (by decide)⟩
            · show Steps p.tables e below (s₁.setTop (mkF m 0 #[.val (.int p1), .val (.int p2), .val (.int p3), .val (.int p4), .val (.int p5), .unset, .unset, .unset, .unset, .unset, .unset] [])) _
              refine XS.iconst X0.here hx rfl (hb hby at_0) ?_
              show Steps p.tables e below (s₁.setTop (mkF m 1 #[.val (.int p1), .val (.int p2), .val (.int p3), .val (.int p4), .val (.int p5), .unset, .unset, .unset, .unset, .unset, .unset] [(.int (5 : Int32))])) _
              refine st3 _ ?_
              show Steps p.tables e below (T3.setTop (mkF m 3 #[.val (.int p1), .val (.int p2), .val (.int p3), .val (.int p4), .val (.int p5), .unset, .unset, .unset, .unset, .unset, .unset] [(.ref b3)])) _
              refine XS.astore X3.here hx rfl (hb hby at_3) rfl rfl (l' := #[.val (.int p1), .val (.int p2), .val (.int p3), .val (.int p4), .val (.int p5), .val (.ref b3), .unset, .unset, .unset, .unset, .unset]) rfl ?_
              show Steps p.tables e below (T3.setTop (mkF m 5 #[.val (.int p1), .val (.int p2), .val (.int p3), .val (.int p4), .val (.int p5), .val (.ref b3), .unset, .unset, .unset, .unset, .unset] [])) _
              refine XS.aload X3.here hx rfl (hb hby at_5) rfl rfl ?_
              show Steps p.tables e below (T3.setTop (mkF m 7 #[.val (.int p1), .val (.int p2), .val (.int p3), .val (.int p4), .val (.int p5), .val (.ref b3), .unset, .unset, .unset, .unset, .unset] [(.ref b3)])) _
              refine XS.iconst X3.here hx rfl (hb hby at_7) ?_
              show Steps p.tables e below (T3.setTop (mkF m 8 #[.val (.int p1), .val (.int p2), .val (.int p3), .val (.int p4), .val (.int p5), .val (.ref b3), .unset, .unset, .unset, .unset, .unset] [(.int (0 : Int32)), (.ref b3)])) _
              refine XS.iloadN X3.here hx rfl (hb hby at_8) rfl ?_
              show Steps p.tables e below (T3.setTop (mkF m 9 #[.val (.int p1), .val (.int p2), .val (.int p3), .val (.int p4), .val (.int p5), .val (.ref b3), .unset, .unset, .unset, .unset, .unset] [(.int p1), (.int (0 : Int32)), (.ref b3)])) _
              refine XS.i2b X3.here hx rfl (hb hby at_9) rfl ?_
              show Steps p.tables e below (T3.setTop (mkF m 10 #[.val (.int p1), .val (.int p2), .val (.int p3), .val (.int p4), .val (.int p5), .val (.ref b3), .unset, .unset, .unset, .unset, .unset] [(.int (p1.toInt8.toInt32)), (.int (0 : Int32)), (.ref b3)])) _
              rw [← hx0]
              show Steps p.tables e below (T3.setTop (mkF m 10 #[.val (.int p1), .val (.int p2), .val (.int p3), .val (.int p4), .val (.int p5), .val (.ref b3), .unset, .unset, .unset, .unset, .unset] [(.int x0), (.int (0 : Int32)), (.ref b3)])) _
              refine st4 _ ?_
              show Steps p.tables e below (T4.setTop (mkF m 11 #[.val (.int p1), .val (.int p2), .val (.int p3), .val (.int p4), .val (.int p5), .val (.ref b3), .unset, .unset, .unset, .unset, .unset] [])) _
              refine XS.aload X4.here hx rfl (hb hby at_11) rfl rfl ?_
              show Steps p.tables e below (T4.setTop (mkF m 13 #[.val (.int p1), .val (.int p2), .val (.int p3), .val (.int p4), .val (.int p5), .val (.ref b3), .unset, .unset, .unset, .unset, .unset] [(.ref b3)])) _
              refine XS.iconst X4.here hx rfl (hb hby at_13) ?_
              show Steps p.tables e below (T4.setTop (mkF m 14 #[.val (.int p1), .val (.int p2), .val (.int p3), .val (.int p4), .val (.int p5), .val (.ref b3), .unset, .unset, .unset, .unset, .unset] [(.int (1 : Int32)), (.ref b3)])) _
              refine XS.iloadN X4.here hx rfl (hb hby at_14) rfl ?_
              show Steps p.tables e below (T4.setTop (mkF m 15 #[.val (.int p1), .val (.int p2), .val (.int p3), .val (.int p4), .val (.int p5), .val (.ref b3), .unset, .unset, .unset, .unset, .unset] [(.int p1), (.int (1 : Int32)), (.ref b3)])) _
              refine XS.bipush X4.here hx rfl (hb hby at_15) ?_
              show Steps p.tables e below (T4.setTop (mkF m 17 #[.val (.int p1), .val (.int p2), .val (.int p3), .val (.int p4), .val (.int p5), .val (.ref b3), .unset, .unset, .unset, .unset, .unset] [(.int (8 : Int32)), (.int p1), (.int (1 : Int32)), (.ref b3)])) _
              refine XS.ishr X4.here hx rfl (hb hby at_17) rfl ?_
              show Steps p.tables e below (T4.setTop (mkF m 18 #[.val (.int p1), .val (.int p2), .val (.int p3), .val (.int p4), .val (.int p5), .val (.ref b3), .unset, .unset, .unset, .unset, .unset] [(.int (p1 >>> ((8 : Int32) &&& 31))), (.int (1 : Int32)), (.ref b3)])) _
              refine XS.i2b X4.here hx rfl (hb hby at_18) rfl ?_
              show Steps p.tables e below (T4.setTop (mkF m 19 #[.val (.int p1), .val (.int p2), .val (.int p3), .val (.int p4), .val (.int p5), .val (.ref b3), .unset, .unset, .unset, .unset, .unset] [(.int ((p1 >>> ((8 : Int32) &&& 31)).toInt8.toInt32)), (.int (1 : Int32)), (.ref b3)])) _
              rw [← hx1]
              show Steps p.tables e below (T4.setTop (mkF m 19 #[.val (.int p1), .val (.int p2), .val (.int p3), .val (.int p4), .val (.int p5), .val (.ref b3), .unset, .unset, .unset, .unset, .unset] [(.int x1), (.int (1 : Int32)), (.ref b3)])) _
              refine st5 _ ?_
              show Steps p.tables e below (T5.setTop (mkF m 20 #[.val (.int p1), .val (.int p2), .val (.int p3), .val (.int p4), .val (.int p5), .val (.ref b3), .unset, .unset, .unset, .unset, .unset] [])) _
              refine XS.aload X5.here hx rfl (hb hby at_20) rfl rfl ?_
              show Steps p.tables e below (T5.setTop (mkF m 22 #[.val (.int p1), .val (.int p2), .val (.int p3), .val (.int p4), .val (.int p5), .val (.ref b3), .unset, .unset, .unset, .unset, .unset] [(.ref b3)])) _
              refine XS.iconst X5.here hx rfl (hb hby at_22) ?_
              show Steps p.tables e below (T5.setTop (mkF m 23 #[.val (.int p1), .val (.int p2), .val (.int p3), .val (.int p4), .val (.int p5), .val (.ref b3), .unset, .unset, .unset, .unset, .unset] [(.int (2 : Int32)), (.ref b3)])) _
              refine XS.iloadN X5.here hx rfl (hb hby at_23) rfl ?_
              show Steps p.tables e below (T5.setTop (mkF m 24 #[.val (.int p1), .val (.int p2), .val (.int p3), .val (.int p4), .val (.int p5), .val (.ref b3), .unset, .unset, .unset, .unset, .unset] [(.int p1), (.int (2 : Int32)), (.ref b3)])) _
              refine XS.bipush X5.here hx rfl (hb hby at_24) ?_
              show Steps p.tables e below (T5.setTop (mkF m 26 #[.val (.int p1), .val (.int p2), .val (.int p3), .val (.int p4), .val (.int p5), .val (.ref b3), .unset, .unset, .unset, .unset, .unset] [(.int (16 : Int32)), (.int p1), (.int (2 : Int32)), (.ref b3)])) _
              refine XS.ishr X5.here hx rfl (hb hby at_26) rfl ?_
              show Steps p.tables e below (T5.setTop (mkF m 27 #[.val (.int p1), .val (.int p2), .val (.int p3), .val (.int p4), .val (.int p5), .val (.ref b3), .unset, .unset, .unset, .unset, .unset] [(.int (p1 >>> ((16 : Int32) &&& 31))), (.int (2 : Int32)), (.ref b3)])) _
              refine XS.i2b X5.here hx rfl (hb hby at_27) rfl ?_
              show Steps p.tables e below (T5.setTop (mkF m 28 #[.val (.int p1), .val (.int p2), .val (.int p3), .val (.int p4), .val (.int p5), .val (.ref b3), .unset, .unset, .unset, .unset, .unset] [(.int ((p1 >>> ((16 : Int32) &&& 31)).toInt8.toInt32)), (.int (2 : Int32)), (.ref b3)])) _
              rw [← hx2]
              show Steps p.tables e below (T5.setTop (mkF m 28 #[.val (.int p1), .val (.int p2), .val (.int p3), .val (.int p4), .val (.int p5), .val (.ref b3), .unset, .unset, .unset, .unset, .unset] [(.int x2), (.int (2 : Int32)), (.ref b3)])) _
              refine st6 _ ?_
              show Steps p.tables e below (T6.setTop (mkF m 29 #[.val (.int p1), .val (.int p2), .val (.int p3), .val (.int p4), .val (.int p5), .val (.ref b3), .unset, .unset, .unset, .unset, .unset] [])) _
              refine XS.aload X6.here hx rfl (hb hby at_29) rfl rfl ?_
              show Steps p.tables e below (T6.setTop (mkF m 31 #[.val (.int p1), .val (.int p2), .val (.int p3), .val (.int p4), .val (.int p5), .val (.ref b3), .unset, .unset, .unset, .unset, .unset] [(.ref b3)])) _
              refine XS.iconst X6.here hx rfl (hb hby at_31) ?_
              show Steps p.tables e below (T6.setTop (mkF m 32 #[.val (.int p1), .val (.int p2), .val (.int p3), .val (.int p4), .val (.int p5), .val (.ref b3), .unset, .unset, .unset, .unset, .unset] [(.int (3 : Int32)), (.ref b3)])) _
              refine XS.iloadN X6.here hx rfl (hb hby at_32) rfl ?_
              show Steps p.tables e below (T6.setTop (mkF m 33 #[.val (.int p1), .val (.int p2), .val (.int p3), .val (.int p4), .val (.int p5), .val (.ref b3), .unset, .unset, .unset, .unset, .unset] [(.int p1), (.int (3 : Int32)), (.ref b3)])) _
              refine XS.bipush X6.here hx rfl (hb hby at_33) ?_
              show Steps p.tables e below (T6.setTop (mkF m 35 #[.val (.int p1), .val (.int p2), .val (.int p3), .val (.int p4), .val (.int p5), .val (.ref b3), .unset, .unset, .unset, .unset, .unset] [(.int (24 : Int32)), (.int p1), (.int (3 : Int32)), (.ref b3)])) _
              refine XS.iushr X6.here hx rfl (hb hby at_35) rfl ?_
              show Steps p.tables e below (T6.setTop (mkF m 36 #[.val (.int p1), .val (.int p2), .val (.int p3), .val (.int p4), .val (.int p5), .val (.ref b3), .unset, .unset, .unset, .unset, .unset] [(.int ((p1.toUInt32 >>> ((24 : Int32) &&& 31).toUInt32).toInt32)), (.int (3 : Int32)), (.ref b3)])) _
              refine XS.i2b X6.here hx rfl (hb hby at_36) rfl ?_
              show Steps p.tables e below (T6.setTop (mkF m 37 #[.val (.int p1), .val (.int p2), .val (.int p3), .val (.int p4), .val (.int p5), .val (.ref b3), .unset, .unset, .unset, .unset, .unset] [(.int (((p1.toUInt32 >>> ((24 : Int32) &&& 31).toUInt32).toInt32).toInt8.toInt32)), (.int (3 : Int32)), (.ref b3)])) _
              rw [← hx3]
              show Steps p.tables e below (T6.setTop (mkF m 37 #[.val (.int p1), .val (.int p2), .val (.int p3), .val (.int p4), .val (.int p5), .val (.ref b3), .unset, .unset, .unset, .unset, .unset] [(.int x3), (.int (3 : Int32)), (.ref b3)])) _
              refine st7 _ ?_
              show Steps p.tables e below (T7.setTop (mkF m 38 #[.val (.int p1), .val (.int p2), .val (.int p3), .val (.int p4), .val (.int p5), .val (.ref b3), .unset, .unset, .unset, .unset, .unset] [])) _
              refine XS.aload X7.here hx rfl (hb hby at_38) rfl rfl ?_
              show Steps p.tables e below (T7.setTop (mkF m 40 #[.val (.int p1), .val (.int p2), .val (.int p3), .val (.int p4), .val (.int p5), .val (.ref b3), .unset, .unset, .unset, .unset, .unset] [(.ref b3)])) _
              refine XS.iconst X7.here hx rfl (hb hby at_40) ?_
              show Steps p.tables e below (T7.setTop (mkF m 41 #[.val (.int p1), .val (.int p2), .val (.int p3), .val (.int p4), .val (.int p5), .val (.ref b3), .unset, .unset, .unset, .unset, .unset] [(.int (4 : Int32)), (.ref b3)])) _
              refine XS.iloadN X7.here hx rfl (hb hby at_41) rfl ?_
              show Steps p.tables e below (T7.setTop (mkF m 42 #[.val (.int p1), .val (.int p2), .val (.int p3), .val (.int p4), .val (.int p5), .val (.ref b3), .unset, .unset, .unset, .unset, .unset] [(.int p2), (.int (4 : Int32)), (.ref b3)])) _
              refine XS.i2b X7.here hx rfl (hb hby at_42) rfl ?_
              show Steps p.tables e below (T7.setTop (mkF m 43 #[.val (.int p1), .val (.int p2), .val (.int p3), .val (.int p4), .val (.int p5), .val (.ref b3), .unset, .unset, .unset, .unset, .unset] [(.int (p2.toInt8.toInt32)), (.int (4 : Int32)), (.ref b3)])) _
              rw [← hx4]
              show Steps p.tables e below (T7.setTop (mkF m 43 #[.val (.int p1), .val (.int p2), .val (.int p3), .val (.int p4), .val (.int p5), .val (.ref b3), .unset, .unset, .unset, .unset, .unset] [(.int x4), (.int (4 : Int32)), (.ref b3)])) _
              refine st8 _ ?_
              show Steps p.tables e below (T8.setTop (mkF m 44 #[.val (.int p1), .val (.int p2), .val (.int p3), .val (.int p4), .val (.int p5), .val (.ref b3), .unset, .unset, .unset, .unset, .unset] [])) _
              refine XS.iloadN X8.here hx rfl (hb hby at_44) rfl ?_
              show Steps p.tables e below (T8.setTop (mkF m 45 #[.val (.int p1), .val (.int p2), .val (.int p3), .val (.int p4), .val (.int p5), .val (.ref b3), .unset, .unset, .unset, .unset, .unset] [(.int p3)])) _
              refine XS.i2b X8.here hx rfl (hb hby at_45) rfl ?_
              show Steps p.tables e below (T8.setTop (mkF m 46 #[.val (.int p1), .val (.int p2), .val (.int p3), .val (.int p4), .val (.int p5), .val (.ref b3), .unset, .unset, .unset, .unset, .unset] [(.int (p3.toInt8.toInt32))])) _
              refine XS.istore X8.here hx rfl (hb hby at_46) rfl (l' := #[.val (.int p1), .val (.int p2), .val (.int p3), .val (.int p4), .val (.int p5), .val (.ref b3), .val (.int (p3.toInt8.toInt32)), .unset, .unset, .unset, .unset]) rfl ?_
              show Steps p.tables e below (T8.setTop (mkF m 48 #[.val (.int p1), .val (.int p2), .val (.int p3), .val (.int p4), .val (.int p5), .val (.ref b3), .val (.int (p3.toInt8.toInt32)), .unset, .unset, .unset, .unset] [])) _
              rw [← hvv]
              show Steps p.tables e below (T8.setTop (mkF m 48 #[.val (.int p1), .val (.int p2), .val (.int p3), .val (.int p4), .val (.int p5), .val (.ref b3), .val (.int vv), .unset, .unset, .unset, .unset] [])) _
              refine XS.iloadN X8.here hx rfl (hb hby at_48) rfl ?_
              show Steps p.tables e below (T8.setTop (mkF m 49 #[.val (.int p1), .val (.int p2), .val (.int p3), .val (.int p4), .val (.int p5), .val (.ref b3), .val (.int vv), .unset, .unset, .unset, .unset] [(.int p4)])) _
              refine X8.ldcInt hx hown (mvT hZ (hw _ (List.mem_of_getElem? (i := 1) rfl))) (g := (mkF m 49 #[.val (.int p1), .val (.int p2), .val (.int p3), .val (.int p4), .val (.int p5), .val (.ref b3), .val (.int vv), .unset, .unset, .unset, .unset] [(.int p4)])) rfl (hb hby at_49) _ ?_
              show Steps p.tables e below (T8.setTop (mkF m 51 #[.val (.int p1), .val (.int p2), .val (.int p3), .val (.int p4), .val (.int p5), .val (.ref b3), .val (.int vv), .unset, .unset, .unset, .unset] [(.int (2147483647 : Int32)), (.int p4)])) _
              refine XS.iand X8.here hx rfl (hb hby at_51) rfl ?_
              show Steps p.tables e below (T8.setTop (mkF m 52 #[.val (.int p1), .val (.int p2), .val (.int p3), .val (.int p4), .val (.int p5), .val (.ref b3), .val (.int vv), .unset, .unset, .unset, .unset] [(.int (p4 &&& (2147483647 : Int32)))])) _
              refine XS.bipush X8.here hx rfl (hb hby at_52) ?_
              show Steps p.tables e below (T8.setTop (mkF m 54 #[.val (.int p1), .val (.int p2), .val (.int p3), .val (.int p4), .val (.int p5), .val (.ref b3), .val (.int vv), .unset, .unset, .unset, .unset] [(.int (6 : Int32)), (.int (p4 &&& (2147483647 : Int32)))])) _
              refine XS.irem X8.here hx rfl (hb hby at_54) rfl (by decide) ?_
              show Steps p.tables e below (T8.setTop (mkF m 55 #[.val (.int p1), .val (.int p2), .val (.int p3), .val (.int p4), .val (.int p5), .val (.ref b3), .val (.int vv), .unset, .unset, .unset, .unset] [(.int ((p4 &&& (2147483647 : Int32)) - ((p4 &&& (2147483647 : Int32)) / (6 : Int32)) * (6 : Int32)))])) _
              refine XS.istore X8.here hx rfl (hb hby at_55) rfl (l' := #[.val (.int p1), .val (.int p2), .val (.int p3), .val (.int p4), .val (.int p5), .val (.ref b3), .val (.int vv), .val (.int ((p4 &&& (2147483647 : Int32)) - ((p4 &&& (2147483647 : Int32)) / (6 : Int32)) * (6 : Int32))), .unset, .unset, .unset]) rfl ?_
              show Steps p.tables e below (T8.setTop (mkF m 57 #[.val (.int p1), .val (.int p2), .val (.int p3), .val (.int p4), .val (.int p5), .val (.ref b3), .val (.int vv), .val (.int ((p4 &&& (2147483647 : Int32)) - ((p4 &&& (2147483647 : Int32)) / (6 : Int32)) * (6 : Int32))), .unset, .unset, .unset] [])) _
              rw [ef]
              show Steps p.tables e below (T8.setTop (mkF m 57 #[.val (.int p1), .val (.int p2), .val (.int p3), .val (.int p4), .val (.int p5), .val (.ref b3), .val (.int vv), .val (.int (Int32.ofNat f)), .unset, .unset, .unset] [])) _
              refine XS.iload X8.here hx rfl (hb hby at_57) rfl ?_
              show Steps p.tables e below (T8.setTop (mkF m 59 #[.val (.int p1), .val (.int p2), .val (.int p3), .val (.int p4), .val (.int p5), .val (.ref b3), .val (.int vv), .val (.int (Int32.ofNat f)), .unset, .unset, .unset] [(.int p5)])) _
              refine X8.ldcInt hx hown (mvT hZ (hw _ (List.mem_of_getElem? (i := 1) rfl))) (g := (mkF m 59 #[.val (.int p1), .val (.int p2), .val (.int p3), .val (.int p4), .val (.int p5), .val (.ref b3), .val (.int vv), .val (.int (Int32.ofNat f)), .unset, .unset, .unset] [(.int p5)])) rfl (hb hby at_59) _ ?_
              show Steps p.tables e below (T8.setTop (mkF m 61 #[.val (.int p1), .val (.int p2), .val (.int p3), .val (.int p4), .val (.int p5), .val (.ref b3), .val (.int vv), .val (.int (Int32.ofNat f)), .unset, .unset, .unset] [(.int (2147483647 : Int32)), (.int p5)])) _
              refine XS.iand X8.here hx rfl (hb hby at_61) rfl ?_
              show Steps p.tables e below (T8.setTop (mkF m 62 #[.val (.int p1), .val (.int p2), .val (.int p3), .val (.int p4), .val (.int p5), .val (.ref b3), .val (.int vv), .val (.int (Int32.ofNat f)), .unset, .unset, .unset] [(.int (p5 &&& (2147483647 : Int32)))])) _
              refine XS.bipush X8.here hx rfl (hb hby at_62) ?_
              show Steps p.tables e below (T8.setTop (mkF m 64 #[.val (.int p1), .val (.int p2), .val (.int p3), .val (.int p4), .val (.int p5), .val (.ref b3), .val (.int vv), .val (.int (Int32.ofNat f)), .unset, .unset, .unset] [(.int (6 : Int32)), (.int (p5 &&& (2147483647 : Int32)))])) _
              refine XS.irem X8.here hx rfl (hb hby at_64) rfl (by decide) ?_
              show Steps p.tables e below (T8.setTop (mkF m 65 #[.val (.int p1), .val (.int p2), .val (.int p3), .val (.int p4), .val (.int p5), .val (.ref b3), .val (.int vv), .val (.int (Int32.ofNat f)), .unset, .unset, .unset] [(.int ((p5 &&& (2147483647 : Int32)) - ((p5 &&& (2147483647 : Int32)) / (6 : Int32)) * (6 : Int32)))])) _
              refine XS.istore X8.here hx rfl (hb hby at_65) rfl (l' := #[.val (.int p1), .val (.int p2), .val (.int p3), .val (.int p4), .val (.int p5), .val (.ref b3), .val (.int vv), .val (.int (Int32.ofNat f)), .val (.int ((p5 &&& (2147483647 : Int32)) - ((p5 &&& (2147483647 : Int32)) / (6 : Int32)) * (6 : Int32))), .unset, .unset]) rfl ?_
              show Steps p.tables e below (T8.setTop (mkF m 67 #[.val (.int p1), .val (.int p2), .val (.int p3), .val (.int p4), .val (.int p5), .val (.ref b3), .val (.int vv), .val (.int (Int32.ofNat f)), .val (.int ((p5 &&& (2147483647 : Int32)) - ((p5 &&& (2147483647 : Int32)) / (6 : Int32)) * (6 : Int32))), .unset, .unset] [])) _
              rw [et]
              show Steps p.tables e below (T8.setTop (mkF m 67 #[.val (.int p1), .val (.int p2), .val (.int p3), .val (.int p4), .val (.int p5), .val (.ref b3), .val (.int vv), .val (.int (Int32.ofNat f)), .val (.int (Int32.ofNat t)), .unset, .unset] [])) _
              refine XS.aload X8.here hx rfl (hb hby at_67) rfl rfl ?_
              show Steps p.tables e below (T8.setTop (mkF m 69 #[.val (.int p1), .val (.int p2), .val (.int p3), .val (.int p4), .val (.int p5), .val (.ref b3), .val (.int vv), .val (.int (Int32.ofNat f)), .val (.int (Int32.ofNat t)), .unset, .unset] [(.ref b3)])) _
              refine XS.iload X8.here hx rfl (hb hby at_69) rfl ?_
              show Steps p.tables e below (T8.setTop (mkF m 71 #[.val (.int p1), .val (.int p2), .val (.int p3), .val (.int p4), .val (.int p5), .val (.ref b3), .val (.int vv), .val (.int (Int32.ofNat f)), .val (.int (Int32.ofNat t)), .unset, .unset] [(.int vv), (.ref b3)])) _
              refine XS.iload X8.here hx rfl (hb hby at_71) rfl ?_
              show Steps p.tables e below (T8.setTop (mkF m 73 #[.val (.int p1), .val (.int p2), .val (.int p3), .val (.int p4), .val (.int p5), .val (.ref b3), .val (.int vv), .val (.int (Int32.ofNat f)), .val (.int (Int32.ofNat t)), .unset, .unset] [(.int (Int32.ofNat f)), (.int vv), (.ref b3)])) _
              refine XS.iload X8.here hx rfl (hb hby at_73) rfl ?_
              show Steps p.tables e below (T8.setTop (mkF m 75 #[.val (.int p1), .val (.int p2), .val (.int p3), .val (.int p4), .val (.int p5), .val (.ref b3), .val (.int vv), .val (.int (Int32.ofNat f)), .val (.int (Int32.ofNat t)), .unset, .unset] [(.int (Int32.ofNat t)), (.int (Int32.ofNat f)), (.int vv), (.ref b3)])) _
              refine st20 _ ?_
              show Steps p.tables e below (T20.setTop (mkF m 78 #[.val (.int p1), .val (.int p2), .val (.int p3), .val (.int p4), .val (.int p5), .val (.ref b3), .val (.int vv), .val (.int (Int32.ofNat f)), .val (.int (Int32.ofNat t)), .unset, .unset] [(.int (own_idx xs vv (t - f) f))])) _
              refine XS.istore X20.here hx rfl (hb hby at_78) rfl (l' := #[.val (.int p1), .val (.int p2), .val (.int p3), .val (.int p4), .val (.int p5), .val (.ref b3), .val (.int vv), .val (.int (Int32.ofNat f)), .val (.int (Int32.ofNat t)), .val (.int (own_idx xs vv (t - f) f)), .unset]) rfl ?_
              show Steps p.tables e below (T20.setTop (mkF m 80 #[.val (.int p1), .val (.int p2), .val (.int p3), .val (.int p4), .val (.int p5), .val (.ref b3), .val (.int vv), .val (.int (Int32.ofNat f)), .val (.int (Int32.ofNat t)), .val (.int (own_idx xs vv (t - f) f)), .unset] [])) _
              refine XS.aload X20.here hx rfl (hb hby at_80) rfl rfl ?_
              show Steps p.tables e below (T20.setTop (mkF m 82 #[.val (.int p1), .val (.int p2), .val (.int p3), .val (.int p4), .val (.int p5), .val (.ref b3), .val (.int vv), .val (.int (Int32.ofNat f)), .val (.int (Int32.ofNat t)), .val (.int (own_idx xs vv (t - f) f)), .unset] [(.ref b3)])) _
              refine XS.iconst X20.here hx rfl (hb hby at_82) ?_
              show Steps p.tables e below (T20.setTop (mkF m 83 #[.val (.int p1), .val (.int p2), .val (.int p3), .val (.int p4), .val (.int p5), .val (.ref b3), .val (.int vv), .val (.int (Int32.ofNat f)), .val (.int (Int32.ofNat t)), .val (.int (own_idx xs vv (t - f) f)), .unset] [(.int (0 : Int32)), (.ref b3)])) _
              refine XS.iload X20.here hx rfl (hb hby at_83) rfl ?_
              show Steps p.tables e below (T20.setTop (mkF m 85 #[.val (.int p1), .val (.int p2), .val (.int p3), .val (.int p4), .val (.int p5), .val (.ref b3), .val (.int vv), .val (.int (Int32.ofNat f)), .val (.int (Int32.ofNat t)), .val (.int (own_idx xs vv (t - f) f)), .unset] [(.int vv), (.int (0 : Int32)), (.ref b3)])) _
              refine XS.iload X20.here hx rfl (hb hby at_85) rfl ?_
              show Steps p.tables e below (T20.setTop (mkF m 87 #[.val (.int p1), .val (.int p2), .val (.int p3), .val (.int p4), .val (.int p5), .val (.ref b3), .val (.int vv), .val (.int (Int32.ofNat f)), .val (.int (Int32.ofNat t)), .val (.int (own_idx xs vv (t - f) f)), .unset] [(.int (Int32.ofNat f)), (.int vv), (.int (0 : Int32)), (.ref b3)])) _
              refine XS.iload X20.here hx rfl (hb hby at_87) rfl ?_
              show Steps p.tables e below (T20.setTop (mkF m 89 #[.val (.int p1), .val (.int p2), .val (.int p3), .val (.int p4), .val (.int p5), .val (.ref b3), .val (.int vv), .val (.int (Int32.ofNat f)), .val (.int (Int32.ofNat t)), .val (.int (own_idx xs vv (t - f) f)), .unset] [(.int (Int32.ofNat t)), (.int (Int32.ofNat f)), (.int vv), (.int (0 : Int32)), (.ref b3)])) _
              refine st30 _ ?_
              show Steps p.tables e below (T30.setTop (mkF m 92 #[.val (.int p1), .val (.int p2), .val (.int p3), .val (.int p4), .val (.int p5), .val (.ref b3), .val (.int vv), .val (.int (Int32.ofNat f)), .val (.int (Int32.ofNat t)), .val (.int (own_idx xs vv (t - f) f)), .unset] [(.int u0)])) _
              refine XS.ifYes X30.here hx rfl (pc0 := 92) (pc' := 101) rfl (hb hby at_92) rfl ((if0 _ _).trans (teq c0).1) (by decide) (by decide) ?_
              show Steps p.tables e below (T30.setTop (mkF m 101 #[.val (.int p1), .val (.int p2), .val (.int p3), .val (.int p4), .val (.int p5), .val (.ref b3), .val (.int vv), .val (.int (Int32.ofNat f)), .val (.int (Int32.ofNat t)), .val (.int (own_idx xs vv (t - f) f)), .unset] [])) _
              refine XS.aload X30.here hx rfl (hb hby at_101) rfl rfl ?_
              show Steps p.tables e below (T30.setTop (mkF m 103 #[.val (.int p1), .val (.int p2), .val (.int p3), .val (.int p4), .val (.int p5), .val (.ref b3), .val (.int vv), .val (.int (Int32.ofNat f)), .val (.int (Int32.ofNat t)), .val (.int (own_idx xs vv (t - f) f)), .unset] [(.ref b3)])) _
              refine XS.iconst X30.here hx rfl (hb hby at_103) ?_
              show Steps p.tables e below (T30.setTop (mkF m 104 #[.val (.int p1), .val (.int p2), .val (.int p3), .val (.int p4), .val (.int p5), .val (.ref b3), .val (.int vv), .val (.int (Int32.ofNat f)), .val (.int (Int32.ofNat t)), .val (.int (own_idx xs vv (t - f) f)), .unset] [(.int (1 : Int32)), (.ref b3)])) _
              refine XS.iload X30.here hx rfl (hb hby at_104) rfl ?_
              show Steps p.tables e below (T30.setTop (mkF m 106 #[.val (.int p1), .val (.int p2), .val (.int p3), .val (.int p4), .val (.int p5), .val (.ref b3), .val (.int vv), .val (.int (Int32.ofNat f)), .val (.int (Int32.ofNat t)), .val (.int (own_idx xs vv (t - f) f)), .unset] [(.int vv), (.int (1 : Int32)), (.ref b3)])) _
              refine XS.iload X30.here hx rfl (hb hby at_106) rfl ?_
              show Steps p.tables e below (T30.setTop (mkF m 108 #[.val (.int p1), .val (.int p2), .val (.int p3), .val (.int p4), .val (.int p5), .val (.ref b3), .val (.int vv), .val (.int (Int32.ofNat f)), .val (.int (Int32.ofNat t)), .val (.int (own_idx xs vv (t - f) f)), .unset] [(.int (Int32.ofNat f)), (.int vv), (.int (1 : Int32)), (.ref b3)])) _
              refine XS.iload X30.here hx rfl (hb hby at_108) rfl ?_
              show Steps p.tables e below (T30.setTop (mkF m 110 #[.val (.int p1), .val (.int p2), .val (.int p3), .val (.int p4), .val (.int p5), .val (.ref b3), .val (.int vv), .val (.int (Int32.ofNat f)), .val (.int (Int32.ofNat t)), .val (.int (own_idx xs vv (t - f) f)), .unset] [(.int (Int32.ofNat t)), (.int (Int32.ofNat f)), (.int vv), (.int (1 : Int32)), (.ref b3)])) _
              refine st31 _ ?_
              show Steps p.tables e below (T31.setTop (mkF m 113 #[.val (.int p1), .val (.int p2), .val (.int p3), .val (.int p4), .val (.int p5), .val (.ref b3), .val (.int vv), .val (.int (Int32.ofNat f)), .val (.int (Int32.ofNat t)), .val (.int (own_idx xs vv (t - f) f)), .unset] [(.int u1)])) _
              refine XS.ifYes X31.here hx rfl (pc0 := 113) (pc' := 122) rfl (hb hby at_113) rfl ((if0 _ _).trans (teq c1).1) (by decide) (by decide) ?_
              show Steps p.tables e below (T31.setTop (mkF m 122 #[.val (.int p1), .val (.int p2), .val (.int p3), .val (.int p4), .val (.int p5), .val (.ref b3), .val (.int vv), .val (.int (Int32.ofNat f)), .val (.int (Int32.ofNat t)), .val (.int (own_idx xs vv (t - f) f)), .unset] [])) _
              refine XS.aload X31.here hx rfl (hb hby at_122) rfl rfl ?_
              show Steps p.tables e below (T31.setTop (mkF m 124 #[.val (.int p1), .val (.int p2), .val (.int p3), .val (.int p4), .val (.int p5), .val (.ref b3), .val (.int vv), .val (.int (Int32.ofNat f)), .val (.int (Int32.ofNat t)), .val (.int (own_idx xs vv (t - f) f)), .unset] [(.ref b3)])) _
              refine XS.iconst X31.here hx rfl (hb hby at_124) ?_
              show Steps p.tables e below (T31.setTop (mkF m 125 #[.val (.int p1), .val (.int p2), .val (.int p3), .val (.int p4), .val (.int p5), .val (.ref b3), .val (.int vv), .val (.int (Int32.ofNat f)), .val (.int (Int32.ofNat t)), .val (.int (own_idx xs vv (t - f) f)), .unset] [(.int (2 : Int32)), (.ref b3)])) _
              refine XS.iload X31.here hx rfl (hb hby at_125) rfl ?_
              show Steps p.tables e below (T31.setTop (mkF m 127 #[.val (.int p1), .val (.int p2), .val (.int p3), .val (.int p4), .val (.int p5), .val (.ref b3), .val (.int vv), .val (.int (Int32.ofNat f)), .val (.int (Int32.ofNat t)), .val (.int (own_idx xs vv (t - f) f)), .unset] [(.int vv), (.int (2 : Int32)), (.ref b3)])) _
              refine XS.iload X31.here hx rfl (hb hby at_127) rfl ?_
              show Steps p.tables e below (T31.setTop (mkF m 129 #[.val (.int p1), .val (.int p2), .val (.int p3), .val (.int p4), .val (.int p5), .val (.ref b3), .val (.int vv), .val (.int (Int32.ofNat f)), .val (.int (Int32.ofNat t)), .val (.int (own_idx xs vv (t - f) f)), .unset] [(.int (Int32.ofNat f)), (.int vv), (.int (2 : Int32)), (.ref b3)])) _
              refine XS.iload X31.here hx rfl (hb hby at_129) rfl ?_
              show Steps p.tables e below (T31.setTop (mkF m 131 #[.val (.int p1), .val (.int p2), .val (.int p3), .val (.int p4), .val (.int p5), .val (.ref b3), .val (.int vv), .val (.int (Int32.ofNat f)), .val (.int (Int32.ofNat t)), .val (.int (own_idx xs vv (t - f) f)), .unset] [(.int (Int32.ofNat t)), (.int (Int32.ofNat f)), (.int vv), (.int (2 : Int32)), (.ref b3)])) _
              refine st32 _ ?_
              show Steps p.tables e below (T32.setTop (mkF m 134 #[.val (.int p1), .val (.int p2), .val (.int p3), .val (.int p4), .val (.int p5), .val (.ref b3), .val (.int vv), .val (.int (Int32.ofNat f)), .val (.int (Int32.ofNat t)), .val (.int (own_idx xs vv (t - f) f)), .unset] [(.int u2)])) _
              refine XS.ifYes X32.here hx rfl (pc0 := 134) (pc' := 143) rfl (hb hby at_134) rfl ((if0 _ _).trans (teq c2).1) (by decide) (by decide) ?_
              show Steps p.tables e below (T32.setTop (mkF m 143 #[.val (.int p1), .val (.int p2), .val (.int p3), .val (.int p4), .val (.int p5), .val (.ref b3), .val (.int vv), .val (.int (Int32.ofNat f)), .val (.int (Int32.ofNat t)), .val (.int (own_idx xs vv (t - f) f)), .unset] [])) _
              refine XS.aload X32.here hx rfl (hb hby at_143) rfl rfl ?_
              show Steps p.tables e below (T32.setTop (mkF m 145 #[.val (.int p1), .val (.int p2), .val (.int p3), .val (.int p4), .val (.int p5), .val (.ref b3), .val (.int vv), .val (.int (Int32.ofNat f)), .val (.int (Int32.ofNat t)), .val (.int (own_idx xs vv (t - f) f)), .unset] [(.ref b3)])) _
              refine XS.iconst X32.here hx rfl (hb hby at_145) ?_
              show Steps p.tables e below (T32.setTop (mkF m 146 #[.val (.int p1), .val (.int p2), .val (.int p3), .val (.int p4), .val (.int p5), .val (.ref b3), .val (.int vv), .val (.int (Int32.ofNat f)), .val (.int (Int32.ofNat t)), .val (.int (own_idx xs vv (t - f) f)), .unset] [(.int (3 : Int32)), (.ref b3)])) _
              refine XS.iload X32.here hx rfl (hb hby at_146) rfl ?_
              show Steps p.tables e below (T32.setTop (mkF m 148 #[.val (.int p1), .val (.int p2), .val (.int p3), .val (.int p4), .val (.int p5), .val (.ref b3), .val (.int vv), .val (.int (Int32.ofNat f)), .val (.int (Int32.ofNat t)), .val (.int (own_idx xs vv (t - f) f)), .unset] [(.int vv), (.int (3 : Int32)), (.ref b3)])) _
              refine XS.iload X32.here hx rfl (hb hby at_148) rfl ?_
              show Steps p.tables e below (T32.setTop (mkF m 150 #[.val (.int p1), .val (.int p2), .val (.int p3), .val (.int p4), .val (.int p5), .val (.ref b3), .val (.int vv), .val (.int (Int32.ofNat f)), .val (.int (Int32.ofNat t)), .val (.int (own_idx xs vv (t - f) f)), .unset] [(.int (Int32.ofNat f)), (.int vv), (.int (3 : Int32)), (.ref b3)])) _
              refine XS.iload X32.here hx rfl (hb hby at_150) rfl ?_
              show Steps p.tables e below (T32.setTop (mkF m 152 #[.val (.int p1), .val (.int p2), .val (.int p3), .val (.int p4), .val (.int p5), .val (.ref b3), .val (.int vv), .val (.int (Int32.ofNat f)), .val (.int (Int32.ofNat t)), .val (.int (own_idx xs vv (t - f) f)), .unset] [(.int (Int32.ofNat t)), (.int (Int32.ofNat f)), (.int vv), (.int (3 : Int32)), (.ref b3)])) _
              refine st33 _ ?_
              show Steps p.tables e below (T33.setTop (mkF m 155 #[.val (.int p1), .val (.int p2), .val (.int p3), .val (.int p4), .val (.int p5), .val (.ref b3), .val (.int vv), .val (.int (Int32.ofNat f)), .val (.int (Int32.ofNat t)), .val (.int (own_idx xs vv (t - f) f)), .unset] [(.int u3)])) _
              refine XS.ifYes X33.here hx rfl (pc0 := 155) (pc' := 164) rfl (hb hby at_155) rfl ((if0 _ _).trans (teq c3).1) (by decide) (by decide) ?_
              show Steps p.tables e below (T33.setTop (mkF m 164 #[.val (.int p1), .val (.int p2), .val (.int p3), .val (.int p4), .val (.int p5), .val (.ref b3), .val (.int vv), .val (.int (Int32.ofNat f)), .val (.int (Int32.ofNat t)), .val (.int (own_idx xs vv (t - f) f)), .unset] [])) _
              refine XS.aload X33.here hx rfl (hb hby at_164) rfl rfl ?_
              show Steps p.tables e below (T33.setTop (mkF m 166 #[.val (.int p1), .val (.int p2), .val (.int p3), .val (.int p4), .val (.int p5), .val (.ref b3), .val (.int vv), .val (.int (Int32.ofNat f)), .val (.int (Int32.ofNat t)), .val (.int (own_idx xs vv (t - f) f)), .unset] [(.ref b3)])) _
              refine XS.iconst X33.here hx rfl (hb hby at_166) ?_
              show Steps p.tables e below (T33.setTop (mkF m 167 #[.val (.int p1), .val (.int p2), .val (.int p3), .val (.int p4), .val (.int p5), .val (.ref b3), .val (.int vv), .val (.int (Int32.ofNat f)), .val (.int (Int32.ofNat t)), .val (.int (own_idx xs vv (t - f) f)), .unset] [(.int (4 : Int32)), (.ref b3)])) _
              refine XS.iload X33.here hx rfl (hb hby at_167) rfl ?_
              show Steps p.tables e below (T33.setTop (mkF m 169 #[.val (.int p1), .val (.int p2), .val (.int p3), .val (.int p4), .val (.int p5), .val (.ref b3), .val (.int vv), .val (.int (Int32.ofNat f)), .val (.int (Int32.ofNat t)), .val (.int (own_idx xs vv (t - f) f)), .unset] [(.int vv), (.int (4 : Int32)), (.ref b3)])) _
              refine XS.iload X33.here hx rfl (hb hby at_169) rfl ?_
              show Steps p.tables e below (T33.setTop (mkF m 171 #[.val (.int p1), .val (.int p2), .val (.int p3), .val (.int p4), .val (.int p5), .val (.ref b3), .val (.int vv), .val (.int (Int32.ofNat f)), .val (.int (Int32.ofNat t)), .val (.int (own_idx xs vv (t - f) f)), .unset] [(.int (Int32.ofNat f)), (.int vv), (.int (4 : Int32)), (.ref b3)])) _
              refine XS.iload X33.here hx rfl (hb hby at_171) rfl ?_
              show Steps p.tables e below (T33.setTop (mkF m 173 #[.val (.int p1), .val (.int p2), .val (.int p3), .val (.int p4), .val (.int p5), .val (.ref b3), .val (.int vv), .val (.int (Int32.ofNat f)), .val (.int (Int32.ofNat t)), .val (.int (own_idx xs vv (t - f) f)), .unset] [(.int (Int32.ofNat t)), (.int (Int32.ofNat f)), (.int vv), (.int (4 : Int32)), (.ref b3)])) _
              refine st34 _ ?_
              show Steps p.tables e below (T34.setTop (mkF m 176 #[.val (.int p1), .val (.int p2), .val (.int p3), .val (.int p4), .val (.int p5), .val (.ref b3), .val (.int vv), .val (.int (Int32.ofNat f)), .val (.int (Int32.ofNat t)), .val (.int (own_idx xs vv (t - f) f)), .unset] [(.int u4)])) _
              refine XS.ifNo X34.here hx rfl (hb hby at_176) rfl ((if0 _ _).trans (feq c4).1) ?_
              show Steps p.tables e below (T34.setTop (mkF m 179 #[.val (.int p1), .val (.int p2), .val (.int p3), .val (.int p4), .val (.int p5), .val (.ref b3), .val (.int vv), .val (.int (Int32.ofNat f)), .val (.int (Int32.ofNat t)), .val (.int (own_idx xs vv (t - f) f)), .unset] [])) _
              refine XS.iconst X34.here hx rfl (hb hby at_179) ?_
              show Steps p.tables e below (T34.setTop (mkF m 180 #[.val (.int p1), .val (.int p2), .val (.int p3), .val (.int p4), .val (.int p5), .val (.ref b3), .val (.int vv), .val (.int (Int32.ofNat f)), .val (.int (Int32.ofNat t)), .val (.int (own_idx xs vv (t - f) f)), .unset] [(.int (4 : Int32))])) _
              refine XS.istore X34.here hx rfl (hb hby at_180) rfl (l' := #[.val (.int p1), .val (.int p2), .val (.int p3), .val (.int p4), .val (.int p5), .val (.ref b3), .val (.int vv), .val (.int (Int32.ofNat f)), .val (.int (Int32.ofNat t)), .val (.int (own_idx xs vv (t - f) f)), .val (.int (4 : Int32))]) rfl ?_
              show Steps p.tables e below (T34.setTop (mkF m 182 #[.val (.int p1), .val (.int p2), .val (.int p3), .val (.int p4), .val (.int p5), .val (.ref b3), .val (.int vv), .val (.int (Int32.ofNat f)), .val (.int (Int32.ofNat t)), .val (.int (own_idx xs vv (t - f) f)), .val (.int (4 : Int32))] [])) _
              refine XS.goto X34.here hx rfl (pc0 := 182) (pc' := 188) rfl (hb hby at_182) (by decide) (by decide) ?_
              show Steps p.tables e below (T34.setTop (mkF m 188 #[.val (.int p1), .val (.int p2), .val (.int p3), .val (.int p4), .val (.int p5), .val (.ref b3), .val (.int vv), .val (.int (Int32.ofNat f)), .val (.int (Int32.ofNat t)), .val (.int (own_idx xs vv (t - f) f)), .val (.int (4 : Int32))] [])) _
              refine XS.iload X34.here hx rfl (hb hby at_188) rfl ?_
              show Steps p.tables e below (T34.setTop (mkF m 190 #[.val (.int p1), .val (.int p2), .val (.int p3), .val (.int p4), .val (.int p5), .val (.ref b3), .val (.int vv), .val (.int (Int32.ofNat f)), .val (.int (Int32.ofNat t)), .val (.int (own_idx xs vv (t - f) f)), .val (.int (4 : Int32))] [(.int (own_idx xs vv (t - f) f))])) _
              refine XS.iload X34.here hx rfl (hb hby at_190) rfl ?_
              show Steps p.tables e below (T34.setTop (mkF m 192 #[.val (.int p1), .val (.int p2), .val (.int p3), .val (.int p4), .val (.int p5), .val (.ref b3), .val (.int vv), .val (.int (Int32.ofNat f)), .val (.int (Int32.ofNat t)), .val (.int (own_idx xs vv (t - f) f)), .val (.int (4 : Int32))] [(.int (4 : Int32)), (.int (own_idx xs vv (t - f) f))])) _
              refine XS.icmpNo X34.here hx rfl (hb hby at_192) rfl (teq k1).2 ?_
              show Steps p.tables e below (T34.setTop (mkF m 195 #[.val (.int p1), .val (.int p2), .val (.int p3), .val (.int p4), .val (.int p5), .val (.ref b3), .val (.int vv), .val (.int (Int32.ofNat f)), .val (.int (Int32.ofNat t)), .val (.int (own_idx xs vv (t - f) f)), .val (.int (4 : Int32))] [])) _
              refine XS.iconst X34.here hx rfl (hb hby at_195) ?_
              show Steps p.tables e below (T34.setTop (mkF m 196 #[.val (.int p1), .val (.int p2), .val (.int p3), .val (.int p4), .val (.int p5), .val (.ref b3), .val (.int vv), .val (.int (Int32.ofNat f)), .val (.int (Int32.ofNat t)), .val (.int (own_idx xs vv (t - f) f)), .val (.int (4 : Int32))] [(.int (1 : Int32))])) _
              refine XS.goto X34.here hx rfl (pc0 := 196) (pc' := 200) rfl (hb hby at_196) (by decide) (by decide) ?_
              show Steps p.tables e below (T34.setTop (mkF m 200 #[.val (.int p1), .val (.int p2), .val (.int p3), .val (.int p4), .val (.int p5), .val (.ref b3), .val (.int vv), .val (.int (Int32.ofNat f)), .val (.int (Int32.ofNat t)), .val (.int (own_idx xs vv (t - f) f)), .val (.int (4 : Int32))] [(.int (1 : Int32))])) _
              exact retN X34 hx (t := .boolean) Bd.returns (by simp) (hb hby at_200) hr
            · show Q0 Z p1 p2 p3 p4 p5 h0 n0 _ T34.heap _
              exact ⟨rfl, N34⟩
        · have k1 : (own_idx xs vv (t - f) f) = (3 : Int32) := own_at 3 (Classical.byContradiction fun q => c3 (z3.mpr q)) (fun q hq => by
            have e : q = 0 ∨ q = 1 ∨ q = 2 := by omega
            rcases e with rfl | rfl | rfl
            · exact z0.mp c0
            · exact z1.mp c1
            · exact z2.mp c2)
          obtain ⟨fs, hr, hrun, hended, hW, hsame⟩ := X33.leave (v := some (.int (1 : Int32))) (fun h => by rw [Bd.returns] at h; cases h)
          refine ⟨_, _, pre0 _ ?_, hrun, hended, _, _, rfl, ?_, ⟨_, rfl⟩, hW, hsame.mono (by decide) (by decide)⟩
          · show Steps p.tables e below (s₁.setTop (mkF m 0 #[.val (.int p1), .val (.int p2), .val (.int p3), .val (.int p4), .val (.int p5), .unset, .unset, .unset, .unset, .unset, .unset] [])) _
            refine XS.iconst X0.here hx rfl (hb hby at_0) ?_
            show Steps p.tables e below (s₁.setTop (mkF m 1 #[.val (.int p1), .val (.int p2), .val (.int p3), .val (.int p4), .val (.int p5), .unset, .unset, .unset, .unset, .unset, .unset] [(.int (5 : Int32))])) _
            refine st3 _ ?_
            show Steps p.tables e below (T3.setTop (mkF m 3 #[.val (.int p1), .val (.int p2), .val (.int p3), .val (.int p4), .val (.int p5), .unset, .unset, .unset, .unset, .unset, .unset] [(.ref b3)])) _
            refine XS.astore X3.here hx rfl (hb hby at_3) rfl rfl (l' := #[.val (.int p1), .val (.int p2), .val (.int p3), .val (.int p4), .val (.int p5), .val (.ref b3), .unset, .unset, .unset, .unset, .unset]) rfl ?_
            show Steps p.tables e below (T3.setTop (mkF m 5 #[.val (.int p1), .val (.int p2), .val (.int p3), .val (.int p4), .val (.int p5), .val (.ref b3), .unset, .unset, .unset, .unset, .unset] [])) _
            refine XS.aload X3.here hx rfl (hb hby at_5) rfl rfl ?_
            show Steps p.tables e below (T3.setTop (mkF m 7 #[.val (.int p1), .val (.int p2), .val (.int p3), .val (.int p4), .val (.int p5), .val (.ref b3), .unset, .unset, .unset, .unset, .unset] [(.ref b3)])) _
            refine XS.iconst X3.here hx rfl (hb hby at_7) ?_
            show Steps p.tables e below (T3.setTop (mkF m 8 #[.val (.int p1), .val (.int p2), .val (.int p3), .val (.int p4), .val (.int p5), .val (.ref b3), .unset, .unset, .unset, .unset, .unset] [(.int (0 : Int32)), (.ref b3)])) _
            refine XS.iloadN X3.here hx rfl (hb hby at_8) rfl ?_
            show Steps p.tables e below (T3.setTop (mkF m 9 #[.val (.int p1), .val (.int p2), .val (.int p3), .val (.int p4), .val (.int p5), .val (.ref b3), .unset, .unset, .unset, .unset, .unset] [(.int p1), (.int (0 : Int32)), (.ref b3)])) _
            refine XS.i2b X3.here hx rfl (hb hby at_9) rfl ?_
            show Steps p.tables e below (T3.setTop (mkF m 10 #[.val (.int p1), .val (.int p2), .val (.int p3), .val (.int p4), .val (.int p5), .val (.ref b3), .unset, .unset, .unset, .unset, .unset] [(.int (p1.toInt8.toInt32)), (.int (0 : Int32)), (.ref b3)])) _
            rw [← hx0]
            show Steps p.tables e below (T3.setTop (mkF m 10 #[.val (.int p1), .val (.int p2), .val (.int p3), .val (.int p4), .val (.int p5), .val (.ref b3), .unset, .unset, .unset, .unset, .unset] [(.int x0), (.int (0 : Int32)), (.ref b3)])) _
            refine st4 _ ?_
            show Steps p.tables e below (T4.setTop (mkF m 11 #[.val (.int p1), .val (.int p2), .val (.int p3), .val (.int p4), .val (.int p5), .val (.ref b3), .unset, .unset, .unset, .unset, .unset] [])) _
            refine XS.aload X4.here hx rfl (hb hby at_11) rfl rfl ?_
            show Steps p.tables e below (T4.setTop (mkF m 13 #[.val (.int p1), .val (.int p2), .val (.int p3), .val (.int p4), .val (.int p5), .val (.ref b3), .unset, .unset, .unset, .unset, .unset] [(.ref b3)])) _
            refine XS.iconst X4.here hx rfl (hb hby at_13) ?_
            show Steps p.tables e below (T4.setTop (mkF m 14 #[.val (.int p1), .val (.int p2), .val (.int p3), .val (.int p4), .val (.int p5), .val (.ref b3), .unset, .unset, .unset, .unset, .unset] [(.int (1 : Int32)), (.ref b3)])) _
            refine XS.iloadN X4.here hx rfl (hb hby at_14) rfl ?_
            show Steps p.tables e below (T4.setTop (mkF m 15 #[.val (.int p1), .val (.int p2), .val (.int p3), .val (.int p4), .val (.int p5), .val (.ref b3), .unset, .unset, .unset, .unset, .unset] [(.int p1), (.int (1 : Int32)), (.ref b3)])) _
            refine XS.bipush X4.here hx rfl (hb hby at_15) ?_
            show Steps p.tables e below (T4.setTop (mkF m 17 #[.val (.int p1), .val (.int p2), .val (.int p3), .val (.int p4), .val (.int p5), .val (.ref b3), .unset, .unset, .unset, .unset, .unset] [(.int (8 : Int32)), (.int p1), (.int (1 : Int32)), (.ref b3)])) _
            refine XS.ishr X4.here hx rfl (hb hby at_17) rfl ?_
            show Steps p.tables e below (T4.setTop (mkF m 18 #[.val (.int p1), .val (.int p2), .val (.int p3), .val (.int p4), .val (.int p5), .val (.ref b3), .unset, .unset, .unset, .unset, .unset] [(.int (p1 >>> ((8 : Int32) &&& 31))), (.int (1 : Int32)), (.ref b3)])) _
            refine XS.i2b X4.here hx rfl (hb hby at_18) rfl ?_
            show Steps p.tables e below (T4.setTop (mkF m 19 #[.val (.int p1), .val (.int p2), .val (.int p3), .val (.int p4), .val (.int p5), .val (.ref b3), .unset, .unset, .unset, .unset, .unset] [(.int ((p1 >>> ((8 : Int32) &&& 31)).toInt8.toInt32)), (.int (1 : Int32)), (.ref b3)])) _
            rw [← hx1]
            show Steps p.tables e below (T4.setTop (mkF m 19 #[.val (.int p1), .val (.int p2), .val (.int p3), .val (.int p4), .val (.int p5), .val (.ref b3), .unset, .unset, .unset, .unset, .unset] [(.int x1), (.int (1 : Int32)), (.ref b3)])) _
            refine st5 _ ?_
            show Steps p.tables e below (T5.setTop (mkF m 20 #[.val (.int p1), .val (.int p2), .val (.int p3), .val (.int p4), .val (.int p5), .val (.ref b3), .unset, .unset, .unset, .unset, .unset] [])) _
            refine XS.aload X5.here hx rfl (hb hby at_20) rfl rfl ?_
            show Steps p.tables e below (T5.setTop (mkF m 22 #[.val (.int p1), .val (.int p2), .val (.int p3), .val (.int p4), .val (.int p5), .val (.ref b3), .unset, .unset, .unset, .unset, .unset] [(.ref b3)])) _
            refine XS.iconst X5.here hx rfl (hb hby at_22) ?_
            show Steps p.tables e below (T5.setTop (mkF m 23 #[.val (.int p1), .val (.int p2), .val (.int p3), .val (.int p4), .val (.int p5), .val (.ref b3), .unset, .unset, .unset, .unset, .unset] [(.int (2 : Int32)), (.ref b3)])) _
            refine XS.iloadN X5.here hx rfl (hb hby at_23) rfl ?_
            show Steps p.tables e below (T5.setTop (mkF m 24 #[.val (.int p1), .val (.int p2), .val (.int p3), .val (.int p4), .val (.int p5), .val (.ref b3), .unset, .unset, .unset, .unset, .unset] [(.int p1), (.int (2 : Int32)), (.ref b3)])) _
            refine XS.bipush X5.here hx rfl (hb hby at_24) ?_
            show Steps p.tables e below (T5.setTop (mkF m 26 #[.val (.int p1), .val (.int p2), .val (.int p3), .val (.int p4), .val (.int p5), .val (.ref b3), .unset, .unset, .unset, .unset, .unset] [(.int (16 : Int32)), (.int p1), (.int (2 : Int32)), (.ref b3)])) _
            refine XS.ishr X5.here hx rfl (hb hby at_26) rfl ?_
            show Steps p.tables e below (T5.setTop (mkF m 27 #[.val (.int p1), .val (.int p2), .val (.int p3), .val (.int p4), .val (.int p5), .val (.ref b3), .unset, .unset, .unset, .unset, .unset] [(.int (p1 >>> ((16 : Int32) &&& 31))), (.int (2 : Int32)), (.ref b3)])) _
            refine XS.i2b X5.here hx rfl (hb hby at_27) rfl ?_
            show Steps p.tables e below (T5.setTop (mkF m 28 #[.val (.int p1), .val (.int p2), .val (.int p3), .val (.int p4), .val (.int p5), .val (.ref b3), .unset, .unset, .unset, .unset, .unset] [(.int ((p1 >>> ((16 : Int32) &&& 31)).toInt8.toInt32)), (.int (2 : Int32)), (.ref b3)])) _
            rw [← hx2]
            show Steps p.tables e below (T5.setTop (mkF m 28 #[.val (.int p1), .val (.int p2), .val (.int p3), .val (.int p4), .val (.int p5), .val (.ref b3), .unset, .unset, .unset, .unset, .unset] [(.int x2), (.int (2 : Int32)), (.ref b3)])) _
            refine st6 _ ?_
            show Steps p.tables e below (T6.setTop (mkF m 29 #[.val (.int p1), .val (.int p2), .val (.int p3), .val (.int p4), .val (.int p5), .val (.ref b3), .unset, .unset, .unset, .unset, .unset] [])) _
            refine XS.aload X6.here hx rfl (hb hby at_29) rfl rfl ?_
            show Steps p.tables e below (T6.setTop (mkF m 31 #[.val (.int p1), .val (.int p2), .val (.int p3), .val (.int p4), .val (.int p5), .val (.ref b3), .unset, .unset, .unset, .unset, .unset] [(.ref b3)])) _
            refine XS.iconst X6.here hx rfl (hb hby at_31) ?_
            show Steps p.tables e below (T6.setTop (mkF m 32 #[.val (.int p1), .val (.int p2), .val (.int p3), .val (.int p4), .val (.int p5), .val (.ref b3), .unset, .unset, .unset, .unset, .unset] [(.int (3 : Int32)), (.ref b3)])) _
            refine XS.iloadN X6.here hx rfl (hb hby at_32) rfl ?_
            show Steps p.tables e below (T6.setTop (mkF m 33 #[.val (.int p1), .val (.int p2), .val (.int p3), .val (.int p4), .val (.int p5), .val (.ref b3), .unset, .unset, .unset, .unset, .unset] [(.int p1), (.int (3 : Int32)), (.ref b3)])) _
            refine XS.bipush X6.here hx rfl (hb hby at_33) ?_
            show Steps p.tables e below (T6.setTop (mkF m 35 #[.val (.int p1), .val (.int p2), .val (.int p3), .val (.int p4), .val (.int p5), .val (.ref b3), .unset, .unset, .unset, .unset, .unset] [(.int (24 : Int32)), (.int p1), (.int (3 : Int32)), (.ref b3)])) _
            refine XS.iushr X6.here hx rfl (hb hby at_35) rfl ?_
            show Steps p.tables e below (T6.setTop (mkF m 36 #[.val (.int p1), .val (.int p2), .val (.int p3), .val (.int p4), .val (.int p5), .val (.ref b3), .unset, .unset, .unset, .unset, .unset] [(.int ((p1.toUInt32 >>> ((24 : Int32) &&& 31).toUInt32).toInt32)), (.int (3 : Int32)), (.ref b3)])) _
            refine XS.i2b X6.here hx rfl (hb hby at_36) rfl ?_
            show Steps p.tables e below (T6.setTop (mkF m 37 #[.val (.int p1), .val (.int p2), .val (.int p3), .val (.int p4), .val (.int p5), .val (.ref b3), .unset, .unset, .unset, .unset, .unset] [(.int (((p1.toUInt32 >>> ((24 : Int32) &&& 31).toUInt32).toInt32).toInt8.toInt32)), (.int (3 : Int32)), (.ref b3)])) _
            rw [← hx3]
            show Steps p.tables e below (T6.setTop (mkF m 37 #[.val (.int p1), .val (.int p2), .val (.int p3), .val (.int p4), .val (.int p5), .val (.ref b3), .unset, .unset, .unset, .unset, .unset] [(.int x3), (.int (3 : Int32)), (.ref b3)])) _
            refine st7 _ ?_
            show Steps p.tables e below (T7.setTop (mkF m 38 #[.val (.int p1), .val (.int p2), .val (.int p3), .val (.int p4), .val (.int p5), .val (.ref b3), .unset, .unset, .unset, .unset, .unset] [])) _
            refine XS.aload X7.here hx rfl (hb hby at_38) rfl rfl ?_
            show Steps p.tables e below (T7.setTop (mkF m 40 #[.val (.int p1), .val (.int p2), .val (.int p3), .val (.int p4), .val (.int p5), .val (.ref b3), .unset, .unset, .unset, .unset, .unset] [(.ref b3)])) _
            refine XS.iconst X7.here hx rfl (hb hby at_40) ?_
            show Steps p.tables e below (T7.setTop (mkF m 41 #[.val (.int p1), .val (.int p2), .val (.int p3), .val (.int p4), .val (.int p5), .val (.ref b3), .unset, .unset, .unset, .unset, .unset] [(.int (4 : Int32)), (.ref b3)])) _
            refine XS.iloadN X7.here hx rfl (hb hby at_41) rfl ?_
            show Steps p.tables e below (T7.setTop (mkF m 42 #[.val (.int p1), .val (.int p2), .val (.int p3), .val (.int p4), .val (.int p5), .val (.ref b3), .unset, .unset, .unset, .unset, .unset] [(.int p2), (.int (4 : Int32)), (.ref b3)])) _
            refine XS.i2b X7.here hx rfl (hb hby at_42) rfl ?_
            show Steps p.tables e below (T7.setTop (mkF m 43 #[.val (.int p1), .val (.int p2), .val (.int p3), .val (.int p4), .val (.int p5), .val (.ref b3), .unset, .unset, .unset, .unset, .unset] [(.int (p2.toInt8.toInt32)), (.int (4 : Int32)), (.ref b3)])) _
            rw [← hx4]
            show Steps p.tables e below (T7.setTop (mkF m 43 #[.val (.int p1), .val (.int p2), .val (.int p3), .val (.int p4), .val (.int p5), .val (.ref b3), .unset, .unset, .unset, .unset, .unset] [(.int x4), (.int (4 : Int32)), (.ref b3)])) _
            refine st8 _ ?_
            show Steps p.tables e below (T8.setTop (mkF m 44 #[.val (.int p1), .val (.int p2), .val (.int p3), .val (.int p4), .val (.int p5), .val (.ref b3), .unset, .unset, .unset, .unset, .unset] [])) _
            refine XS.iloadN X8.here hx rfl (hb hby at_44) rfl ?_
            show Steps p.tables e below (T8.setTop (mkF m 45 #[.val (.int p1), .val (.int p2), .val (.int p3), .val (.int p4), .val (.int p5), .val (.ref b3), .unset, .unset, .unset, .unset, .unset] [(.int p3)])) _
            refine XS.i2b X8.here hx rfl (hb hby at_45) rfl ?_
            show Steps p.tables e below (T8.setTop (mkF m 46 #[.val (.int p1), .val (.int p2), .val (.int p3), .val (.int p4), .val (.int p5), .val (.ref b3), .unset, .unset, .unset, .unset, .unset] [(.int (p3.toInt8.toInt32))])) _
            refine XS.istore X8.here hx rfl (hb hby at_46) rfl (l' := #[.val (.int p1), .val (.int p2), .val (.int p3), .val (.int p4), .val (.int p5), .val (.ref b3), .val (.int (p3.toInt8.toInt32)), .unset, .unset, .unset, .unset]) rfl ?_
            show Steps p.tables e below (T8.setTop (mkF m 48 #[.val (.int p1), .val (.int p2), .val (.int p3), .val (.int p4), .val (.int p5), .val (.ref b3), .val (.int (p3.toInt8.toInt32)), .unset, .unset, .unset, .unset] [])) _
            rw [← hvv]
            show Steps p.tables e below (T8.setTop (mkF m 48 #[.val (.int p1), .val (.int p2), .val (.int p3), .val (.int p4), .val (.int p5), .val (.ref b3), .val (.int vv), .unset, .unset, .unset, .unset] [])) _
            refine XS.iloadN X8.here hx rfl (hb hby at_48) rfl ?_
            show Steps p.tables e below (T8.setTop (mkF m 49 #[.val (.int p1), .val (.int p2), .val (.int p3), .val (.int p4), .val (.int p5), .val (.ref b3), .val (.int vv), .unset, .unset, .unset, .unset] [(.int p4)])) _
            refine X8.ldcInt hx hown (mvT hZ (hw _ (List.mem_of_getElem? (i := 1) rfl))) (g := (mkF m 49 #[.val (.int p1), .val (.int p2), .val (.int p3), .val (.int p4), .val (.int p5), .val (.ref b3), .val (.int vv), .unset, .unset, .unset, .unset] [(.int p4)])) rfl (hb hby at_49) _ ?_
            show Steps p.tables e below (T8.setTop (mkF m 51 #[.val (.int p1), .val (.int p2), .val (.int p3), .val (.int p4), .val (.int p5), .val (.ref b3), .val (.int vv), .unset, .unset, .unset, .unset] [(.int (2147483647 : Int32)), (.int p4)])) _
            refine XS.iand X8.here hx rfl (hb hby at_51) rfl ?_
            show Steps p.tables e below (T8.setTop (mkF m 52 #[.val (.int p1), .val (.int p2), .val (.int p3), .val (.int p4), .val (.int p5), .val (.ref b3), .val (.int vv), .unset, .unset, .unset, .unset] [(.int (p4 &&& (2147483647 : Int32)))])) _
            refine XS.bipush X8.here hx rfl (hb hby at_52) ?_
            show Steps p.tables e below (T8.setTop (mkF m 54 #[.val (.int p1), .val (.int p2), .val (.int p3), .val (.int p4), .val (.int p5), .val (.ref b3), .val (.int vv), .unset, .unset, .unset, .unset] [(.int (6 : Int32)), (.int (p4 &&& (2147483647 : Int32)))])) _
            refine XS.irem X8.here hx rfl (hb hby at_54) rfl (by decide) ?_
            show Steps p.tables e below (T8.setTop (mkF m 55 #[.val (.int p1), .val (.int p2), .val (.int p3), .val (.int p4), .val (.int p5), .val (.ref b3), .val (.int vv), .unset, .unset, .unset, .unset] [(.int ((p4 &&& (2147483647 : Int32)) - ((p4 &&& (2147483647 : Int32)) / (6 : Int32)) * (6 : Int32)))])) _
            refine XS.istore X8.here hx rfl (hb hby at_55) rfl (l' := #[.val (.int p1), .val (.int p2), .val (.int p3), .val (.int p4), .val (.int p5), .val (.ref b3), .val (.int vv), .val (.int ((p4 &&& (2147483647 : Int32)) - ((p4 &&& (2147483647 : Int32)) / (6 : Int32)) * (6 : Int32))), .unset, .unset, .unset]) rfl ?_
            show Steps p.tables e below (T8.setTop (mkF m 57 #[.val (.int p1), .val (.int p2), .val (.int p3), .val (.int p4), .val (.int p5), .val (.ref b3), .val (.int vv), .val (.int ((p4 &&& (2147483647 : Int32)) - ((p4 &&& (2147483647 : Int32)) / (6 : Int32)) * (6 : Int32))), .unset, .unset, .unset] [])) _
            rw [ef]
            show Steps p.tables e below (T8.setTop (mkF m 57 #[.val (.int p1), .val (.int p2), .val (.int p3), .val (.int p4), .val (.int p5), .val (.ref b3), .val (.int vv), .val (.int (Int32.ofNat f)), .unset, .unset, .unset] [])) _
            refine XS.iload X8.here hx rfl (hb hby at_57) rfl ?_
            show Steps p.tables e below (T8.setTop (mkF m 59 #[.val (.int p1), .val (.int p2), .val (.int p3), .val (.int p4), .val (.int p5), .val (.ref b3), .val (.int vv), .val (.int (Int32.ofNat f)), .unset, .unset, .unset] [(.int p5)])) _
            refine X8.ldcInt hx hown (mvT hZ (hw _ (List.mem_of_getElem? (i := 1) rfl))) (g := (mkF m 59 #[.val (.int p1), .val (.int p2), .val (.int p3), .val (.int p4), .val (.int p5), .val (.ref b3), .val (.int vv), .val (.int (Int32.ofNat f)), .unset, .unset, .unset] [(.int p5)])) rfl (hb hby at_59) _ ?_
            show Steps p.tables e below (T8.setTop (mkF m 61 #[.val (.int p1), .val (.int p2), .val (.int p3), .val (.int p4), .val (.int p5), .val (.ref b3), .val (.int vv), .val (.int (Int32.ofNat f)), .unset, .unset, .unset] [(.int (2147483647 : Int32)), (.int p5)])) _
            refine XS.iand X8.here hx rfl (hb hby at_61) rfl ?_
            show Steps p.tables e below (T8.setTop (mkF m 62 #[.val (.int p1), .val (.int p2), .val (.int p3), .val (.int p4), .val (.int p5), .val (.ref b3), .val (.int vv), .val (.int (Int32.ofNat f)), .unset, .unset, .unset] [(.int (p5 &&& (2147483647 : Int32)))])) _
            refine XS.bipush X8.here hx rfl (hb hby at_62) ?_
            show Steps p.tables e below (T8.setTop (mkF m 64 #[.val (.int p1), .val (.int p2), .val (.int p3), .val (.int p4), .val (.int p5), .val (.ref b3), .val (.int vv), .val (.int (Int32.ofNat f)), .unset, .unset, .unset] [(.int (6 : Int32)), (.int (p5 &&& (2147483647 : Int32)))])) _
            refine XS.irem X8.here hx rfl (hb hby at_64) rfl (by decide) ?_
            show Steps p.tables e below (T8.setTop (mkF m 65 #[.val (.int p1), .val (.int p2), .val (.int p3), .val (.int p4), .val (.int p5), .val (.ref b3), .val (.int vv), .val (.int (Int32.ofNat f)), .unset, .unset, .unset] [(.int ((p5 &&& (2147483647 : Int32)) - ((p5 &&& (2147483647 : Int32)) / (6 : Int32)) * (6 : Int32)))])) _
            refine XS.istore X8.here hx rfl (hb hby at_65) rfl (l' := #[.val (.int p1), .val (.int p2), .val (.int p3), .val (.int p4), .val (.int p5), .val (.ref b3), .val (.int vv), .val (.int (Int32.ofNat f)), .val (.int ((p5 &&& (2147483647 : Int32)) - ((p5 &&& (2147483647 : Int32)) / (6 : Int32)) * (6 : Int32))), .unset, .unset]) rfl ?_
            show Steps p.tables e below (T8.setTop (mkF m 67 #[.val (.int p1), .val (.int p2), .val (.int p3), .val (.int p4), .val (.int p5), .val (.ref b3), .val (.int vv), .val (.int (Int32.ofNat f)), .val (.int ((p5 &&& (2147483647 : Int32)) - ((p5 &&& (2147483647 : Int32)) / (6 : Int32)) * (6 : Int32))), .unset, .unset] [])) _
            rw [et]
            show Steps p.tables e below (T8.setTop (mkF m 67 #[.val (.int p1), .val (.int p2), .val (.int p3), .val (.int p4), .val (.int p5), .val (.ref b3), .val (.int vv), .val (.int (Int32.ofNat f)), .val (.int (Int32.ofNat t)), .unset, .unset] [])) _
            refine XS.aload X8.here hx rfl (hb hby at_67) rfl rfl ?_
            show Steps p.tables e below (T8.setTop (mkF m 69 #[.val (.int p1), .val (.int p2), .val (.int p3), .val (.int p4), .val (.int p5), .val (.ref b3), .val (.int vv), .val (.int (Int32.ofNat f)), .val (.int (Int32.ofNat t)), .unset, .unset] [(.ref b3)])) _
            refine XS.iload X8.here hx rfl (hb hby at_69) rfl ?_
            show Steps p.tables e below (T8.setTop (mkF m 71 #[.val (.int p1), .val (.int p2), .val (.int p3), .val (.int p4), .val (.int p5), .val (.ref b3), .val (.int vv), .val (.int (Int32.ofNat f)), .val (.int (Int32.ofNat t)), .unset, .unset] [(.int vv), (.ref b3)])) _
            refine XS.iload X8.here hx rfl (hb hby at_71) rfl ?_
            show Steps p.tables e below (T8.setTop (mkF m 73 #[.val (.int p1), .val (.int p2), .val (.int p3), .val (.int p4), .val (.int p5), .val (.ref b3), .val (.int vv), .val (.int (Int32.ofNat f)), .val (.int (Int32.ofNat t)), .unset, .unset] [(.int (Int32.ofNat f)), (.int vv), (.ref b3)])) _
            refine XS.iload X8.here hx rfl (hb hby at_73) rfl ?_
            show Steps p.tables e below (T8.setTop (mkF m 75 #[.val (.int p1), .val (.int p2), .val (.int p3), .val (.int p4), .val (.int p5), .val (.ref b3), .val (.int vv), .val (.int (Int32.ofNat f)), .val (.int (Int32.ofNat t)), .unset, .unset] [(.int (Int32.ofNat t)), (.int (Int32.ofNat f)), (.int vv), (.ref b3)])) _
            refine st20 _ ?_
            show Steps p.tables e below (T20.setTop (mkF m 78 #[.val (.int p1), .val (.int p2), .val (.int p3), .val (.int p4), .val (.int p5), .val (.ref b3), .val (.int vv), .val (.int (Int32.ofNat f)), .val (.int (Int32.ofNat t)), .unset, .unset] [(.int (own_idx xs vv (t - f) f))])) _
            refine XS.istore X20.here hx rfl (hb hby at_78) rfl (l' := #[.val (.int p1), .val (.int p2), .val (.int p3), .val (.int p4), .val (.int p5), .val (.ref b3), .val (.int vv), .val (.int (Int32.ofNat f)), .val (.int (Int32.ofNat t)), .val (.int (own_idx xs vv (t - f) f)), .unset]) rfl ?_
            show Steps p.tables e below (T20.setTop (mkF m 80 #[.val (.int p1), .val (.int p2), .val (.int p3), .val (.int p4), .val (.int p5), .val (.ref b3), .val (.int vv), .val (.int (Int32.ofNat f)), .val (.int (Int32.ofNat t)), .val (.int (own_idx xs vv (t - f) f)), .unset] [])) _
            refine XS.aload X20.here hx rfl (hb hby at_80) rfl rfl ?_
            show Steps p.tables e below (T20.setTop (mkF m 82 #[.val (.int p1), .val (.int p2), .val (.int p3), .val (.int p4), .val (.int p5), .val (.ref b3), .val (.int vv), .val (.int (Int32.ofNat f)), .val (.int (Int32.ofNat t)), .val (.int (own_idx xs vv (t - f) f)), .unset] [(.ref b3)])) _
            refine XS.iconst X20.here hx rfl (hb hby at_82) ?_
            show Steps p.tables e below (T20.setTop (mkF m 83 #[.val (.int p1), .val (.int p2), .val (.int p3), .val (.int p4), .val (.int p5), .val (.ref b3), .val (.int vv), .val (.int (Int32.ofNat f)), .val (.int (Int32.ofNat t)), .val (.int (own_idx xs vv (t - f) f)), .unset] [(.int (0 : Int32)), (.ref b3)])) _
            refine XS.iload X20.here hx rfl (hb hby at_83) rfl ?_
            show Steps p.tables e below (T20.setTop (mkF m 85 #[.val (.int p1), .val (.int p2), .val (.int p3), .val (.int p4), .val (.int p5), .val (.ref b3), .val (.int vv), .val (.int (Int32.ofNat f)), .val (.int (Int32.ofNat t)), .val (.int (own_idx xs vv (t - f) f)), .unset] [(.int vv), (.int (0 : Int32)), (.ref b3)])) _
            refine XS.iload X20.here hx rfl (hb hby at_85) rfl ?_
            show Steps p.tables e below (T20.setTop (mkF m 87 #[.val (.int p1), .val (.int p2), .val (.int p3), .val (.int p4), .val (.int p5), .val (.ref b3), .val (.int vv), .val (.int (Int32.ofNat f)), .val (.int (Int32.ofNat t)), .val (.int (own_idx xs vv (t - f) f)), .unset] [(.int (Int32.ofNat f)), (.int vv), (.int (0 : Int32)), (.ref b3)])) _
            refine XS.iload X20.here hx rfl (hb hby at_87) rfl ?_
            show Steps p.tables e below (T20.setTop (mkF m 89 #[.val (.int p1), .val (.int p2), .val (.int p3), .val (.int p4), .val (.int p5), .val (.ref b3), .val (.int vv), .val (.int (Int32.ofNat f)), .val (.int (Int32.ofNat t)), .val (.int (own_idx xs vv (t - f) f)), .unset] [(.int (Int32.ofNat t)), (.int (Int32.ofNat f)), (.int vv), (.int (0 : Int32)), (.ref b3)])) _
            refine st30 _ ?_
            show Steps p.tables e below (T30.setTop (mkF m 92 #[.val (.int p1), .val (.int p2), .val (.int p3), .val (.int p4), .val (.int p5), .val (.ref b3), .val (.int vv), .val (.int (Int32.ofNat f)), .val (.int (Int32.ofNat t)), .val (.int (own_idx xs vv (t - f) f)), .unset] [(.int u0)])) _
            refine XS.ifYes X30.here hx rfl (pc0 := 92) (pc' := 101) rfl (hb hby at_92) rfl ((if0 _ _).trans (teq c0).1) (by decide) (by decide) ?_
            show Steps p.tables e below (T30.setTop (mkF m 101 #[.val (.int p1), .val (.int p2), .val (.int p3), .val (.int p4), .val (.int p5), .val (.ref b3), .val (.int vv), .val (.int (Int32.ofNat f)), .val (.int (Int32.ofNat t)), .val (.int (own_idx xs vv (t - f) f)), .unset] [])) _
            refine XS.aload X30.here hx rfl (hb hby at_101) rfl rfl ?_
            show Steps p.tables e below (T30.setTop (mkF m 103 #[.val (.int p1), .val (.int p2), .val (.int p3), .val (.int p4), .val (.int p5), .val (.ref b3), .val (.int vv), .val (.int (Int32.ofNat f)), .val (.int (Int32.ofNat t)), .val (.int (own_idx xs vv (t - f) f)), .unset] [(.ref b3)])) _
            refine XS.iconst X30.here hx rfl (hb hby at_103) ?_
            show Steps p.tables e below (T30.setTop (mkF m 104 #[.val (.int p1), .val (.int p2), .val (.int p3), .val (.int p4), .val (.int p5), .val (.ref b3), .val (.int vv), .val (.int (Int32.ofNat f)), .val (.int (Int32.ofNat t)), .val (.int (own_idx xs vv (t - f) f)), .unset] [(.int (1 : Int32)), (.ref b3)])) _
            refine XS.iload X30.here hx rfl (hb hby at_104) rfl ?_
            show Steps p.tables e below (T30.setTop (mkF m 106 #[.val (.int p1), .val (.int p2), .val (.int p3), .val (.int p4), .val (.int p5), .val (.ref b3), .val (.int vv), .val (.int (Int32.ofNat f)), .val (.int (Int32.ofNat t)), .val (.int (own_idx xs vv (t - f) f)), .unset] [(.int vv), (.int (1 : Int32)), (.ref b3)])) _
            refine XS.iload X30.here hx rfl (hb hby at_106) rfl ?_
            show Steps p.tables e below (T30.setTop (mkF m 108 #[.val (.int p1), .val (.int p2), .val (.int p3), .val (.int p4), .val (.int p5), .val (.ref b3), .val (.int vv), .val (.int (Int32.ofNat f)), .val (.int (Int32.ofNat t)), .val (.int (own_idx xs vv (t - f) f)), .unset] [(.int (Int32.ofNat f)), (.int vv), (.int (1 : Int32)), (.ref b3)])) _
            refine XS.iload X30.here hx rfl (hb hby at_108) rfl ?_
            show Steps p.tables e below (T30.setTop (mkF m 110 #[.val (.int p1), .val (.int p2), .val (.int p3), .val (.int p4), .val (.int p5), .val (.ref b3), .val (.int vv), .val (.int (Int32.ofNat f)), .val (.int (Int32.ofNat t)), .val (.int (own_idx xs vv (t - f) f)), .unset] [(.int (Int32.ofNat t)), (.int (Int32.ofNat f)), (.int vv), (.int (1 : Int32)), (.ref b3)])) _
            refine st31 _ ?_
            show Steps p.tables e below (T31.setTop (mkF m 113 #[.val (.int p1), .val (.int p2), .val (.int p3), .val (.int p4), .val (.int p5), .val (.ref b3), .val (.int vv), .val (.int (Int32.ofNat f)), .val (.int (Int32.ofNat t)), .val (.int (own_idx xs vv (t - f) f)), .unset] [(.int u1)])) _
            refine XS.ifYes X31.here hx rfl (pc0 := 113) (pc' := 122) rfl (hb hby at_113) rfl ((if0 _ _).trans (teq c1).1) (by decide) (by decide) ?_
            show Steps p.tables e below (T31.setTop (mkF m 122 #[.val (.int p1), .val (.int p2), .val (.int p3), .val (.int p4), .val (.int p5), .val (.ref b3), .val (.int vv), .val (.int (Int32.ofNat f)), .val (.int (Int32.ofNat t)), .val (.int (own_idx xs vv (t - f) f)), .unset] [])) _
            refine XS.aload X31.here hx rfl (hb hby at_122) rfl rfl ?_
            show Steps p.tables e below (T31.setTop (mkF m 124 #[.val (.int p1), .val (.int p2), .val (.int p3), .val (.int p4), .val (.int p5), .val (.ref b3), .val (.int vv), .val (.int (Int32.ofNat f)), .val (.int (Int32.ofNat t)), .val (.int (own_idx xs vv (t - f) f)), .unset] [(.ref b3)])) _
            refine XS.iconst X31.here hx rfl (hb hby at_124) ?_
            show Steps p.tables e below (T31.setTop (mkF m 125 #[.val (.int p1), .val (.int p2), .val (.int p3), .val (.int p4), .val (.int p5), .val (.ref b3), .val (.int vv), .val (.int (Int32.ofNat f)), .val (.int (Int32.ofNat t)), .val (.int (own_idx xs vv (t - f) f)), .unset] [(.int (2 : Int32)), (.ref b3)])) _
            refine XS.iload X31.here hx rfl (hb hby at_125) rfl ?_
            show Steps p.tables e below (T31.setTop (mkF m 127 #[.val (.int p1), .val (.int p2), .val (.int p3), .val (.int p4), .val (.int p5), .val (.ref b3), .val (.int vv), .val (.int (Int32.ofNat f)), .val (.int (Int32.ofNat t)), .val (.int (own_idx xs vv (t - f) f)), .unset] [(.int vv), (.int (2 : Int32)), (.ref b3)])) _
            refine XS.iload X31.here hx rfl (hb hby at_127) rfl ?_
            show Steps p.tables e below (T31.setTop (mkF m 129 #[.val (.int p1), .val (.int p2), .val (.int p3), .val (.int p4), .val (.int p5), .val (.ref b3), .val (.int vv), .val (.int (Int32.ofNat f)), .val (.int (Int32.ofNat t)), .val (.int (own_idx xs vv (t - f) f)), .unset] [(.int (Int32.ofNat f)), (.int vv), (.int (2 : Int32)), (.ref b3)])) _
            refine XS.iload X31.here hx rfl (hb hby at_129) rfl ?_
            show Steps p.tables e below (T31.setTop (mkF m 131 #[.val (.int p1), .val (.int p2), .val (.int p3), .val (.int p4), .val (.int p5), .val (.ref b3), .val (.int vv), .val (.int (Int32.ofNat f)), .val (.int (Int32.ofNat t)), .val (.int (own_idx xs vv (t - f) f)), .unset] [(.int (Int32.ofNat t)), (.int (Int32.ofNat f)), (.int vv), (.int (2 : Int32)), (.ref b3)])) _
            refine st32 _ ?_
            show Steps p.tables e below (T32.setTop (mkF m 134 #[.val (.int p1), .val (.int p2), .val (.int p3), .val (.int p4), .val (.int p5), .val (.ref b3), .val (.int vv), .val (.int (Int32.ofNat f)), .val (.int (Int32.ofNat t)), .val (.int (own_idx xs vv (t - f) f)), .unset] [(.int u2)])) _
            refine XS.ifYes X32.here hx rfl (pc0 := 134) (pc' := 143) rfl (hb hby at_134) rfl ((if0 _ _).trans (teq c2).1) (by decide) (by decide) ?_
            show Steps p.tables e below (T32.setTop (mkF m 143 #[.val (.int p1), .val (.int p2), .val (.int p3), .val (.int p4), .val (.int p5), .val (.ref b3), .val (.int vv), .val (.int (Int32.ofNat f)), .val (.int (Int32.ofNat t)), .val (.int (own_idx xs vv (t - f) f)), .unset] [])) _
            refine XS.aload X32.here hx rfl (hb hby at_143) rfl rfl ?_
            show Steps p.tables e below (T32.setTop (mkF m 145 #[.val (.int p1), .val (.int p2), .val (.int p3), .val (.int p4), .val (.int p5), .val (.ref b3), .val (.int vv), .val (.int (Int32.ofNat f)), .val (.int (Int32.ofNat t)), .val (.int (own_idx xs vv (t - f) f)), .unset] [(.ref b3)])) _
            refine XS.iconst X32.here hx rfl (hb hby at_145) ?_
            show Steps p.tables e below (T32.setTop (mkF m 146 #[.val (.int p1), .val (.int p2), .val (.int p3), .val (.int p4), .val (.int p5), .val (.ref b3), .val (.int vv), .val (.int (Int32.ofNat f)), .val (.int (Int32.ofNat t)), .val (.int (own_idx xs vv (t - f) f)), .unset] [(.int (3 : Int32)), (.ref b3)])) _
            refine XS.iload X32.here hx rfl (hb hby at_146) rfl ?_
            show Steps p.tables e below (T32.setTop (mkF m 148 #[.val (.int p1), .val (.int p2), .val (.int p3), .val (.int p4), .val (.int p5), .val (.ref b3), .val (.int vv), .val (.int (Int32.ofNat f)), .val (.int (Int32.ofNat t)), .val (.int (own_idx xs vv (t - f) f)), .unset] [(.int vv), (.int (3 : Int32)), (.ref b3)])) _
            refine XS.iload X32.here hx rfl (hb hby at_148) rfl ?_
            show Steps p.tables e below (T32.setTop (mkF m 150 #[.val (.int p1), .val (.int p2), .val (.int p3), .val (.int p4), .val (.int p5), .val (.ref b3), .val (.int vv), .val (.int (Int32.ofNat f)), .val (.int (Int32.ofNat t)), .val (.int (own_idx xs vv (t - f) f)), .unset] [(.int (Int32.ofNat f)), (.int vv), (.int (3 : Int32)), (.ref b3)])) _
            refine XS.iload X32.here hx rfl (hb hby at_150) rfl ?_
            show Steps p.tables e below (T32.setTop (mkF m 152 #[.val (.int p1), .val (.int p2), .val (.int p3), .val (.int p4), .val (.int p5), .val (.ref b3), .val (.int vv), .val (.int (Int32.ofNat f)), .val (.int (Int32.ofNat t)), .val (.int (own_idx xs vv (t - f) f)), .unset] [(.int (Int32.ofNat t)), (.int (Int32.ofNat f)), (.int vv), (.int (3 : Int32)), (.ref b3)])) _
            refine st33 _ ?_
            show Steps p.tables e below (T33.setTop (mkF m 155 #[.val (.int p1), .val (.int p2), .val (.int p3), .val (.int p4), .val (.int p5), .val (.ref b3), .val (.int vv), .val (.int (Int32.ofNat f)), .val (.int (Int32.ofNat t)), .val (.int (own_idx xs vv (t - f) f)), .unset] [(.int u3)])) _
            refine XS.ifNo X33.here hx rfl (hb hby at_155) rfl ((if0 _ _).trans (feq c3).1) ?_
            show Steps p.tables e below (T33.setTop (mkF m 158 #[.val (.int p1), .val (.int p2), .val (.int p3), .val (.int p4), .val (.int p5), .val (.ref b3), .val (.int vv), .val (.int (Int32.ofNat f)), .val (.int (Int32.ofNat t)), .val (.int (own_idx xs vv (t - f) f)), .unset] [])) _
            refine XS.iconst X33.here hx rfl (hb hby at_158) ?_
            show Steps p.tables e below (T33.setTop (mkF m 159 #[.val (.int p1), .val (.int p2), .val (.int p3), .val (.int p4), .val (.int p5), .val (.ref b3), .val (.int vv), .val (.int (Int32.ofNat f)), .val (.int (Int32.ofNat t)), .val (.int (own_idx xs vv (t - f) f)), .unset] [(.int (3 : Int32))])) _
            refine XS.istore X33.here hx rfl (hb hby at_159) rfl (l' := #[.val (.int p1), .val (.int p2), .val (.int p3), .val (.int p4), .val (.int p5), .val (.ref b3), .val (.int vv), .val (.int (Int32.ofNat f)), .val (.int (Int32.ofNat t)), .val (.int (own_idx xs vv (t - f) f)), .val (.int (3 : Int32))]) rfl ?_
            show Steps p.tables e below (T33.setTop (mkF m 161 #[.val (.int p1), .val (.int p2), .val (.int p3), .val (.int p4), .val (.int p5), .val (.ref b3), .val (.int vv), .val (.int (Int32.ofNat f)), .val (.int (Int32.ofNat t)), .val (.int (own_idx xs vv (t - f) f)), .val (.int (3 : Int32))] [])) _
            refine XS.goto X33.here hx rfl (pc0 := 161) (pc' := 188) rfl (hb hby at_161) (by decide) (by decide) ?_
            show Steps p.tables e below (T33.setTop (mkF m 188 #[.val (.int p1), .val (.int p2), .val (.int p3), .val (.int p4), .val (.int p5), .val (.ref b3), .val (.int vv), .val (.int (Int32.ofNat f)), .val (.int (Int32.ofNat t)), .val (.int (own_idx xs vv (t - f) f)), .val (.int (3 : Int32))] [])) _
            refine XS.iload X33.here hx rfl (hb hby at_188) rfl ?_
            show Steps p.tables e below (T33.setTop (mkF m 190 #[.val (.int p1), .val (.int p2), .val (.int p3), .val (.int p4), .val (.int p5), .val (.ref b3), .val (.int vv), .val (.int (Int32.ofNat f)), .val (.int (Int32.ofNat t)), .val (.int (own_idx xs vv (t - f) f)), .val (.int (3 : Int32))] [(.int (own_idx xs vv (t - f) f))])) _
            refine XS.iload X33.here hx rfl (hb hby at_190) rfl ?_
            show Steps p.tables e below (T33.setTop (mkF m 192 #[.val (.int p1), .val (.int p2), .val (.int p3), .val (.int p4), .val (.int p5), .val (.ref b3), .val (.int vv), .val (.int (Int32.ofNat f)), .val (.int (Int32.ofNat t)), .val (.int (own_idx xs vv (t - f) f)), .val (.int (3 : Int32))] [(.int (3 : Int32)), (.int (own_idx xs vv (t - f) f))])) _
            refine XS.icmpNo X33.here hx rfl (hb hby at_192) rfl (teq k1).2 ?_
            show Steps p.tables e below (T33.setTop (mkF m 195 #[.val (.int p1), .val (.int p2), .val (.int p3), .val (.int p4), .val (.int p5), .val (.ref b3), .val (.int vv), .val (.int (Int32.ofNat f)), .val (.int (Int32.ofNat t)), .val (.int (own_idx xs vv (t - f) f)), .val (.int (3 : Int32))] [])) _
            refine XS.iconst X33.here hx rfl (hb hby at_195) ?_
            show Steps p.tables e below (T33.setTop (mkF m 196 #[.val (.int p1), .val (.int p2), .val (.int p3), .val (.int p4), .val (.int p5), .val (.ref b3), .val (.int vv), .val (.int (Int32.ofNat f)), .val (.int (Int32.ofNat t)), .val (.int (own_idx xs vv (t - f) f)), .val (.int (3 : Int32))] [(.int (1 : Int32))])) _
            refine XS.goto X33.here hx rfl (pc0 := 196) (pc' := 200) rfl (hb hby at_196) (by decide) (by decide) ?_
            show Steps p.tables e below (T33.setTop (mkF m 200 #[.val (.int p1), .val (.int p2), .val (.int p3), .val (.int p4), .val (.int p5), .val (.ref b3), .val (.int vv), .val (.int (Int32.ofNat f)), .val (.int (Int32.ofNat t)), .val (.int (own_idx xs vv (t - f) f)), .val (.int (3 : Int32))] [(.int (1 : Int32))])) _
            exact retN X33 hx (t := .boolean) Bd.returns (by simp) (hb hby at_200) hr
          · show Q0 Z p1 p2 p3 p4 p5 h0 n0 _ T33.heap _
            exact ⟨rfl, N33⟩
      · have k1 : (own_idx xs vv (t - f) f) = (2 : Int32) := own_at 2 (Classical.byContradiction fun q => c2 (z2.mpr q)) (fun q hq => by
          have e : q = 0 ∨ q = 1 := by omega
          rcases e with rfl | rfl
          · exact z0.mp c0
          · exact z1.mp c1)
        obtain ⟨fs, hr, hrun, hended, hW, hsame⟩ := X32.leave (v := some (.int (1 : Int32))) (fun h => by rw [Bd.returns] at h; cases h)
        refine ⟨_, _, pre0 _ ?_, hrun, hended, _, _, rfl, ?_, ⟨_, rfl⟩, hW, hsame.mono (by decide) (by decide)⟩
        · show Steps p.tables e below (s₁.setTop (mkF m 0 #[.val (.int p1), .val (.int p2), .val (.int p3), .val (.int p4), .val (.int p5), .unset, .unset, .unset, .unset, .unset, .unset] [])) _
          refine XS.iconst X0.here hx rfl (hb hby at_0) ?_
          show Steps p.tables e below (s₁.setTop (mkF m 1 #[.val (.int p1), .val (.int p2), .val (.int p3), .val (.int p4), .val (.int p5), .unset, .unset, .unset, .unset, .unset, .unset] [(.int (5 : Int32))])) _
          refine st3 _ ?_
          show Steps p.tables e below (T3.setTop (mkF m 3 #[.val (.int p1), .val (.int p2), .val (.int p3), .val (.int p4), .val (.int p5), .unset, .unset, .unset, .unset, .unset, .unset] [(.ref b3)])) _
          refine XS.astore X3.here hx rfl (hb hby at_3) rfl rfl (l' := #[.val (.int p1), .val (.int p2), .val (.int p3), .val (.int p4), .val (.int p5), .val (.ref b3), .unset, .unset, .unset, .unset, .unset]) rfl ?_
          show Steps p.tables e below (T3.setTop (mkF m 5 #[.val (.int p1), .val (.int p2), .val (.int p3), .val (.int p4), .val (.int p5), .val (.ref b3), .unset, .unset, .unset, .unset, .unset] [])) _
          refine XS.aload X3.here hx rfl (hb hby at_5) rfl rfl ?_
          show Steps p.tables e below (T3.setTop (mkF m 7 #[.val (.int p1), .val (.int p2), .val (.int p3), .val (.int p4), .val (.int p5), .val (.ref b3), .unset, .unset, .unset, .unset, .unset] [(.ref b3)])) _
          refine XS.iconst X3.here hx rfl (hb hby at_7) ?_
          show Steps p.tables e below (T3.setTop (mkF m 8 #[.val (.int p1), .val (.int p2), .val (.int p3), .val (.int p4), .val (.int p5), .val (.ref b3), .unset, .unset, .unset, .unset, .unset] [(.int (0 : Int32)), (.ref b3)])) _
          refine XS.iloadN X3.here hx rfl (hb hby at_8) rfl ?_
          show Steps p.tables e below (T3.setTop (mkF m 9 #[.val (.int p1), .val (.int p2), .val (.int p3), .val (.int p4), .val (.int p5), .val (.ref b3), .unset, .unset, .unset, .unset, .unset] [(.int p1), (.int (0 : Int32)), (.ref b3)])) _
          refine XS.i2b X3.here hx rfl (hb hby at_9) rfl ?_
          show Steps p.tables e below (T3.setTop (mkF m 10 #[.val (.int p1), .val (.int p2), .val (.int p3), .val (.int p4), .val (.int p5), .val (.ref b3), .unset, .unset, .unset, .unset, .unset] [(.int (p1.toInt8.toInt32)), (.int (0 : Int32)), (.ref b3)])) _
          rw [← hx0]
          show Steps p.tables e below (T3.setTop (mkF m 10 #[.val (.int p1), .val (.int p2), .val (.int p3), .val (.int p4), .val (.int p5), .val (.ref b3), .unset, .unset, .unset, .unset, .unset] [(.int x0), (.int (0 : Int32)), (.ref b3)])) _
          refine st4 _ ?_
          show Steps p.tables e below (T4.setTop (mkF m 11 #[.val (.int p1), .val (.int p2), .val (.int p3), .val (.int p4), .val (.int p5), .val (.ref b3), .unset, .unset, .unset, .unset, .unset] [])) _
          refine XS.aload X4.here hx rfl (hb hby at_11) rfl rfl ?_
          show Steps p.tables e below (T4.setTop (mkF m 13 #[.val (.int p1), .val (.int p2), .val (.int p3), .val (.int p4), .val (.int p5), .val (.ref b3), .unset, .unset, .unset, .unset, .unset] [(.ref b3)])) _
          refine XS.iconst X4.here hx rfl (hb hby at_13) ?_
          show Steps p.tables e below (T4.setTop (mkF m 14 #[.val (.int p1), .val (.int p2), .val (.int p3), .val (.int p4), .val (.int p5), .val (.ref b3), .unset, .unset, .unset, .unset, .unset] [(.int (1 : Int32)), (.ref b3)])) _
          refine XS.iloadN X4.here hx rfl (hb hby at_14) rfl ?_
          show Steps p.tables e below (T4.setTop (mkF m 15 #[.val (.int p1), .val (.int p2), .val (.int p3), .val (.int p4), .val (.int p5), .val (.ref b3), .unset, .unset, .unset, .unset, .unset] [(.int p1), (.int (1 : Int32)), (.ref b3)])) _
          refine XS.bipush X4.here hx rfl (hb hby at_15) ?_
          show Steps p.tables e below (T4.setTop (mkF m 17 #[.val (.int p1), .val (.int p2), .val (.int p3), .val (.int p4), .val (.int p5), .val (.ref b3), .unset, .unset, .unset, .unset, .unset] [(.int (8 : Int32)), (.int p1), (.int (1 : Int32)), (.ref b3)])) _
          refine XS.ishr X4.here hx rfl (hb hby at_17) rfl ?_
          show Steps p.tables e below (T4.setTop (mkF m 18 #[.val (.int p1), .val (.int p2), .val (.int p3), .val (.int p4), .val (.int p5), .val (.ref b3), .unset, .unset, .unset, .unset, .unset] [(.int (p1 >>> ((8 : Int32) &&& 31))), (.int (1 : Int32)), (.ref b3)])) _
          refine XS.i2b X4.here hx rfl (hb hby at_18) rfl ?_
          show Steps p.tables e below (T4.setTop (mkF m 19 #[.val (.int p1), .val (.int p2), .val (.int p3), .val (.int p4), .val (.int p5), .val (.ref b3), .unset, .unset, .unset, .unset, .unset] [(.int ((p1 >>> ((8 : Int32) &&& 31)).toInt8.toInt32)), (.int (1 : Int32)), (.ref b3)])) _
          rw [← hx1]
          show Steps p.tables e below (T4.setTop (mkF m 19 #[.val (.int p1), .val (.int p2), .val (.int p3), .val (.int p4), .val (.int p5), .val (.ref b3), .unset, .unset, .unset, .unset, .unset] [(.int x1), (.int (1 : Int32)), (.ref b3)])) _
          refine st5 _ ?_
          show Steps p.tables e below (T5.setTop (mkF m 20 #[.val (.int p1), .val (.int p2), .val (.int p3), .val (.int p4), .val (.int p5), .val (.ref b3), .unset, .unset, .unset, .unset, .unset] [])) _
          refine XS.aload X5.here hx rfl (hb hby at_20) rfl rfl ?_
          show Steps p.tables e below (T5.setTop (mkF m 22 #[.val (.int p1), .val (.int p2), .val (.int p3), .val (.int p4), .val (.int p5), .val (.ref b3), .unset, .unset, .unset, .unset, .unset] [(.ref b3)])) _
          refine XS.iconst X5.here hx rfl (hb hby at_22) ?_
          show Steps p.tables e below (T5.setTop (mkF m 23 #[.val (.int p1), .val (.int p2), .val (.int p3), .val (.int p4), .val (.int p5), .val (.ref b3), .unset, .unset, .unset, .unset, .unset] [(.int (2 : Int32)), (.ref b3)])) _
          refine XS.iloadN X5.here hx rfl (hb hby at_23) rfl ?_
          show Steps p.tables e below (T5.setTop (mkF m 24 #[.val (.int p1), .val (.int p2), .val (.int p3), .val (.int p4), .val (.int p5), .val (.ref b3), .unset, .unset, .unset, .unset, .unset] [(.int p1), (.int (2 : Int32)), (.ref b3)])) _
          refine XS.bipush X5.here hx rfl (hb hby at_24) ?_
          show Steps p.tables e below (T5.setTop (mkF m 26 #[.val (.int p1), .val (.int p2), .val (.int p3), .val (.int p4), .val (.int p5), .val (.ref b3), .unset, .unset, .unset, .unset, .unset] [(.int (16 : Int32)), (.int p1), (.int (2 : Int32)), (.ref b3)])) _
          refine XS.ishr X5.here hx rfl (hb hby at_26) rfl ?_
          show Steps p.tables e below (T5.setTop (mkF m 27 #[.val (.int p1), .val (.int p2), .val (.int p3), .val (.int p4), .val (.int p5), .val (.ref b3), .unset, .unset, .unset, .unset, .unset] [(.int (p1 >>> ((16 : Int32) &&& 31))), (.int (2 : Int32)), (.ref b3)])) _
          refine XS.i2b X5.here hx rfl (hb hby at_27) rfl ?_
          show Steps p.tables e below (T5.setTop (mkF m 28 #[.val (.int p1), .val (.int p2), .val (.int p3), .val (.int p4), .val (.int p5), .val (.ref b3), .unset, .unset, .unset, .unset, .unset] [(.int ((p1 >>> ((16 : Int32) &&& 31)).toInt8.toInt32)), (.int (2 : Int32)), (.ref b3)])) _
          rw [← hx2]
          show Steps p.tables e below (T5.setTop (mkF m 28 #[.val (.int p1), .val (.int p2), .val (.int p3), .val (.int p4), .val (.int p5), .val (.ref b3), .unset, .unset, .unset, .unset, .unset] [(.int x2), (.int (2 : Int32)), (.ref b3)])) _
          refine st6 _ ?_
          show Steps p.tables e below (T6.setTop (mkF m 29 #[.val (.int p1), .val (.int p2), .val (.int p3), .val (.int p4), .val (.int p5), .val (.ref b3), .unset, .unset, .unset, .unset, .unset] [])) _
          refine XS.aload X6.here hx rfl (hb hby at_29) rfl rfl ?_
          show Steps p.tables e below (T6.setTop (mkF m 31 #[.val (.int p1), .val (.int p2), .val (.int p3), .val (.int p4), .val (.int p5), .val (.ref b3), .unset, .unset, .unset, .unset, .unset] [(.ref b3)])) _
          refine XS.iconst X6.here hx rfl (hb hby at_31) ?_
          show Steps p.tables e below (T6.setTop (mkF m 32 #[.val (.int p1), .val (.int p2), .val (.int p3), .val (.int p4), .val (.int p5), .val (.ref b3), .unset, .unset, .unset, .unset, .unset] [(.int (3 : Int32)), (.ref b3)])) _
          refine XS.iloadN X6.here hx rfl (hb hby at_32) rfl ?_
          show Steps p.tables e below (T6.setTop (mkF m 33 #[.val (.int p1), .val (.int p2), .val (.int p3), .val (.int p4), .val (.int p5), .val (.ref b3), .unset, .unset, .unset, .unset, .unset] [(.int p1), (.int (3 : Int32)), (.ref b3)])) _
          refine XS.bipush X6.here hx rfl (hb hby at_33) ?_
          show Steps p.tables e below (T6.setTop (mkF m 35 #[.val (.int p1), .val (.int p2), .val (.int p3), .val (.int p4), .val (.int p5), .val (.ref b3), .unset, .unset, .unset, .unset, .unset] [(.int (24 : Int32)), (.int p1), (.int (3 : Int32)), (.ref b3)])) _
          refine XS.iushr X6.here hx rfl (hb hby at_35) rfl ?_
          show Steps p.tables e below (T6.setTop (mkF m 36 #[.val (.int p1), .val (.int p2), .val (.int p3), .val (.int p4), .val (.int p5), .val (.ref b3), .unset, .unset, .unset, .unset, .unset] [(.int ((p1.toUInt32 >>> ((24 : Int32) &&& 31).toUInt32).toInt32)), (.int (3 : Int32)), (.ref b3)])) _
          refine XS.i2b X6.here hx rfl (hb hby at_36) rfl ?_
          show Steps p.tables e below (T6.setTop (mkF m 37 #[.val (.int p1), .val (.int p2), .val (.int p3), .val (.int p4), .val (.int p5), .val (.ref b3), .unset, .unset, .unset, .unset, .unset] [(.int (((p1.toUInt32 >>> ((24 : Int32) &&& 31).toUInt32).toInt32).toInt8.toInt32)), (.int (3 : Int32)), (.ref b3)])) _
          rw [← hx3]
          show Steps p.tables e below (T6.setTop (mkF m 37 #[.val (.int p1), .val (.int p2), .val (.int p3), .val (.int p4), .val (.int p5), .val (.ref b3), .unset, .unset, .unset, .unset, .unset] [(.int x3), (.int (3 : Int32)), (.ref b3)])) _
          refine st7 _ ?_
          show Steps p.tables e below (T7.setTop (mkF m 38 #[.val (.int p1), .val (.int p2), .val (.int p3), .val (.int p4), .val (.int p5), .val (.ref b3), .unset, .unset, .unset, .unset, .unset] [])) _
          refine XS.aload X7.here hx rfl (hb hby at_38) rfl rfl ?_
          show Steps p.tables e below (T7.setTop (mkF m 40 #[.val (.int p1), .val (.int p2), .val (.int p3), .val (.int p4), .val (.int p5), .val (.ref b3), .unset, .unset, .unset, .unset, .unset] [(.ref b3)])) _
          refine XS.iconst X7.here hx rfl (hb hby at_40) ?_
          show Steps p.tables e below (T7.setTop (mkF m 41 #[.val (.int p1), .val (.int p2), .val (.int p3), .val (.int p4), .val (.int p5), .val (.ref b3), .unset, .unset, .unset, .unset, .unset] [(.int (4 : Int32)), (.ref b3)])) _
          refine XS.iloadN X7.here hx rfl (hb hby at_41) rfl ?_
          show Steps p.tables e below (T7.setTop (mkF m 42 #[.val (.int p1), .val (.int p2), .val (.int p3), .val (.int p4), .val (.int p5), .val (.ref b3), .unset, .unset, .unset, .unset, .unset] [(.int p2), (.int (4 : Int32)), (.ref b3)])) _
          refine XS.i2b X7.here hx rfl (hb hby at_42) rfl ?_
          show Steps p.tables e below (T7.setTop (mkF m 43 #[.val (.int p1), .val (.int p2), .val (.int p3), .val (.int p4), .val (.int p5), .val (.ref b3), .unset, .unset, .unset, .unset, .unset] [(.int (p2.toInt8.toInt32)), (.int (4 : Int32)), (.ref b3)])) _
          rw [← hx4]
          show Steps p.tables e below (T7.setTop (mkF m 43 #[.val (.int p1), .val (.int p2), .val (.int p3), .val (.int p4), .val (.int p5), .val (.ref b3), .unset, .unset, .unset, .unset, .unset] [(.int x4), (.int (4 : Int32)), (.ref b3)])) _
          refine st8 _ ?_
          show Steps p.tables e below (T8.setTop (mkF m 44 #[.val (.int p1), .val (.int p2), .val (.int p3), .val (.int p4), .val (.int p5), .val (.ref b3), .unset, .unset, .unset, .unset, .unset] [])) _
          refine XS.iloadN X8.here hx rfl (hb hby at_44) rfl ?_
          show Steps p.tables e below (T8.setTop (mkF m 45 #[.val (.int p1), .val (.int p2), .val (.int p3), .val (.int p4), .val (.int p5), .val (.ref b3), .unset, .unset, .unset, .unset, .unset] [(.int p3)])) _
          refine XS.i2b X8.here hx rfl (hb hby at_45) rfl ?_
          show Steps p.tables e below (T8.setTop (mkF m 46 #[.val (.int p1), .val (.int p2), .val (.int p3), .val (.int p4), .val (.int p5), .val (.ref b3), .unset, .unset, .unset, .unset, .unset] [(.int (p3.toInt8.toInt32))])) _
          refine XS.istore X8.here hx rfl (hb hby at_46) rfl (l' := #[.val (.int p1), .val (.int p2), .val (.int p3), .val (.int p4), .val (.int p5), .val (.ref b3), .val (.int (p3.toInt8.toInt32)), .unset, .unset, .unset, .unset]) rfl ?_
          show Steps p.tables e below (T8.setTop (mkF m 48 #[.val (.int p1), .val (.int p2), .val (.int p3), .val (.int p4), .val (.int p5), .val (.ref b3), .val (.int (p3.toInt8.toInt32)), .unset, .unset, .unset, .unset] [])) _
          rw [← hvv]
          show Steps p.tables e below (T8.setTop (mkF m 48 #[.val (.int p1), .val (.int p2), .val (.int p3), .val (.int p4), .val (.int p5), .val (.ref b3), .val (.int vv), .unset, .unset, .unset, .unset] [])) _
          refine XS.iloadN X8.here hx rfl (hb hby at_48) rfl ?_
          show Steps p.tables e below (T8.setTop (mkF m 49 #[.val (.int p1), .val (.int p2), .val (.int p3), .val (.int p4), .val (.int p5), .val (.ref b3), .val (.int vv), .unset, .unset, .unset, .unset] [(.int p4)])) _
          refine X8.ldcInt hx hown (mvT hZ (hw _ (List.mem_of_getElem? (i := 1) rfl))) (g := (mkF m 49 #[.val (.int p1), .val (.int p2), .val (.int p3), .val (.int p4), .val (.int p5), .val (.ref b3), .val (.int vv), .unset, .unset, .unset, .unset] [(.int p4)])) rfl (hb hby at_49) _ ?_
          show Steps p.tables e below (T8.setTop (mkF m 51 #[.val (.int p1), .val (.int p2), .val (.int p3), .val (.int p4), .val (.int p5), .val (.ref b3), .val (.int vv), .unset, .unset, .unset, .unset] [(.int (2147483647 : Int32)), (.int p4)])) _
          refine XS.iand X8.here hx rfl (hb hby at_51) rfl ?_
          show Steps p.tables e below (T8.setTop (mkF m 52 #[.val (.int p1), .val (.int p2), .val (.int p3), .val (.int p4), .val (.int p5), .val (.ref b3), .val (.int vv), .unset, .unset, .unset, .unset] [(.int (p4 &&& (2147483647 : Int32)))])) _
          refine XS.bipush X8.here hx rfl (hb hby at_52) ?_
          show Steps p.tables e below (T8.setTop (mkF m 54 #[.val (.int p1), .val (.int p2), .val (.int p3), .val (.int p4), .val (.int p5), .val (.ref b3), .val (.int vv), .unset, .unset, .unset, .unset] [(.int (6 : Int32)), (.int (p4 &&& (2147483647 : Int32)))])) _
          refine XS.irem X8.here hx rfl (hb hby at_54) rfl (by decide) ?_
          show Steps p.tables e below (T8.setTop (mkF m 55 #[.val (.int p1), .val (.int p2), .val (.int p3), .val (.int p4), .val (.int p5), .val (.ref b3), .val (.int vv), .unset, .unset, .unset, .unset] [(.int ((p4 &&& (2147483647 : Int32)) - ((p4 &&& (2147483647 : Int32)) / (6 : Int32)) * (6 : Int32)))])) _
          refine XS.istore X8.here hx rfl (hb hby at_55) rfl (l' := #[.val (.int p1), .val (.int p2), .val (.int p3), .val (.int p4), .val (.int p5), .val (.ref b3), .val (.int vv), .val (.int ((p4 &&& (2147483647 : Int32)) - ((p4 &&& (2147483647 : Int32)) / (6 : Int32)) * (6 : Int32))), .unset, .unset, .unset]) rfl ?_
          show Steps p.tables e below (T8.setTop (mkF m 57 #[.val (.int p1), .val (.int p2), .val (.int p3), .val (.int p4), .val (.int p5), .val (.ref b3), .val (.int vv), .val (.int ((p4 &&& (2147483647 : Int32)) - ((p4 &&& (2147483647 : Int32)) / (6 : Int32)) * (6 : Int32))), .unset, .unset, .unset] [])) _
          rw [ef]
          show Steps p.tables e below (T8.setTop (mkF m 57 #[.val (.int p1), .val (.int p2), .val (.int p3), .val (.int p4), .val (.int p5), .val (.ref b3), .val (.int vv), .val (.int (Int32.ofNat f)), .unset, .unset, .unset] [])) _
          refine XS.iload X8.here hx rfl (hb hby at_57) rfl ?_
          show Steps p.tables e below (T8.setTop (mkF m 59 #[.val (.int p1), .val (.int p2), .val (.int p3), .val (.int p4), .val (.int p5), .val (.ref b3), .val (.int vv), .val (.int (Int32.ofNat f)), .unset, .unset, .unset] [(.int p5)])) _
          refine X8.ldcInt hx hown (mvT hZ (hw _ (List.mem_of_getElem? (i := 1) rfl))) (g := (mkF m 59 #[.val (.int p1), .val (.int p2), .val (.int p3), .val (.int p4), .val (.int p5), .val (.ref b3), .val (.int vv), .val (.int (Int32.ofNat f)), .unset, .unset, .unset] [(.int p5)])) rfl (hb hby at_59) _ ?_
          show Steps p.tables e below (T8.setTop (mkF m 61 #[.val (.int p1), .val (.int p2), .val (.int p3), .val (.int p4), .val (.int p5), .val (.ref b3), .val (.int vv), .val (.int (Int32.ofNat f)), .unset, .unset, .unset] [(.int (2147483647 : Int32)), (.int p5)])) _
          refine XS.iand X8.here hx rfl (hb hby at_61) rfl ?_
          show Steps p.tables e below (T8.setTop (mkF m 62 #[.val (.int p1), .val (.int p2), .val (.int p3), .val (.int p4), .val (.int p5), .val (.ref b3), .val (.int vv), .val (.int (Int32.ofNat f)), .unset, .unset, .unset] [(.int (p5 &&& (2147483647 : Int32)))])) _
          refine XS.bipush X8.here hx rfl (hb hby at_62) ?_
          show Steps p.tables e below (T8.setTop (mkF m 64 #[.val (.int p1), .val (.int p2), .val (.int p3), .val (.int p4), .val (.int p5), .val (.ref b3), .val (.int vv), .val (.int (Int32.ofNat f)), .unset, .unset, .unset] [(.int (6 : Int32)), (.int (p5 &&& (2147483647 : Int32)))])) _
          refine XS.irem X8.here hx rfl (hb hby at_64) rfl (by decide) ?_
          show Steps p.tables e below (T8.setTop (mkF m 65 #[.val (.int p1), .val (.int p2), .val (.int p3), .val (.int p4), .val (.int p5), .val (.ref b3), .val (.int vv), .val (.int (Int32.ofNat f)), .unset, .unset, .unset] [(.int ((p5 &&& (2147483647 : Int32)) - ((p5 &&& (2147483647 : Int32)) / (6 : Int32)) * (6 : Int32)))])) _
          refine XS.istore X8.here hx rfl (hb hby at_65) rfl (l' := #[.val (.int p1), .val (.int p2), .val (.int p3), .val (.int p4), .val (.int p5), .val (.ref b3), .val (.int vv), .val (.int (Int32.ofNat f)), .val (.int ((p5 &&& (2147483647 : Int32)) - ((p5 &&& (2147483647 : Int32)) / (6 : Int32)) * (6 : Int32))), .unset, .unset]) rfl ?_
          show Steps p.tables e below (T8.setTop (mkF m 67 #[.val (.int p1), .val (.int p2), .val (.int p3), .val (.int p4), .val (.int p5), .val (.ref b3), .val (.int vv), .val (.int (Int32.ofNat f)), .val (.int ((p5 &&& (2147483647 : Int32)) - ((p5 &&& (2147483647 : Int32)) / (6 : Int32)) * (6 : Int32))), .unset, .unset] [])) _
          rw [et]
          show Steps p.tables e below (T8.setTop (mkF m 67 #[.val (.int p1), .val (.int p2), .val (.int p3), .val (.int p4), .val (.int p5), .val (.ref b3), .val (.int vv), .val (.int (Int32.ofNat f)), .val (.int (Int32.ofNat t)), .unset, .unset] [])) _
          refine XS.aload X8.here hx rfl (hb hby at_67) rfl rfl ?_
          show Steps p.tables e below (T8.setTop (mkF m 69 #[.val (.int p1), .val (.int p2), .val (.int p3), .val (.int p4), .val (.int p5), .val (.ref b3), .val (.int vv), .val (.int (Int32.ofNat f)), .val (.int (Int32.ofNat t)), .unset, .unset] [(.ref b3)])) _
          refine XS.iload X8.here hx rfl (hb hby at_69) rfl ?_
          show Steps p.tables e below (T8.setTop (mkF m 71 #[.val (.int p1), .val (.int p2), .val (.int p3), .val (.int p4), .val (.int p5), .val (.ref b3), .val (.int vv), .val (.int (Int32.ofNat f)), .val (.int (Int32.ofNat t)), .unset, .unset] [(.int vv), (.ref b3)])) _
          refine XS.iload X8.here hx rfl (hb hby at_71) rfl ?_
          show Steps p.tables e below (T8.setTop (mkF m 73 #[.val (.int p1), .val (.int p2), .val (.int p3), .val (.int p4), .val (.int p5), .val (.ref b3), .val (.int vv), .val (.int (Int32.ofNat f)), .val (.int (Int32.ofNat t)), .unset, .unset] [(.int (Int32.ofNat f)), (.int vv), (.ref b3)])) _
          refine XS.iload X8.here hx rfl (hb hby at_73) rfl ?_
          show Steps p.tables e below (T8.setTop (mkF m 75 #[.val (.int p1), .val (.int p2), .val (.int p3), .val (.int p4), .val (.int p5), .val (.ref b3), .val (.int vv), .val (.int (Int32.ofNat f)), .val (.int (Int32.ofNat t)), .unset, .unset] [(.int (Int32.ofNat t)), (.int (Int32.ofNat f)), (.int vv), (.ref b3)])) _
          refine st20 _ ?_
          show Steps p.tables e below (T20.setTop (mkF m 78 #[.val (.int p1), .val (.int p2), .val (.int p3), .val (.int p4), .val (.int p5), .val (.ref b3), .val (.int vv), .val (.int (Int32.ofNat f)), .val (.int (Int32.ofNat t)), .unset, .unset] [(.int (own_idx xs vv (t - f) f))])) _
          refine XS.istore X20.here hx rfl (hb hby at_78) rfl (l' := #[.val (.int p1), .val (.int p2), .val (.int p3), .val (.int p4), .val (.int p5), .val (.ref b3), .val (.int vv), .val (.int (Int32.ofNat f)), .val (.int (Int32.ofNat t)), .val (.int (own_idx xs vv (t - f) f)), .unset]) rfl ?_
          show Steps p.tables e below (T20.setTop (mkF m 80 #[.val (.int p1), .val (.int p2), .val (.int p3), .val (.int p4), .val (.int p5), .val (.ref b3), .val (.int vv), .val (.int (Int32.ofNat f)), .val (.int (Int32.ofNat t)), .val (.int (own_idx xs vv (t - f) f)), .unset] [])) _
          refine XS.aload X20.here hx rfl (hb hby at_80) rfl rfl ?_
          show Steps p.tables e below (T20.setTop (mkF m 82 #[.val (.int p1), .val (.int p2), .val (.int p3), .val (.int p4), .val (.int p5), .val (.ref b3), .val (.int vv), .val (.int (Int32.ofNat f)), .val (.int (Int32.ofNat t)), .val (.int (own_idx xs vv (t - f) f)), .unset] [(.ref b3)])) _
          refine XS.iconst X20.here hx rfl (hb hby at_82) ?_
          show Steps p.tables e below (T20.setTop (mkF m 83 #[.val (.int p1), .val (.int p2), .val (.int p3), .val (.int p4), .val (.int p5), .val (.ref b3), .val (.int vv), .val (.int (Int32.ofNat f)), .val (.int (Int32.ofNat t)), .val (.int (own_idx xs vv (t - f) f)), .unset] [(.int (0 : Int32)), (.ref b3)])) _
          refine XS.iload X20.here hx rfl (hb hby at_83) rfl ?_
          show Steps p.tables e below (T20.setTop (mkF m 85 #[.val (.int p1), .val (.int p2), .val (.int p3), .val (.int p4), .val (.int p5), .val (.ref b3), .val (.int vv), .val (.int (Int32.ofNat f)), .val (.int (Int32.ofNat t)), .val (.int (own_idx xs vv (t - f) f)), .unset] [(.int vv), (.int (0 : Int32)), (.ref b3)])) _
          refine XS.iload X20.here hx rfl (hb hby at_85) rfl ?_
          show Steps p.tables e below (T20.setTop (mkF m 87 #[.val (.int p1), .val (.int p2), .val (.int p3), .val (.int p4), .val (.int p5), .val (.ref b3), .val (.int vv), .val (.int (Int32.ofNat f)), .val (.int (Int32.ofNat t)), .val (.int (own_idx xs vv (t - f) f)), .unset] [(.int (Int32.ofNat f)), (.int vv), (.int (0 : Int32)), (.ref b3)])) _
          refine XS.iload X20.here hx rfl (hb hby at_87) rfl ?_
          show Steps p.tables e below (T20.setTop (mkF m 89 #[.val (.int p1), .val (.int p2), .val (.int p3), .val (.int p4), .val (.int p5), .val (.ref b3), .val (.int vv), .val (.int (Int32.ofNat f)), .val (.int (Int32.ofNat t)), .val (.int (own_idx xs vv (t - f) f)), .unset] [(.int (Int32.ofNat t)), (.int (Int32.ofNat f)), (.int vv), (.int (0 : Int32)), (.ref b3)])) _
          refine st30 _ ?_
          show Steps p.tables e below (T30.setTop (mkF m 92 #[.val (.int p1), .val (.int p2), .val (.int p3), .val (.int p4), .val (.int p5), .val (.ref b3), .val (.int vv), .val (.int (Int32.ofNat f)), .val (.int (Int32.ofNat t)), .val (.int (own_idx xs vv (t - f) f)), .unset] [(.int u0)])) _
          refine XS.ifYes X30.here hx rfl (pc0 := 92) (pc' := 101) rfl (hb hby at_92) rfl ((if0 _ _).trans (teq c0).1) (by decide) (by decide) ?_
          show Steps p.tables e below (T30.setTop (mkF m 101 #[.val (.int p1), .val (.int p2), .val (.int p3), .val (.int p4), .val (.int p5), .val (.ref b3), .val (.int vv), .val (.int (Int32.ofNat f)), .val (.int (Int32.ofNat t)), .val (.int (own_idx xs vv (t - f) f)), .unset] [])) _
          refine XS.aload X30.here hx rfl (hb hby at_101) rfl rfl ?_
          show Steps p.tables e below (T30.setTop (mkF m 103 #[.val (.int p1), .val (.int p2), .val (.int p3), .val (.int p4), .val (.int p5), .val (.ref b3), .val (.int vv), .val (.int (Int32.ofNat f)), .val (.int (Int32.ofNat t)), .val (.int (own_idx xs vv (t - f) f)), .unset] [(.ref b3)])) _
          refine XS.iconst X30.here hx rfl (hb hby at_103) ?_
          show Steps p.tables e below (T30.setTop (mkF m 104 #[.val (.int p1), .val (.int p2), .val (.int p3), .val (.int p4), .val (.int p5), .val (.ref b3), .val (.int vv), .val (.int (Int32.ofNat f)), .val (.int (Int32.ofNat t)), .val (.int (own_idx xs vv (t - f) f)), .unset] [(.int (1 : Int32)), (.ref b3)])) _
          refine XS.iload X30.here hx rfl (hb hby at_104) rfl ?_
          show Steps p.tables e below (T30.setTop (mkF m 106 #[.val (.int p1), .val (.int p2), .val (.int p3), .val (.int p4), .val (.int p5), .val (.ref b3), .val (.int vv), .val (.int (Int32.ofNat f)), .val (.int (Int32.ofNat t)), .val (.int (own_idx xs vv (t - f) f)), .unset] [(.int vv), (.int (1 : Int32)), (.ref b3)])) _
          refine XS.iload X30.here hx rfl (hb hby at_106) rfl ?_
          show Steps p.tables e below (T30.setTop (mkF m 108 #[.val (.int p1), .val (.int p2), .val (.int p3), .val (.int p4), .val (.int p5), .val (.ref b3), .val (.int vv), .val (.int (Int32.ofNat f)), .val (.int (Int32.ofNat t)), .val (.int (own_idx xs vv (t - f) f)), .unset] [(.int (Int32.ofNat f)), (.int vv), (.int (1 : Int32)), (.ref b3)])) _
          refine XS.iload X30.here hx rfl (hb hby at_108) rfl ?_
          show Steps p.tables e below (T30.setTop (mkF m 110 #[.val (.int p1), .val (.int p2), .val (.int p3), .val (.int p4), .val (.int p5), .val (.ref b3), .val (.int vv), .val (.int (Int32.ofNat f)), .val (.int (Int32.ofNat t)), .val (.int (own_idx xs vv (t - f) f)), .unset] [(.int (Int32.ofNat t)), (.int (Int32.ofNat f)), (.int vv), (.int (1 : Int32)), (.ref b3)])) _
          refine st31 _ ?_
          show Steps p.tables e below (T31.setTop (mkF m 113 #[.val (.int p1), .val (.int p2), .val (.int p3), .val (.int p4), .val (.int p5), .val (.ref b3), .val (.int vv), .val (.int (Int32.ofNat f)), .val (.int (Int32.ofNat t)), .val (.int (own_idx xs vv (t - f) f)), .unset] [(.int u1)])) _
          refine XS.ifYes X31.here hx rfl (pc0 := 113) (pc' := 122) rfl (hb hby at_113) rfl ((if0 _ _).trans (teq c1).1) (by decide) (by decide) ?_
          show Steps p.tables e below (T31.setTop (mkF m 122 #[.val (.int p1), .val (.int p2), .val (.int p3), .val (.int p4), .val (.int p5), .val (.ref b3), .val (.int vv), .val (.int (Int32.ofNat f)), .val (.int (Int32.ofNat t)), .val (.int (own_idx xs vv (t - f) f)), .unset] [])) _
          refine XS.aload X31.here hx rfl (hb hby at_122) rfl rfl ?_
          show Steps p.tables e below (T31.setTop (mkF m 124 #[.val (.int p1), .val (.int p2), .val (.int p3), .val (.int p4), .val (.int p5), .val (.ref b3), .val (.int vv), .val (.int (Int32.ofNat f)), .val (.int (Int32.ofNat t)), .val (.int (own_idx xs vv (t - f) f)), .unset] [(.ref b3)])) _
          refine XS.iconst X31.here hx rfl (hb hby at_124) ?_
          show Steps p.tables e below (T31.setTop (mkF m 125 #[.val (.int p1), .val (.int p2), .val (.int p3), .val (.int p4), .val (.int p5), .val (.ref b3), .val (.int vv), .val (.int (Int32.ofNat f)), .val (.int (Int32.ofNat t)), .val (.int (own_idx xs vv (t - f) f)), .unset] [(.int (2 : Int32)), (.ref b3)])) _
          refine XS.iload X31.here hx rfl (hb hby at_125) rfl ?_
          show Steps p.tables e below (T31.setTop (mkF m 127 #[.val (.int p1), .val (.int p2), .val (.int p3), .val (.int p4), .val (.int p5), .val (.ref b3), .val (.int vv), .val (.int (Int32.ofNat f)), .val (.int (Int32.ofNat t)), .val (.int (own_idx xs vv (t - f) f)), .unset] [(.int vv), (.int (2 : Int32)), (.ref b3)])) _
          refine XS.iload X31.here hx rfl (hb hby at_127) rfl ?_
          show Steps p.tables e below (T31.setTop (mkF m 129 #[.val (.int p1), .val (.int p2), .val (.int p3), .val (.int p4), .val (.int p5), .val (.ref b3), .val (.int vv), .val (.int (Int32.ofNat f)), .val (.int (Int32.ofNat t)), .val (.int (own_idx xs vv (t - f) f)), .unset] [(.int (Int32.ofNat f)), (.int vv), (.int (2 : Int32)), (.ref b3)])) _
          refine XS.iload X31.here hx rfl (hb hby at_129) rfl ?_
          show Steps p.tables e below (T31.setTop (mkF m 131 #[.val (.int p1), .val (.int p2), .val (.int p3), .val (.int p4), .val (.int p5), .val (.ref b3), .val (.int vv), .val (.int (Int32.ofNat f)), .val (.int (Int32.ofNat t)), .val (.int (own_idx xs vv (t - f) f)), .unset] [(.int (Int32.ofNat t)), (.int (Int32.ofNat f)), (.int vv), (.int (2 : Int32)), (.ref b3)])) _
          refine st32 _ ?_
          show Steps p.tables e below (T32.setTop (mkF m 134 #[.val (.int p1), .val (.int p2), .val (.int p3), .val (.int p4), .val (.int p5), .val (.ref b3), .val (.int vv), .val (.int (Int32.ofNat f)), .val (.int (Int32.ofNat t)), .val (.int (own_idx xs vv (t - f) f)), .unset] [(.int u2)])) _
          refine XS.ifNo X32.here hx rfl (hb hby at_134) rfl ((if0 _ _).trans (feq c2).1) ?_
          show Steps p.tables e below (T32.setTop (mkF m 137 #[.val (.int p1), .val (.int p2), .val (.int p3), .val (.int p4), .val (.int p5), .val (.ref b3), .val (.int vv), .val (.int (Int32.ofNat f)), .val (.int (Int32.ofNat t)), .val (.int (own_idx xs vv (t - f) f)), .unset] [])) _
          refine XS.iconst X32.here hx rfl (hb hby at_137) ?_
          show Steps p.tables e below (T32.setTop (mkF m 138 #[.val (.int p1), .val (.int p2), .val (.int p3), .val (.int p4), .val (.int p5), .val (.ref b3), .val (.int vv), .val (.int (Int32.ofNat f)), .val (.int (Int32.ofNat t)), .val (.int (own_idx xs vv (t - f) f)), .unset] [(.int (2 : Int32))])) _
          refine XS.istore X32.here hx rfl (hb hby at_138) rfl (l' := #[.val (.int p1), .val (.int p2), .val (.int p3), .val (.int p4), .val (.int p5), .val (.ref b3), .val (.int vv), .val (.int (Int32.ofNat f)), .val (.int (Int32.ofNat t)), .val (.int (own_idx xs vv (t - f) f)), .val (.int (2 : Int32))]) rfl ?_
          show Steps p.tables e below (T32.setTop (mkF m 140 #[.val (.int p1), .val (.int p2), .val (.int p3), .val (.int p4), .val (.int p5), .val (.ref b3), .val (.int vv), .val (.int (Int32.ofNat f)), .val (.int (Int32.ofNat t)), .val (.int (own_idx xs vv (t - f) f)), .val (.int (2 : Int32))] [])) _
          refine XS.goto X32.here hx rfl (pc0 := 140) (pc' := 188) rfl (hb hby at_140) (by decide) (by decide) ?_
          show Steps p.tables e below (T32.setTop (mkF m 188 #[.val (.int p1), .val (.int p2), .val (.int p3), .val (.int p4), .val (.int p5), .val (.ref b3), .val (.int vv), .val (.int (Int32.ofNat f)), .val (.int (Int32.ofNat t)), .val (.int (own_idx xs vv (t - f) f)), .val (.int (2 : Int32))] [])) _
          refine XS.iload X32.here hx rfl (hb hby at_188) rfl ?_
          show Steps p.tables e below (T32.setTop (mkF m 190 #[.val (.int p1), .val (.int p2), .val (.int p3), .val (.int p4), .val (.int p5), .val (.ref b3), .val (.int vv), .val (.int (Int32.ofNat f)), .val (.int (Int32.ofNat t)), .val (.int (own_idx xs vv (t - f) f)), .val (.int (2 : Int32))] [(.int (own_idx xs vv (t - f) f))])) _
          refine XS.iload X32.here hx rfl (hb hby at_190) rfl ?_
          show Steps p.tables e below (T32.setTop (mkF m 192 #[.val (.int p1), .val (.int p2), .val (.int p3), .val (.int p4), .val (.int p5), .val (.ref b3), .val (.int vv), .val (.int (Int32.ofNat f)), .val (.int (Int32.ofNat t)), .val (.int (own_idx xs vv (t - f) f)), .val (.int (2 : Int32))] [(.int (2 : Int32)), (.int (own_idx xs vv (t - f) f))])) _
          refine XS.icmpNo X32.here hx rfl (hb hby at_192) rfl (teq k1).2 ?_
          show Steps p.tables e below (T32.setTop (mkF m 195 #[.val (.int p1), .val (.int p2), .val (.int p3), .val (.int p4), .val (.int p5), .val (.ref b3), .val (.int vv), .val (.int (Int32.ofNat f)), .val (.int (Int32.ofNat t)), .val (.int (own_idx xs vv (t - f) f)), .val (.int (2 : Int32))] [])) _
          refine XS.iconst X32.here hx rfl (hb hby at_195) ?_
          show Steps p.tables e below (T32.setTop (mkF m 196 #[.val (.int p1), .val (.int p2), .val (.int p3), .val (.int p4), .val (.int p5), .val (.ref b3), .val (.int vv), .val (.int (Int32.ofNat f)), .val (.int (Int32.ofNat t)), .val (.int (own_idx xs vv (t - f) f)), .val (.int (2 : Int32))] [(.int (1 : Int32))])) _
          refine XS.goto X32.here hx rfl (pc0 := 196) (pc' := 200) rfl (hb hby at_196) (by decide) (by decide) ?_
          show Steps p.tables e below (T32.setTop (mkF m 200 #[.val (.int p1), .val (.int p2), .val (.int p3), .val (.int p4), .val (.int p5), .val (.ref b3), .val (.int vv), .val (.int (Int32.ofNat f)), .val (.int (Int32.ofNat t)), .val (.int (own_idx xs vv (t - f) f)), .val (.int (2 : Int32))] [(.int (1 : Int32))])) _
          exact retN X32 hx (t := .boolean) Bd.returns (by simp) (hb hby at_200) hr
        · show Q0 Z p1 p2 p3 p4 p5 h0 n0 _ T32.heap _
          exact ⟨rfl, N32⟩
    · have k1 : (own_idx xs vv (t - f) f) = (1 : Int32) := own_at 1 (Classical.byContradiction fun q => c1 (z1.mpr q)) (fun q hq => by
        have e : q = 0 := by omega
        rcases e with rfl
        · exact z0.mp c0)
      obtain ⟨fs, hr, hrun, hended, hW, hsame⟩ := X31.leave (v := some (.int (1 : Int32))) (fun h => by rw [Bd.returns] at h; cases h)
      refine ⟨_, _, pre0 _ ?_, hrun, hended, _, _, rfl, ?_, ⟨_, rfl⟩, hW, hsame.mono (by decide) (by decide)⟩
      · show Steps p.tables e below (s₁.setTop (mkF m 0 #[.val (.int p1), .val (.int p2), .val (.int p3), .val (.int p4), .val (.int p5), .unset, .unset, .unset, .unset, .unset, .unset] [])) _
        refine XS.iconst X0.here hx rfl (hb hby at_0) ?_
        show Steps p.tables e below (s₁.setTop (mkF m 1 #[.val (.int p1), .val (.int p2), .val (.int p3), .val (.int p4), .val (.int p5), .unset, .unset, .unset, .unset, .unset, .unset] [(.int (5 : Int32))])) _
        refine st3 _ ?_
        show Steps p.tables e below (T3.setTop (mkF m 3 #[.val (.int p1), .val (.int p2), .val (.int p3), .val (.int p4), .val (.int p5), .unset, .unset, .unset, .unset, .unset, .unset] [(.ref b3)])) _
        refine XS.astore X3.here hx rfl (hb hby at_3) rfl rfl (l' := #[.val (.int p1), .val (.int p2), .val (.int p3), .val (.int p4), .val (.int p5), .val (.ref b3), .unset, .unset, .unset, .unset, .unset]) rfl ?_
        show Steps p.tables e below (T3.setTop (mkF m 5 #[.val (.int p1), .val (.int p2), .val (.int p3), .val (.int p4), .val (.int p5), .val (.ref b3), .unset, .unset, .unset, .unset, .unset] [])) _
        refine XS.aload X3.here hx rfl (hb hby at_5) rfl rfl ?_
        show Steps p.tables e below (T3.setTop (mkF m 7 #[.val (.int p1), .val (.int p2), .val (.int p3), .val (.int p4), .val (.int p5), .val (.ref b3), .unset, .unset, .unset, .unset, .unset] [(.ref b3)])) _
        refine XS.iconst X3.here hx rfl (hb hby at_7) ?_
        show Steps p.tables e below (T3.setTop (mkF m 8 #[.val (.int p1), .val (.int p2), .val (.int p3), .val (.int p4), .val (.int p5), .val (.ref b3), .unset, .unset, .unset, .unset, .unset] [(.int (0 : Int32)), (.ref b3)])) _
        refine XS.iloadN X3.here hx rfl (hb hby at_8) rfl ?_
        show Steps p.tables e below (T3.setTop (mkF m 9 #[.val (.int p1), .val (.int p2), .val (.int p3), .val (.int p4), .val (.int p5), .val (.ref b3), .unset, .unset, .unset, .unset, .unset] [(.int p1), (.int (0 : Int32)), (.ref b3)])) _
        refine XS.i2b X3.here hx rfl (hb hby at_9) rfl ?_
        show Steps p.tables e below (T3.setTop (mkF m 10 #[.val (.int p1), .val (.int p2), .val (.int p3), .val (.int p4), .val (.int p5), .val (.ref b3), .unset, .unset, .unset, .unset, .unset] [(.int (p1.toInt8.toInt32)), (.int (0 : Int32)), (.ref b3)])) _
        rw [← hx0]
        show Steps p.tables e below (T3.setTop (mkF m 10 #[.val (.int p1), .val (.int p2), .val (.int p3), .val (.int p4), .val (.int p5), .val (.ref b3), .unset, .unset, .unset, .unset, .unset] [(.int x0), (.int (0 : Int32)), (.ref b3)])) _
        refine st4 _ ?_
        show Steps p.tables e below (T4.setTop (mkF m 11 #[.val (.int p1), .val (.int p2), .val (.int p3), .val (.int p4), .val (.int p5), .val (.ref b3), .unset, .unset, .unset, .unset, .unset] [])) _
        refine XS.aload X4.here hx rfl (hb hby at_11) rfl rfl ?_
        show Steps p.tables e below (T4.setTop (mkF m 13 #[.val (.int p1), .val (.int p2), .val (.int p3), .val (.int p4), .val (.int p5), .val (.ref b3), .unset, .unset, .unset, .unset, .unset] [(.ref b3)])) _
        refine XS.iconst X4.here hx rfl (hb hby at_13) ?_
        show Steps p.tables e below (T4.setTop (mkF m 14 #[.val (.int p1), .val (.int p2), .val (.int p3), .val (.int p4), .val (.int p5), .val (.ref b3), .unset, .unset, .unset, .unset, .unset] [(.int (1 : Int32)), (.ref b3)])) _
        refine XS.iloadN X4.here hx rfl (hb hby at_14) rfl ?_
        show Steps p.tables e below (T4.setTop (mkF m 15 #[.val (.int p1), .val (.int p2), .val (.int p3), .val (.int p4), .val (.int p5), .val (.ref b3), .unset, .unset, .unset, .unset, .unset] [(.int p1), (.int (1 : Int32)), (.ref b3)])) _
        refine XS.bipush X4.here hx rfl (hb hby at_15) ?_
        show Steps p.tables e below (T4.setTop (mkF m 17 #[.val (.int p1), .val (.int p2), .val (.int p3), .val (.int p4), .val (.int p5), .val (.ref b3), .unset, .unset, .unset, .unset, .unset] [(.int (8 : Int32)), (.int p1), (.int (1 : Int32)), (.ref b3)])) _
        refine XS.ishr X4.here hx rfl (hb hby at_17) rfl ?_
        show Steps p.tables e below (T4.setTop (mkF m 18 #[.val (.int p1), .val (.int p2), .val (.int p3), .val (.int p4), .val (.int p5), .val (.ref b3), .unset, .unset, .unset, .unset, .unset] [(.int (p1 >>> ((8 : Int32) &&& 31))), (.int (1 : Int32)), (.ref b3)])) _
        refine XS.i2b X4.here hx rfl (hb hby at_18) rfl ?_
        show Steps p.tables e below (T4.setTop (mkF m 19 #[.val (.int p1), .val (.int p2), .val (.int p3), .val (.int p4), .val (.int p5), .val (.ref b3), .unset, .unset, .unset, .unset, .unset] [(.int ((p1 >>> ((8 : Int32) &&& 31)).toInt8.toInt32)), (.int (1 : Int32)), (.ref b3)])) _
        rw [← hx1]
        show Steps p.tables e below (T4.setTop (mkF m 19 #[.val (.int p1), .val (.int p2), .val (.int p3), .val (.int p4), .val (.int p5), .val (.ref b3), .unset, .unset, .unset, .unset, .unset] [(.int x1), (.int (1 : Int32)), (.ref b3)])) _
        refine st5 _ ?_
        show Steps p.tables e below (T5.setTop (mkF m 20 #[.val (.int p1), .val (.int p2), .val (.int p3), .val (.int p4), .val (.int p5), .val (.ref b3), .unset, .unset, .unset, .unset, .unset] [])) _
        refine XS.aload X5.here hx rfl (hb hby at_20) rfl rfl ?_
        show Steps p.tables e below (T5.setTop (mkF m 22 #[.val (.int p1), .val (.int p2), .val (.int p3), .val (.int p4), .val (.int p5), .val (.ref b3), .unset, .unset, .unset, .unset, .unset] [(.ref b3)])) _
        refine XS.iconst X5.here hx rfl (hb hby at_22) ?_
        show Steps p.tables e below (T5.setTop (mkF m 23 #[.val (.int p1), .val (.int p2), .val (.int p3), .val (.int p4), .val (.int p5), .val (.ref b3), .unset, .unset, .unset, .unset, .unset] [(.int (2 : Int32)), (.ref b3)])) _
        refine XS.iloadN X5.here hx rfl (hb hby at_23) rfl ?_
        show Steps p.tables e below (T5.setTop (mkF m 24 #[.val (.int p1), .val (.int p2), .val (.int p3), .val (.int p4), .val (.int p5), .val (.ref b3), .unset, .unset, .unset, .unset, .unset] [(.int p1), (.int (2 : Int32)), (.ref b3)])) _
        refine XS.bipush X5.here hx rfl (hb hby at_24) ?_
        show Steps p.tables e below (T5.setTop (mkF m 26 #[.val (.int p1), .val (.int p2), .val (.int p3), .val (.int p4), .val (.int p5), .val (.ref b3), .unset, .unset, .unset, .unset, .unset] [(.int (16 : Int32)), (.int p1), (.int (2 : Int32)), (.ref b3)])) _
        refine XS.ishr X5.here hx rfl (hb hby at_26) rfl ?_
        show Steps p.tables e below (T5.setTop (mkF m 27 #[.val (.int p1), .val (.int p2), .val (.int p3), .val (.int p4), .val (.int p5), .val (.ref b3), .unset, .unset, .unset, .unset, .unset] [(.int (p1 >>> ((16 : Int32) &&& 31))), (.int (2 : Int32)), (.ref b3)])) _
        refine XS.i2b X5.here hx rfl (hb hby at_27) rfl ?_
        show Steps p.tables e below (T5.setTop (mkF m 28 #[.val (.int p1), .val (.int p2), .val (.int p3), .val (.int p4), .val (.int p5), .val (.ref b3), .unset, .unset, .unset, .unset, .unset] [(.int ((p1 >>> ((16 : Int32) &&& 31)).toInt8.toInt32)), (.int (2 : Int32)), (.ref b3)])) _
        rw [← hx2]
        show Steps p.tables e below (T5.setTop (mkF m 28 #[.val (.int p1), .val (.int p2), .val (.int p3), .val (.int p4), .val (.int p5), .val (.ref b3), .unset, .unset, .unset, .unset, .unset] [(.int x2), (.int (2 : Int32)), (.ref b3)])) _
        refine st6 _ ?_
        show Steps p.tables e below (T6.setTop (mkF m 29 #[.val (.int p1), .val (.int p2), .val (.int p3), .val (.int p4), .val (.int p5), .val (.ref b3), .unset, .unset, .unset, .unset, .unset] [])) _
        refine XS.aload X6.here hx rfl (hb hby at_29) rfl rfl ?_
        show Steps p.tables e below (T6.setTop (mkF m 31 #[.val (.int p1), .val (.int p2), .val (.int p3), .val (.int p4), .val (.int p5), .val (.ref b3), .unset, .unset, .unset, .unset, .unset] [(.ref b3)])) _
        refine XS.iconst X6.here hx rfl (hb hby at_31) ?_
        show Steps p.tables e below (T6.setTop (mkF m 32 #[.val (.int p1), .val (.int p2), .val (.int p3), .val (.int p4), .val (.int p5), .val (.ref b3), .unset, .unset, .unset, .unset, .unset] [(.int (3 : Int32)), (.ref b3)])) _
        refine XS.iloadN X6.here hx rfl (hb hby at_32) rfl ?_
        show Steps p.tables e below (T6.setTop (mkF m 33 #[.val (.int p1), .val (.int p2), .val (.int p3), .val (.int p4), .val (.int p5), .val (.ref b3), .unset, .unset, .unset, .unset, .unset] [(.int p1), (.int (3 : Int32)), (.ref b3)])) _
        refine XS.bipush X6.here hx rfl (hb hby at_33) ?_
        show Steps p.tables e below (T6.setTop (mkF m 35 #[.val (.int p1), .val (.int p2), .val (.int p3), .val (.int p4), .val (.int p5), .val (.ref b3), .unset, .unset, .unset, .unset, .unset] [(.int (24 : Int32)), (.int p1), (.int (3 : Int32)), (.ref b3)])) _
        refine XS.iushr X6.here hx rfl (hb hby at_35) rfl ?_
        show Steps p.tables e below (T6.setTop (mkF m 36 #[.val (.int p1), .val (.int p2), .val (.int p3), .val (.int p4), .val (.int p5), .val (.ref b3), .unset, .unset, .unset, .unset, .unset] [(.int ((p1.toUInt32 >>> ((24 : Int32) &&& 31).toUInt32).toInt32)), (.int (3 : Int32)), (.ref b3)])) _
        refine XS.i2b X6.here hx rfl (hb hby at_36) rfl ?_
        show Steps p.tables e below (T6.setTop (mkF m 37 #[.val (.int p1), .val (.int p2), .val (.int p3), .val (.int p4), .val (.int p5), .val (.ref b3), .unset, .unset, .unset, .unset, .unset] [(.int (((p1.toUInt32 >>> ((24 : Int32) &&& 31).toUInt32).toInt32).toInt8.toInt32)), (.int (3 : Int32)), (.ref b3)])) _
        rw [← hx3]
        show Steps p.tables e below (T6.setTop (mkF m 37 #[.val (.int p1), .val (.int p2), .val (.int p3), .val (.int p4), .val (.int p5), .val (.ref b3), .unset, .unset, .unset, .unset, .unset] [(.int x3), (.int (3 : Int32)), (.ref b3)])) _
        refine st7 _ ?_
        show Steps p.tables e below (T7.setTop (mkF m 38 #[.val (.int p1), .val (.int p2), .val (.int p3), .val (.int p4), .val (.int p5), .val (.ref b3), .unset, .unset, .unset, .unset, .unset] [])) _
        refine XS.aload X7.here hx rfl (hb hby at_38) rfl rfl ?_
        show Steps p.tables e below (T7.setTop (mkF m 40 #[.val (.int p1), .val (.int p2), .val (.int p3), .val (.int p4), .val (.int p5), .val (.ref b3), .unset, .unset, .unset, .unset, .unset] [(.ref b3)])) _
        refine XS.iconst X7.here hx rfl (hb hby at_40) ?_
        show Steps p.tables e below (T7.setTop (mkF m 41 #[.val (.int p1), .val (.int p2), .val (.int p3), .val (.int p4), .val (.int p5), .val (.ref b3), .unset, .unset, .unset, .unset, .unset] [(.int (4 : Int32)), (.ref b3)])) _
        refine XS.iloadN X7.here hx rfl (hb hby at_41) rfl ?_
        show Steps p.tables e below (T7.setTop (mkF m 42 #[.val (.int p1), .val (.int p2), .val (.int p3), .val (.int p4), .val (.int p5), .val (.ref b3), .unset, .unset, .unset, .unset, .unset] [(.int p2), (.int (4 : Int32)), (.ref b3)])) _
        refine XS.i2b X7.here hx rfl (hb hby at_42) rfl ?_
        show Steps p.tables e below (T7.setTop (mkF m 43 #[.val (.int p1), .val (.int p2), .val (.int p3), .val (.int p4), .val (.int p5), .val (.ref b3), .unset, .unset, .unset, .unset, .unset] [(.int (p2.toInt8.toInt32)), (.int (4 : Int32)), (.ref b3)])) _
        rw [← hx4]
        show Steps p.tables e below (T7.setTop (mkF m 43 #[.val (.int p1), .val (.int p2), .val (.int p3), .val (.int p4), .val (.int p5), .val (.ref b3), .unset, .unset, .unset, .unset, .unset] [(.int x4), (.int (4 : Int32)), (.ref b3)])) _
        refine st8 _ ?_
        show Steps p.tables e below (T8.setTop (mkF m 44 #[.val (.int p1), .val (.int p2), .val (.int p3), .val (.int p4), .val (.int p5), .val (.ref b3), .unset, .unset, .unset, .unset, .unset] [])) _
        refine XS.iloadN X8.here hx rfl (hb hby at_44) rfl ?_
        show Steps p.tables e below (T8.setTop (mkF m 45 #[.val (.int p1), .val (.int p2), .val (.int p3), .val (.int p4), .val (.int p5), .val (.ref b3), .unset, .unset, .unset, .unset, .unset] [(.int p3)])) _
        refine XS.i2b X8.here hx rfl (hb hby at_45) rfl ?_
        show Steps p.tables e below (T8.setTop (mkF m 46 #[.val (.int p1), .val (.int p2), .val (.int p3), .val (.int p4), .val (.int p5), .val (.ref b3), .unset, .unset, .unset, .unset, .unset] [(.int (p3.toInt8.toInt32))])) _
        refine XS.istore X8.here hx rfl (hb hby at_46) rfl (l' := #[.val (.int p1), .val (.int p2), .val (.int p3), .val (.int p4), .val (.int p5), .val (.ref b3), .val (.int (p3.toInt8.toInt32)), .unset, .unset, .unset, .unset]) rfl ?_
        show Steps p.tables e below (T8.setTop (mkF m 48 #[.val (.int p1), .val (.int p2), .val (.int p3), .val (.int p4), .val (.int p5), .val (.ref b3), .val (.int (p3.toInt8.toInt32)), .unset, .unset, .unset, .unset] [])) _
        rw [← hvv]
        show Steps p.tables e below (T8.setTop (mkF m 48 #[.val (.int p1), .val (.int p2), .val (.int p3), .val (.int p4), .val (.int p5), .val (.ref b3), .val (.int vv), .unset, .unset, .unset, .unset] [])) _
        refine XS.iloadN X8.here hx rfl (hb hby at_48) rfl ?_
        show Steps p.tables e below (T8.setTop (mkF m 49 #[.val (.int p1), .val (.int p2), .val (.int p3), .val (.int p4), .val (.int p5), .val (.ref b3), .val (.int vv), .unset, .unset, .unset, .unset] [(.int p4)])) _
        refine X8.ldcInt hx hown (mvT hZ (hw _ (List.mem_of_getElem? (i := 1) rfl))) (g := (mkF m 49 #[.val (.int p1), .val (.int p2), .val (.int p3), .val (.int p4), .val (.int p5), .val (.ref b3), .val (.int vv), .unset, .unset, .unset, .unset] [(.int p4)])) rfl (hb hby at_49) _ ?_
        show Steps p.tables e below (T8.setTop (mkF m 51 #[.val (.int p1), .val (.int p2), .val (.int p3), .val (.int p4), .val (.int p5), .val (.ref b3), .val (.int vv), .unset, .unset, .unset, .unset] [(.int (2147483647 : Int32)), (.int p4)])) _
        refine XS.iand X8.here hx rfl (hb hby at_51) rfl ?_
        show Steps p.tables e below (T8.setTop (mkF m 52 #[.val (.int p1), .val (.int p2), .val (.int p3), .val (.int p4), .val (.int p5), .val (.ref b3), .val (.int vv), .unset, .unset, .unset, .unset] [(.int (p4 &&& (2147483647 : Int32)))])) _
        refine XS.bipush X8.here hx rfl (hb hby at_52) ?_
        show Steps p.tables e below (T8.setTop (mkF m 54 #[.val (.int p1), .val (.int p2), .val (.int p3), .val (.int p4), .val (.int p5), .val (.ref b3), .val (.int vv), .unset, .unset, .unset, .unset] [(.int (6 : Int32)), (.int (p4 &&& (2147483647 : Int32)))])) _
        refine XS.irem X8.here hx rfl (hb hby at_54) rfl (by decide) ?_
        show Steps p.tables e below (T8.setTop (mkF m 55 #[.val (.int p1), .val (.int p2), .val (.int p3), .val (.int p4), .val (.int p5), .val (.ref b3), .val (.int vv), .unset, .unset, .unset, .unset] [(.int ((p4 &&& (2147483647 : Int32)) - ((p4 &&& (2147483647 : Int32)) / (6 : Int32)) * (6 : Int32)))])) _
        refine XS.istore X8.here hx rfl (hb hby at_55) rfl (l' := #[.val (.int p1), .val (.int p2), .val (.int p3), .val (.int p4), .val (.int p5), .val (.ref b3), .val (.int vv), .val (.int ((p4 &&& (2147483647 : Int32)) - ((p4 &&& (2147483647 : Int32)) / (6 : Int32)) * (6 : Int32))), .unset, .unset, .unset]) rfl ?_
        show Steps p.tables e below (T8.setTop (mkF m 57 #[.val (.int p1), .val (.int p2), .val (.int p3), .val (.int p4), .val (.int p5), .val (.ref b3), .val (.int vv), .val (.int ((p4 &&& (2147483647 : Int32)) - ((p4 &&& (2147483647 : Int32)) / (6 : Int32)) * (6 : Int32))), .unset, .unset, .unset] [])) _
        rw [ef]
        show Steps p.tables e below (T8.setTop (mkF m 57 #[.val (.int p1), .val (.int p2), .val (.int p3), .val (.int p4), .val (.int p5), .val (.ref b3), .val (.int vv), .val (.int (Int32.ofNat f)), .unset, .unset, .unset] [])) _
        refine XS.iload X8.here hx rfl (hb hby at_57) rfl ?_
        show Steps p.tables e below (T8.setTop (mkF m 59 #[.val (.int p1), .val (.int p2), .val (.int p3), .val (.int p4), .val (.int p5), .val (.ref b3), .val (.int vv), .val (.int (Int32.ofNat f)), .unset, .unset, .unset] [(.int p5)])) _
        refine X8.ldcInt hx hown (mvT hZ (hw _ (List.mem_of_getElem? (i := 1) rfl))) (g := (mkF m 59 #[.val (.int p1), .val (.int p2), .val (.int p3), .val (.int p4), .val (.int p5), .val (.ref b3), .val (.int vv), .val (.int (Int32.ofNat f)), .unset, .unset, .unset] [(.int p5)])) rfl (hb hby at_59) _ ?_
        show Steps p.tables e below (T8.setTop (mkF m 61 #[.val (.int p1), .val (.int p2), .val (.int p3), .val (.int p4), .val (.int p5), .val (.ref b3), .val (.int vv), .val (.int (Int32.ofNat f)), .unset, .unset, .unset] [(.int (2147483647 : Int32)), (.int p5)])) _
        refine XS.iand X8.here hx rfl (hb hby at_61) rfl ?_
        show Steps p.tables e below (T8.setTop (mkF m 62 #[.val (.int p1), .val (.int p2), .val (.int p3), .val (.int p4), .val (.int p5), .val (.ref b3), .val (.int vv), .val (.int (Int32.ofNat f)), .unset, .unset, .unset] [(.int (p5 &&& (2147483647 : Int32)))])) _
        refine XS.bipush X8.here hx rfl (hb hby at_62) ?_
        show Steps p.tables e below (T8.setTop (mkF m 64 #[.val (.int p1), .val (.int p2), .val (.int p3), .val (.int p4), .val (.int p5), .val (.ref b3), .val (.int vv), .val (.int (Int32.ofNat f)), .unset, .unset, .unset] [(.int (6 : Int32)), (.int (p5 &&& (2147483647 : Int32)))])) _
        refine XS.irem X8.here hx rfl (hb hby at_64) rfl (by decide) ?_
        show Steps p.tables e below (T8.setTop (mkF m 65 #[.val (.int p1), .val (.int p2), .val (.int p3), .val (.int p4), .val (.int p5), .val (.ref b3), .val (.int vv), .val (.int (Int32.ofNat f)), .unset, .unset, .unset] [(.int ((p5 &&& (2147483647 : Int32)) - ((p5 &&& (2147483647 : Int32)) / (6 : Int32)) * (6 : Int32)))])) _
        refine XS.istore X8.here hx rfl (hb hby at_65) rfl (l' := #[.val (.int p1), .val (.int p2), .val (.int p3), .val (.int p4), .val (.int p5), .val (.ref b3), .val (.int vv), .val (.int (Int32.ofNat f)), .val (.int ((p5 &&& (2147483647 : Int32)) - ((p5 &&& (2147483647 : Int32)) / (6 : Int32)) * (6 : Int32))), .unset, .unset]) rfl ?_
        show Steps p.tables e below (T8.setTop (mkF m 67 #[.val (.int p1), .val (.int p2), .val (.int p3), .val (.int p4), .val (.int p5), .val (.ref b3), .val (.int vv), .val (.int (Int32.ofNat f)), .val (.int ((p5 &&& (2147483647 : Int32)) - ((p5 &&& (2147483647 : Int32)) / (6 : Int32)) * (6 : Int32))), .unset, .unset] [])) _
        rw [et]
        show Steps p.tables e below (T8.setTop (mkF m 67 #[.val (.int p1), .val (.int p2), .val (.int p3), .val (.int p4), .val (.int p5), .val (.ref b3), .val (.int vv), .val (.int (Int32.ofNat f)), .val (.int (Int32.ofNat t)), .unset, .unset] [])) _
        refine XS.aload X8.here hx rfl (hb hby at_67) rfl rfl ?_
        show Steps p.tables e below (T8.setTop (mkF m 69 #[.val (.int p1), .val (.int p2), .val (.int p3), .val (.int p4), .val (.int p5), .val (.ref b3), .val (.int vv), .val (.int (Int32.ofNat f)), .val (.int (Int32.ofNat t)), .unset, .unset] [(.ref b3)])) _
        refine XS.iload X8.here hx rfl (hb hby at_69) rfl ?_
        show Steps p.tables e below (T8.setTop (mkF m 71 #[.val (.int p1), .val (.int p2), .val (.int p3), .val (.int p4), .val (.int p5), .val (.ref b3), .val (.int vv), .val (.int (Int32.ofNat f)), .val (.int (Int32.ofNat t)), .unset, .unset] [(.int vv), (.ref b3)])) _
        refine XS.iload X8.here hx rfl (hb hby at_71) rfl ?_
        show Steps p.tables e below (T8.setTop (mkF m 73 #[.val (.int p1), .val (.int p2), .val (.int p3), .val (.int p4), .val (.int p5), .val (.ref b3), .val (.int vv), .val (.int (Int32.ofNat f)), .val (.int (Int32.ofNat t)), .unset, .unset] [(.int (Int32.ofNat f)), (.int vv), (.ref b3)])) _
        refine XS.iload X8.here hx rfl (hb hby at_73) rfl ?_
        show Steps p.tables e below (T8.setTop (mkF m 75 #[.val (.int p1), .val (.int p2), .val (.int p3), .val (.int p4), .val (.int p5), .val (.ref b3), .val (.int vv), .val (.int (Int32.ofNat f)), .val (.int (Int32.ofNat t)), .unset, .unset] [(.int (Int32.ofNat t)), (.int (Int32.ofNat f)), (.int vv), (.ref b3)])) _
        refine st20 _ ?_
        show Steps p.tables e below (T20.setTop (mkF m 78 #[.val (.int p1), .val (.int p2), .val (.int p3), .val (.int p4), .val (.int p5), .val (.ref b3), .val (.int vv), .val (.int (Int32.ofNat f)), .val (.int (Int32.ofNat t)), .unset, .unset] [(.int (own_idx xs vv (t - f) f))])) _
        refine XS.istore X20.here hx rfl (hb hby at_78) rfl (l' := #[.val (.int p1), .val (.int p2), .val (.int p3), .val (.int p4), .val (.int p5), .val (.ref b3), .val (.int vv), .val (.int (Int32.ofNat f)), .val (.int (Int32.ofNat t)), .val (.int (own_idx xs vv (t - f) f)), .unset]) rfl ?_
        show Steps p.tables e below (T20.setTop (mkF m 80 #[.val (.int p1), .val (.int p2), .val (.int p3), .val (.int p4), .val (.int p5), .val (.ref b3), .val (.int vv), .val (.int (Int32.ofNat f)), .val (.int (Int32.ofNat t)), .val (.int (own_idx xs vv (t - f) f)), .unset] [])) _
        refine XS.aload X20.here hx rfl (hb hby at_80) rfl rfl ?_
        show Steps p.tables e below (T20.setTop (mkF m 82 #[.val (.int p1), .val (.int p2), .val (.int p3), .val (.int p4), .val (.int p5), .val (.ref b3), .val (.int vv), .val (.int (Int32.ofNat f)), .val (.int (Int32.ofNat t)), .val (.int (own_idx xs vv (t - f) f)), .unset] [(.ref b3)])) _
        refine XS.iconst X20.here hx rfl (hb hby at_82) ?_
        show Steps p.tables e below (T20.setTop (mkF m 83 #[.val (.int p1), .val (.int p2), .val (.int p3), .val (.int p4), .val (.int p5), .val (.ref b3), .val (.int vv), .val (.int (Int32.ofNat f)), .val (.int (Int32.ofNat t)), .val (.int (own_idx xs vv (t - f) f)), .unset] [(.int (0 : Int32)), (.ref b3)])) _
        refine XS.iload X20.here hx rfl (hb hby at_83) rfl ?_
        show Steps p.tables e below (T20.setTop (mkF m 85 #[.val (.int p1), .val (.int p2), .val (.int p3), .val (.int p4), .val (.int p5), .val (.ref b3), .val (.int vv), .val (.int (Int32.ofNat f)), .val (.int (Int32.ofNat t)), .val (.int (own_idx xs vv (t - f) f)), .unset] [(.int vv), (.int (0 : Int32)), (.ref b3)])) _
        refine XS.iload X20.here hx rfl (hb hby at_85) rfl ?_
        show Steps p.tables e below (T20.setTop (mkF m 87 #[.val (.int p1), .val (.int p2), .val (.int p3), .val (.int p4), .val (.int p5), .val (.ref b3), .val (.int vv), .val (.int (Int32.ofNat f)), .val (.int (Int32.ofNat t)), .val (.int (own_idx xs vv (t - f) f)), .unset] [(.int (Int32.ofNat f)), (.int vv), (.int (0 : Int32)), (.ref b3)])) _
        refine XS.iload X20.here hx rfl (hb hby at_87) rfl ?_
        show Steps p.tables e below (T20.setTop (mkF m 89 #[.val (.int p1), .val (.int p2), .val (.int p3), .val (.int p4), .val (.int p5), .val (.ref b3), .val (.int vv), .val (.int (Int32.ofNat f)), .val (.int (Int32.ofNat t)), .val (.int (own_idx xs vv (t - f) f)), .unset] [(.int (Int32.ofNat t)), (.int (Int32.ofNat f)), (.int vv), (.int (0 : Int32)), (.ref b3)])) _
        refine st30 _ ?_
        show Steps p.tables e below (T30.setTop (mkF m 92 #[.val (.int p1), .val (.int p2), .val (.int p3), .val (.int p4), .val (.int p5), .val (.ref b3), .val (.int vv), .val (.int (Int32.ofNat f)), .val (.int (Int32.ofNat t)), .val (.int (own_idx xs vv (t - f) f)), .unset] [(.int u0)])) _
        refine XS.ifYes X30.here hx rfl (pc0 := 92) (pc' := 101) rfl (hb hby at_92) rfl ((if0 _ _).trans (teq c0).1) (by decide) (by decide) ?_
        show Steps p.tables e below (T30.setTop (mkF m 101 #[.val (.int p1), .val (.int p2), .val (.int p3), .val (.int p4), .val (.int p5), .val (.ref b3), .val (.int vv), .val (.int (Int32.ofNat f)), .val (.int (Int32.ofNat t)), .val (.int (own_idx xs vv (t - f) f)), .unset] [])) _
        refine XS.aload X30.here hx rfl (hb hby at_101) rfl rfl ?_
        show Steps p.tables e below (T30.setTop (mkF m 103 #[.val (.int p1), .val (.int p2), .val (.int p3), .val (.int p4), .val (.int p5), .val (.ref b3), .val (.int vv), .val (.int (Int32.ofNat f)), .val (.int (Int32.ofNat t)), .val (.int (own_idx xs vv (t - f) f)), .unset] [(.ref b3)])) _
        refine XS.iconst X30.here hx rfl (hb hby at_103) ?_
        show Steps p.tables e below (T30.setTop (mkF m 104 #[.val (.int p1), .val (.int p2), .val (.int p3), .val (.int p4), .val (.int p5), .val (.ref b3), .val (.int vv), .val (.int (Int32.ofNat f)), .val (.int (Int32.ofNat t)), .val (.int (own_idx xs vv (t - f) f)), .unset] [(.int (1 : Int32)), (.ref b3)])) _
        refine XS.iload X30.here hx rfl (hb hby at_104) rfl ?_
        show Steps p.tables e below (T30.setTop (mkF m 106 #[.val (.int p1), .val (.int p2), .val (.int p3), .val (.int p4), .val (.int p5), .val (.ref b3), .val (.int vv), .val (.int (Int32.ofNat f)), .val (.int (Int32.ofNat t)), .val (.int (own_idx xs vv (t - f) f)), .unset] [(.int vv), (.int (1 : Int32)), (.ref b3)])) _
        refine XS.iload X30.here hx rfl (hb hby at_106) rfl ?_
        show Steps p.tables e below (T30.setTop (mkF m 108 #[.val (.int p1), .val (.int p2), .val (.int p3), .val (.int p4), .val (.int p5), .val (.ref b3), .val (.int vv), .val (.int (Int32.ofNat f)), .val (.int (Int32.ofNat t)), .val (.int (own_idx xs vv (t - f) f)), .unset] [(.int (Int32.ofNat f)), (.int vv), (.int (1 : Int32)), (.ref b3)])) _
        refine XS.iload X30.here hx rfl (hb hby at_108) rfl ?_
        show Steps p.tables e below (T30.setTop (mkF m 110 #[.val (.int p1), .val (.int p2), .val (.int p3), .val (.int p4), .val (.int p5), .val (.ref b3), .val (.int vv), .val (.int (Int32.ofNat f)), .val (.int (Int32.ofNat t)), .val (.int (own_idx xs vv (t - f) f)), .unset] [(.int (Int32.ofNat t)), (.int (Int32.ofNat f)), (.int vv), (.int (1 : Int32)), (.ref b3)])) _
        refine st31 _ ?_
        show Steps p.tables e below (T31.setTop (mkF m 113 #[.val (.int p1), .val (.int p2), .val (.int p3), .val (.int p4), .val (.int p5), .val (.ref b3), .val (.int vv), .val (.int (Int32.ofNat f)), .val (.int (Int32.ofNat t)), .val (.int (own_idx xs vv (t - f) f)), .unset] [(.int u1)])) _
        refine XS.ifNo X31.here hx rfl (hb hby at_113) rfl ((if0 _ _).trans (feq c1).1) ?_
        show Steps p.tables e below (T31.setTop (mkF m 116 #[.val (.int p1), .val (.int p2), .val (.int p3), .val (.int p4), .val (.int p5), .val (.ref b3), .val (.int vv), .val (.int (Int32.ofNat f)), .val (.int (Int32.ofNat t)), .val (.int (own_idx xs vv (t - f) f)), .unset] [])) _
        refine XS.iconst X31.here hx rfl (hb hby at_116) ?_
        show Steps p.tables e below (T31.setTop (mkF m 117 #[.val (.int p1), .val (.int p2), .val (.int p3), .val (.int p4), .val (.int p5), .val (.ref b3), .val (.int vv), .val (.int (Int32.ofNat f)), .val (.int (Int32.ofNat t)), .val (.int (own_idx xs vv (t - f) f)), .unset] [(.int (1 : Int32))])) _
        refine XS.istore X31.here hx rfl (hb hby at_117) rfl (l' := #[.val (.int p1), .val (.int p2), .val (.int p3), .val (.int p4), .val (.int p5), .val (.ref b3), .val (.int vv), .val (.int (Int32.ofNat f)), .val (.int (Int32.ofNat t)), .val (.int (own_idx xs vv (t - f) f)), .val (.int (1 : Int32))]) rfl ?_
        show Steps p.tables e below (T31.setTop (mkF m 119 #[.val (.int p1), .val (.int p2), .val (.int p3), .val (.int p4), .val (.int p5), .val (.ref b3), .val (.int vv), .val (.int (Int32.ofNat f)), .val (.int (Int32.ofNat t)), .val (.int (own_idx xs vv (t - f) f)), .val (.int (1 : Int32))] [])) _
        refine XS.goto X31.here hx rfl (pc0 := 119) (pc' := 188) rfl (hb hby at_119) (by decide) (by decide) ?_
        show Steps p.tables e below (T31.setTop (mkF m 188 #[.val (.int p1), .val (.int p2), .val (.int p3), .val (.int p4), .val (.int p5), .val (.ref b3), .val (.int vv), .val (.int (Int32.ofNat f)), .val (.int (Int32.ofNat t)), .val (.int (own_idx xs vv (t - f) f)), .val (.int (1 : Int32))] [])) _
        refine XS.iload X31.here hx rfl (hb hby at_188) rfl ?_
        show Steps p.tables e below (T31.setTop (mkF m 190 #[.val (.int p1), .val (.int p2), .val (.int p3), .val (.int p4), .val (.int p5), .val (.ref b3), .val (.int vv), .val (.int (Int32.ofNat f)), .val (.int (Int32.ofNat t)), .val (.int (own_idx xs vv (t - f) f)), .val (.int (1 : Int32))] [(.int (own_idx xs vv (t - f) f))])) _
        refine XS.iload X31.here hx rfl (hb hby at_190) rfl ?_
        show Steps p.tables e below (T31.setTop (mkF m 192 #[.val (.int p1), .val (.int p2), .val (.int p3), .val (.int p4), .val (.int p5), .val (.ref b3), .val (.int vv), .val (.int (Int32.ofNat f)), .val (.int (Int32.ofNat t)), .val (.int (own_idx xs vv (t - f) f)), .val (.int (1 : Int32))] [(.int (1 : Int32)), (.int (own_idx xs vv (t - f) f))])) _
        refine XS.icmpNo X31.here hx rfl (hb hby at_192) rfl (teq k1).2 ?_
        show Steps p.tables e below (T31.setTop (mkF m 195 #[.val (.int p1), .val (.int p2), .val (.int p3), .val (.int p4), .val (.int p5), .val (.ref b3), .val (.int vv), .val (.int (Int32.ofNat f)), .val (.int (Int32.ofNat t)), .val (.int (own_idx xs vv (t - f) f)), .val (.int (1 : Int32))] [])) _
        refine XS.iconst X31.here hx rfl (hb hby at_195) ?_
        show Steps p.tables e below (T31.setTop (mkF m 196 #[.val (.int p1), .val (.int p2), .val (.int p3), .val (.int p4), .val (.int p5), .val (.ref b3), .val (.int vv), .val (.int (Int32.ofNat f)), .val (.int (Int32.ofNat t)), .val (.int (own_idx xs vv (t - f) f)), .val (.int (1 : Int32))] [(.int (1 : Int32))])) _
        refine XS.goto X31.here hx rfl (pc0 := 196) (pc' := 200) rfl (hb hby at_196) (by decide) (by decide) ?_
        show Steps p.tables e below (T31.setTop (mkF m 200 #[.val (.int p1), .val (.int p2), .val (.int p3), .val (.int p4), .val (.int p5), .val (.ref b3), .val (.int vv), .val (.int (Int32.ofNat f)), .val (.int (Int32.ofNat t)), .val (.int (own_idx xs vv (t - f) f)), .val (.int (1 : Int32))] [(.int (1 : Int32))])) _
        exact retN X31 hx (t := .boolean) Bd.returns (by simp) (hb hby at_200) hr
      · show Q0 Z p1 p2 p3 p4 p5 h0 n0 _ T31.heap _
        exact ⟨rfl, N31⟩
  · have k1 : (own_idx xs vv (t - f) f) = (0 : Int32) := own_at 0 (Classical.byContradiction fun q => c0 (z0.mpr q)) (fun q hq => absurd hq (Nat.not_lt_zero q))
    obtain ⟨fs, hr, hrun, hended, hW, hsame⟩ := X30.leave (v := some (.int (1 : Int32))) (fun h => by rw [Bd.returns] at h; cases h)
    refine ⟨_, _, pre0 _ ?_, hrun, hended, _, _, rfl, ?_, ⟨_, rfl⟩, hW, hsame.mono (by decide) (by decide)⟩
    · show Steps p.tables e below (s₁.setTop (mkF m 0 #[.val (.int p1), .val (.int p2), .val (.int p3), .val (.int p4), .val (.int p5), .unset, .unset, .unset, .unset, .unset, .unset] [])) _
      refine XS.iconst X0.here hx rfl (hb hby at_0) ?_
      show Steps p.tables e below (s₁.setTop (mkF m 1 #[.val (.int p1), .val (.int p2), .val (.int p3), .val (.int p4), .val (.int p5), .unset, .unset, .unset, .unset, .unset, .unset] [(.int (5 : Int32))])) _
      refine st3 _ ?_
      show Steps p.tables e below (T3.setTop (mkF m 3 #[.val (.int p1), .val (.int p2), .val (.int p3), .val (.int p4), .val (.int p5), .unset, .unset, .unset, .unset, .unset, .unset] [(.ref b3)])) _
      refine XS.astore X3.here hx rfl (hb hby at_3) rfl rfl (l' := #[.val (.int p1), .val (.int p2), .val (.int p3), .val (.int p4), .val (.int p5), .val (.ref b3), .unset, .unset, .unset, .unset, .unset]) rfl ?_
      show Steps p.tables e below (T3.setTop (mkF m 5 #[.val (.int p1), .val (.int p2), .val (.int p3), .val (.int p4), .val (.int p5), .val (.ref b3), .unset, .unset, .unset, .unset, .unset] [])) _
      refine XS.aload X3.here hx rfl (hb hby at_5) rfl rfl ?_
      show Steps p.tables e below (T3.setTop (mkF m 7 #[.val (.int p1), .val (.int p2), .val (.int p3), .val (.int p4), .val (.int p5), .val (.ref b3), .unset, .unset, .unset, .unset, .unset] [(.ref b3)])) _
      refine XS.iconst X3.here hx rfl (hb hby at_7) ?_
      show Steps p.tables e below (T3.setTop (mkF m 8 #[.val (.int p1), .val (.int p2), .val (.int p3), .val (.int p4), .val (.int p5), .val (.ref b3), .unset, .unset, .unset, .unset, .unset] [(.int (0 : Int32)), (.ref b3)])) _
      refine XS.iloadN X3.here hx rfl (hb hby at_8) rfl ?_
      show Steps p.tables e below (T3.setTop (mkF m 9 #[.val (.int p1), .val (.int p2), .val (.int p3), .val (.int p4), .val (.int p5), .val (.ref b3), .unset, .unset, .unset, .unset, .unset] [(.int p1), (.int (0 : Int32)), (.ref b3)])) _
      refine XS.i2b X3.here hx rfl (hb hby at_9) rfl ?_
      show Steps p.tables e below (T3.setTop (mkF m 10 #[.val (.int p1), .val (.int p2), .val (.int p3), .val (.int p4), .val (.int p5), .val (.ref b3), .unset, .unset, .unset, .unset, .unset] [(.int (p1.toInt8.toInt32)), (.int (0 : Int32)), (.ref b3)])) _
      rw [← hx0]
      show Steps p.tables e below (T3.setTop (mkF m 10 #[.val (.int p1), .val (.int p2), .val (.int p3), .val (.int p4), .val (.int p5), .val (.ref b3), .unset, .unset, .unset, .unset, .unset] [(.int x0), (.int (0 : Int32)), (.ref b3)])) _
      refine st4 _ ?_
      show Steps p.tables e below (T4.setTop (mkF m 11 #[.val (.int p1), .val (.int p2), .val (.int p3), .val (.int p4), .val (.int p5), .val (.ref b3), .unset, .unset, .unset, .unset, .unset] [])) _
      refine XS.aload X4.here hx rfl (hb hby at_11) rfl rfl ?_
      show Steps p.tables e below (T4.setTop (mkF m 13 #[.val (.int p1), .val (.int p2), .val (.int p3), .val (.int p4), .val (.int p5), .val (.ref b3), .unset, .unset, .unset, .unset, .unset] [(.ref b3)])) _
      refine XS.iconst X4.here hx rfl (hb hby at_13) ?_
      show Steps p.tables e below (T4.setTop (mkF m 14 #[.val (.int p1), .val (.int p2), .val (.int p3), .val (.int p4), .val (.int p5), .val (.ref b3), .unset, .unset, .unset, .unset, .unset] [(.int (1 : Int32)), (.ref b3)])) _
      refine XS.iloadN X4.here hx rfl (hb hby at_14) rfl ?_
      show Steps p.tables e below (T4.setTop (mkF m 15 #[.val (.int p1), .val (.int p2), .val (.int p3), .val (.int p4), .val (.int p5), .val (.ref b3), .unset, .unset, .unset, .unset, .unset] [(.int p1), (.int (1 : Int32)), (.ref b3)])) _
      refine XS.bipush X4.here hx rfl (hb hby at_15) ?_
      show Steps p.tables e below (T4.setTop (mkF m 17 #[.val (.int p1), .val (.int p2), .val (.int p3), .val (.int p4), .val (.int p5), .val (.ref b3), .unset, .unset, .unset, .unset, .unset] [(.int (8 : Int32)), (.int p1), (.int (1 : Int32)), (.ref b3)])) _
      refine XS.ishr X4.here hx rfl (hb hby at_17) rfl ?_
      show Steps p.tables e below (T4.setTop (mkF m 18 #[.val (.int p1), .val (.int p2), .val (.int p3), .val (.int p4), .val (.int p5), .val (.ref b3), .unset, .unset, .unset, .unset, .unset] [(.int (p1 >>> ((8 : Int32) &&& 31))), (.int (1 : Int32)), (.ref b3)])) _
      refine XS.i2b X4.here hx rfl (hb hby at_18) rfl ?_
      show Steps p.tables e below (T4.setTop (mkF m 19 #[.val (.int p1), .val (.int p2), .val (.int p3), .val (.int p4), .val (.int p5), .val (.ref b3), .unset, .unset, .unset, .unset, .unset] [(.int ((p1 >>> ((8 : Int32) &&& 31)).toInt8.toInt32)), (.int (1 : Int32)), (.ref b3)])) _
      rw [← hx1]
      show Steps p.tables e below (T4.setTop (mkF m 19 #[.val (.int p1), .val (.int p2), .val (.int p3), .val (.int p4), .val (.int p5), .val (.ref b3), .unset, .unset, .unset, .unset, .unset] [(.int x1), (.int (1 : Int32)), (.ref b3)])) _
      refine st5 _ ?_
      show Steps p.tables e below (T5.setTop (mkF m 20 #[.val (.int p1), .val (.int p2), .val (.int p3), .val (.int p4), .val (.int p5), .val (.ref b3), .unset, .unset, .unset, .unset, .unset] [])) _
      refine XS.aload X5.here hx rfl (hb hby at_20) rfl rfl ?_
      show Steps p.tables e below (T5.setTop (mkF m 22 #[.val (.int p1), .val (.int p2), .val (.int p3), .val (.int p4), .val (.int p5), .val (.ref b3), .unset, .unset, .unset, .unset, .unset] [(.ref b3)])) _
      refine XS.iconst X5.here hx rfl (hb hby at_22) ?_
      show Steps p.tables e below (T5.setTop (mkF m 23 #[.val (.int p1), .val (.int p2), .val (.int p3), .val (.int p4), .val (.int p5), .val (.ref b3), .unset, .unset, .unset, .unset, .unset] [(.int (2 : Int32)), (.ref b3)])) _
      refine XS.iloadN X5.here hx rfl (hb hby at_23) rfl ?_
      show Steps p.tables e below (T5.setTop (mkF m 24 #[.val (.int p1), .val (.int p2), .val (.int p3), .val (.int p4), .val (.int p5), .val (.ref b3), .unset, .unset, .unset, .unset, .unset] [(.int p1), (.int (2 : Int32)), (.ref b3)])) _
      refine XS.bipush X5.here hx rfl (hb hby at_24) ?_
      show Steps p.tables e below (T5.setTop (mkF m 26 #[.val (.int p1), .val (.int p2), .val (.int p3), .val (.int p4), .val (.int p5), .val (.ref b3), .unset, .unset, .unset, .unset, .unset] [(.int (16 : Int32)), (.int p1), (.int (2 : Int32)), (.ref b3)])) _
      refine XS.ishr X5.here hx rfl (hb hby at_26) rfl ?_
      show Steps p.tables e below (T5.setTop (mkF m 27 #[.val (.int p1), .val (.int p2), .val (.int p3), .val (.int p4), .val (.int p5), .val (.ref b3), .unset, .unset, .unset, .unset, .unset] [(.int (p1 >>> ((16 : Int32) &&& 31))), (.int (2 : Int32)), (.ref b3)])) _
      refine XS.i2b X5.here hx rfl (hb hby at_27) rfl ?_
      show Steps p.tables e below (T5.setTop (mkF m 28 #[.val (.int p1), .val (.int p2), .val (.int p3), .val (.int p4), .val (.int p5), .val (.ref b3), .unset, .unset, .unset, .unset, .unset] [(.int ((p1 >>> ((16 : Int32) &&& 31)).toInt8.toInt32)), (.int (2 : Int32)), (.ref b3)])) _
      rw [← hx2]
      show Steps p.tables e below (T5.setTop (mkF m 28 #[.val (.int p1), .val (.int p2), .val (.int p3), .val (.int p4), .val (.int p5), .val (.ref b3), .unset, .unset, .unset, .unset, .unset] [(.int x2), (.int (2 : Int32)), (.ref b3)])) _
      refine st6 _ ?_
      show Steps p.tables e below (T6.setTop (mkF m 29 #[.val (.int p1), .val (.int p2), .val (.int p3), .val (.int p4), .val (.int p5), .val (.ref b3), .unset, .unset, .unset, .unset, .unset] [])) _
      refine XS.aload X6.here hx rfl (hb hby at_29) rfl rfl ?_
      show Steps p.tables e below (T6.setTop (mkF m 31 #[.val (.int p1), .val (.int p2), .val (.int p3), .val (.int p4), .val (.int p5), .val (.ref b3), .unset, .unset, .unset, .unset, .unset] [(.ref b3)])) _
      refine XS.iconst X6.here hx rfl (hb hby at_31) ?_
      show Steps p.tables e below (T6.setTop (mkF m 32 #[.val (.int p1), .val (.int p2), .val (.int p3), .val (.int p4), .val (.int p5), .val (.ref b3), .unset, .unset, .unset, .unset, .unset] [(.int (3 : Int32)), (.ref b3)])) _
      refine XS.iloadN X6.here hx rfl (hb hby at_32) rfl ?_
      show Steps p.tables e below (T6.setTop (mkF m 33 #[.val (.int p1), .val (.int p2), .val (.int p3), .val (.int p4), .val (.int p5), .val (.ref b3), .unset, .unset, .unset, .unset, .unset] [(.int p1), (.int (3 : Int32)), (.ref b3)])) _
      refine XS.bipush X6.here hx rfl (hb hby at_33) ?_
      show Steps p.tables e below (T6.setTop (mkF m 35 #[.val (.int p1), .val (.int p2), .val (.int p3), .val (.int p4), .val (.int p5), .val (.ref b3), .unset, .unset, .unset, .unset, .unset] [(.int (24 : Int32)), (.int p1), (.int (3 : Int32)), (.ref b3)])) _
      refine XS.iushr X6.here hx rfl (hb hby at_35) rfl ?_
      show Steps p.tables e below (T6.setTop (mkF m 36 #[.val (.int p1), .val (.int p2), .val (.int p3), .val (.int p4), .val (.int p5), .val (.ref b3), .unset, .unset, .unset, .unset, .unset] [(.int ((p1.toUInt32 >>> ((24 : Int32) &&& 31).toUInt32).toInt32)), (.int (3 : Int32)), (.ref b3)])) _
      refine XS.i2b X6.here hx rfl (hb hby at_36) rfl ?_
      show Steps p.tables e below (T6.setTop (mkF m 37 #[.val (.int p1), .val (.int p2), .val (.int p3), .val (.int p4), .val (.int p5), .val (.ref b3), .unset, .unset, .unset, .unset, .unset] [(.int (((p1.toUInt32 >>> ((24 : Int32) &&& 31).toUInt32).toInt32).toInt8.toInt32)), (.int (3 : Int32)), (.ref b3)])) _
      rw [← hx3]
      show Steps p.tables e below (T6.setTop (mkF m 37 #[.val (.int p1), .val (.int p2), .val (.int p3), .val (.int p4), .val (.int p5), .val (.ref b3), .unset, .unset, .unset, .unset, .unset] [(.int x3), (.int (3 : Int32)), (.ref b3)])) _
      refine st7 _ ?_
      show Steps p.tables e below (T7.setTop (mkF m 38 #[.val (.int p1), .val (.int p2), .val (.int p3), .val (.int p4), .val (.int p5), .val (.ref b3), .unset, .unset, .unset, .unset, .unset] [])) _
      refine XS.aload X7.here hx rfl (hb hby at_38) rfl rfl ?_
      show Steps p.tables e below (T7.setTop (mkF m 40 #[.val (.int p1), .val (.int p2), .val (.int p3), .val (.int p4), .val (.int p5), .val (.ref b3), .unset, .unset, .unset, .unset, .unset] [(.ref b3)])) _
      refine XS.iconst X7.here hx rfl (hb hby at_40) ?_
      show Steps p.tables e below (T7.setTop (mkF m 41 #[.val (.int p1), .val (.int p2), .val (.int p3), .val (.int p4), .val (.int p5), .val (.ref b3), .unset, .unset, .unset, .unset, .unset] [(.int (4 : Int32)), (.ref b3)])) _
      refine XS.iloadN X7.here hx rfl (hb hby at_41) rfl ?_
      show Steps p.tables e below (T7.setTop (mkF m 42 #[.val (.int p1), .val (.int p2), .val (.int p3), .val (.int p4), .val (.int p5), .val (.ref b3), .unset, .unset, .unset, .unset, .unset] [(.int p2), (.int (4 : Int32)), (.ref b3)])) _
      refine XS.i2b X7.here hx rfl (hb hby at_42) rfl ?_
      show Steps p.tables e below (T7.setTop (mkF m 43 #[.val (.int p1), .val (.int p2), .val (.int p3), .val (.int p4), .val (.int p5), .val (.ref b3), .unset, .unset, .unset, .unset, .unset] [(.int (p2.toInt8.toInt32)), (.int (4 : Int32)), (.ref b3)])) _
      rw [← hx4]
      show Steps p.tables e below (T7.setTop (mkF m 43 #[.val (.int p1), .val (.int p2), .val (.int p3), .val (.int p4), .val (.int p5), .val (.ref b3), .unset, .unset, .unset, .unset, .unset] [(.int x4), (.int (4 : Int32)), (.ref b3)])) _
      refine st8 _ ?_
      show Steps p.tables e below (T8.setTop (mkF m 44 #[.val (.int p1), .val (.int p2), .val (.int p3), .val (.int p4), .val (.int p5), .val (.ref b3), .unset, .unset, .unset, .unset, .unset] [])) _
      refine XS.iloadN X8.here hx rfl (hb hby at_44) rfl ?_
      show Steps p.tables e below (T8.setTop (mkF m 45 #[.val (.int p1), .val (.int p2), .val (.int p3), .val (.int p4), .val (.int p5), .val (.ref b3), .unset, .unset, .unset, .unset, .unset] [(.int p3)])) _
      refine XS.i2b X8.here hx rfl (hb hby at_45) rfl ?_
      show Steps p.tables e below (T8.setTop (mkF m 46 #[.val (.int p1), .val (.int p2), .val (.int p3), .val (.int p4), .val (.int p5), .val (.ref b3), .unset, .unset, .unset, .unset, .unset] [(.int (p3.toInt8.toInt32))])) _
      refine XS.istore X8.here hx rfl (hb hby at_46) rfl (l' := #[.val (.int p1), .val (.int p2), .val (.int p3), .val (.int p4), .val (.int p5), .val (.ref b3), .val (.int (p3.toInt8.toInt32)), .unset, .unset, .unset, .unset]) rfl ?_
      show Steps p.tables e below (T8.setTop (mkF m 48 #[.val (.int p1), .val (.int p2), .val (.int p3), .val (.int p4), .val (.int p5), .val (.ref b3), .val (.int (p3.toInt8.toInt32)), .unset, .unset, .unset, .unset] [])) _
      rw [← hvv]
      show Steps p.tables e below (T8.setTop (mkF m 48 #[.val (.int p1), .val (.int p2), .val (.int p3), .val (.int p4), .val (.int p5), .val (.ref b3), .val (.int vv), .unset, .unset, .unset, .unset] [])) _
      refine XS.iloadN X8.here hx rfl (hb hby at_48) rfl ?_
      show Steps p.tables e below (T8.setTop (mkF m 49 #[.val (.int p1), .val (.int p2), .val (.int p3), .val (.int p4), .val (.int p5), .val (.ref b3), .val (.int vv), .unset, .unset, .unset, .unset] [(.int p4)])) _
      refine X8.ldcInt hx hown (mvT hZ (hw _ (List.mem_of_getElem? (i := 1) rfl))) (g := (mkF m 49 #[.val (.int p1), .val (.int p2), .val (.int p3), .val (.int p4), .val (.int p5), .val (.ref b3), .val (.int vv), .unset, .unset, .unset, .unset] [(.int p4)])) rfl (hb hby at_49) _ ?_
      show Steps p.tables e below (T8.setTop (mkF m 51 #[.val (.int p1), .val (.int p2), .val (.int p3), .val (.int p4), .val (.int p5), .val (.ref b3), .val (.int vv), .unset, .unset, .unset, .unset] [(.int (2147483647 : Int32)), (.int p4)])) _
      refine XS.iand X8.here hx rfl (hb hby at_51) rfl ?_
      show Steps p.tables e below (T8.setTop (mkF m 52 #[.val (.int p1), .val (.int p2), .val (.int p3), .val (.int p4), .val (.int p5), .val (.ref b3), .val (.int vv), .unset, .unset, .unset, .unset] [(.int (p4 &&& (2147483647 : Int32)))])) _
      refine XS.bipush X8.here hx rfl (hb hby at_52) ?_
      show Steps p.tables e below (T8.setTop (mkF m 54 #[.val (.int p1), .val (.int p2), .val (.int p3), .val (.int p4), .val (.int p5), .val (.ref b3), .val (.int vv), .unset, .unset, .unset, .unset] [(.int (6 : Int32)), (.int (p4 &&& (2147483647 : Int32)))])) _
      refine XS.irem X8.here hx rfl (hb hby at_54) rfl (by decide) ?_
      show Steps p.tables e below (T8.setTop (mkF m 55 #[.val (.int p1), .val (.int p2), .val (.int p3), .val (.int p4), .val (.int p5), .val (.ref b3), .val (.int vv), .unset, .unset, .unset, .unset] [(.int ((p4 &&& (2147483647 : Int32)) - ((p4 &&& (2147483647 : Int32)) / (6 : Int32)) * (6 : Int32)))])) _
      refine XS.istore X8.here hx rfl (hb hby at_55) rfl (l' := #[.val (.int p1), .val (.int p2), .val (.int p3), .val (.int p4), .val (.int p5), .val (.ref b3), .val (.int vv), .val (.int ((p4 &&& (2147483647 : Int32)) - ((p4 &&& (2147483647 : Int32)) / (6 : Int32)) * (6 : Int32))), .unset, .unset, .unset]) rfl ?_
      show Steps p.tables e below (T8.setTop (mkF m 57 #[.val (.int p1), .val (.int p2), .val (.int p3), .val (.int p4), .val (.int p5), .val (.ref b3), .val (.int vv), .val (.int ((p4 &&& (2147483647 : Int32)) - ((p4 &&& (2147483647 : Int32)) / (6 : Int32)) * (6 : Int32))), .unset, .unset, .unset] [])) _
      rw [ef]
      show Steps p.tables e below (T8.setTop (mkF m 57 #[.val (.int p1), .val (.int p2), .val (.int p3), .val (.int p4), .val (.int p5), .val (.ref b3), .val (.int vv), .val (.int (Int32.ofNat f)), .unset, .unset, .unset] [])) _
      refine XS.iload X8.here hx rfl (hb hby at_57) rfl ?_
      show Steps p.tables e below (T8.setTop (mkF m 59 #[.val (.int p1), .val (.int p2), .val (.int p3), .val (.int p4), .val (.int p5), .val (.ref b3), .val (.int vv), .val (.int (Int32.ofNat f)), .unset, .unset, .unset] [(.int p5)])) _
      refine X8.ldcInt hx hown (mvT hZ (hw _ (List.mem_of_getElem? (i := 1) rfl))) (g := (mkF m 59 #[.val (.int p1), .val (.int p2), .val (.int p3), .val (.int p4), .val (.int p5), .val (.ref b3), .val (.int vv), .val (.int (Int32.ofNat f)), .unset, .unset, .unset] [(.int p5)])) rfl (hb hby at_59) _ ?_
      show Steps p.tables e below (T8.setTop (mkF m 61 #[.val (.int p1), .val (.int p2), .val (.int p3), .val (.int p4), .val (.int p5), .val (.ref b3), .val (.int vv), .val (.int (Int32.ofNat f)), .unset, .unset, .unset] [(.int (2147483647 : Int32)), (.int p5)])) _
      refine XS.iand X8.here hx rfl (hb hby at_61) rfl ?_
      show Steps p.tables e below (T8.setTop (mkF m 62 #[.val (.int p1), .val (.int p2), .val (.int p3), .val (.int p4), .val (.int p5), .val (.ref b3), .val (.int vv), .val (.int (Int32.ofNat f)), .unset, .unset, .unset] [(.int (p5 &&& (2147483647 : Int32)))])) _
      refine XS.bipush X8.here hx rfl (hb hby at_62) ?_
      show Steps p.tables e below (T8.setTop (mkF m 64 #[.val (.int p1), .val (.int p2), .val (.int p3), .val (.int p4), .val (.int p5), .val (.ref b3), .val (.int vv), .val (.int (Int32.ofNat f)), .unset, .unset, .unset] [(.int (6 : Int32)), (.int (p5 &&& (2147483647 : Int32)))])) _
      refine XS.irem X8.here hx rfl (hb hby at_64) rfl (by decide) ?_
      show Steps p.tables e below (T8.setTop (mkF m 65 #[.val (.int p1), .val (.int p2), .val (.int p3), .val (.int p4), .val (.int p5), .val (.ref b3), .val (.int vv), .val (.int (Int32.ofNat f)), .unset, .unset, .unset] [(.int ((p5 &&& (2147483647 : Int32)) - ((p5 &&& (2147483647 : Int32)) / (6 : Int32)) * (6 : Int32)))])) _
      refine XS.istore X8.here hx rfl (hb hby at_65) rfl (l' := #[.val (.int p1), .val (.int p2), .val (.int p3), .val (.int p4), .val (.int p5), .val (.ref b3), .val (.int vv), .val (.int (Int32.ofNat f)), .val (.int ((p5 &&& (2147483647 : Int32)) - ((p5 &&& (2147483647 : Int32)) / (6 : Int32)) * (6 : Int32))), .unset, .unset]) rfl ?_
      show Steps p.tables e below (T8.setTop (mkF m 67 #[.val (.int p1), .val (.int p2), .val (.int p3), .val (.int p4), .val (.int p5), .val (.ref b3), .val (.int vv), .val (.int (Int32.ofNat f)), .val (.int ((p5 &&& (2147483647 : Int32)) - ((p5 &&& (2147483647 : Int32)) / (6 : Int32)) * (6 : Int32))), .unset, .unset] [])) _
      rw [et]
      show Steps p.tables e below (T8.setTop (mkF m 67 #[.val (.int p1), .val (.int p2), .val (.int p3), .val (.int p4), .val (.int p5), .val (.ref b3), .val (.int vv), .val (.int (Int32.ofNat f)), .val (.int (Int32.ofNat t)), .unset, .unset] [])) _
      refine XS.aload X8.here hx rfl (hb hby at_67) rfl rfl ?_
      show Steps p.tables e below (T8.setTop (mkF m 69 #[.val (.int p1), .val (.int p2), .val (.int p3), .val (.int p4), .val (.int p5), .val (.ref b3), .val (.int vv), .val (.int (Int32.ofNat f)), .val (.int (Int32.ofNat t)), .unset, .unset] [(.ref b3)])) _
      refine XS.iload X8.here hx rfl (hb hby at_69) rfl ?_
      show Steps p.tables e below (T8.setTop (mkF m 71 #[.val (.int p1), .val (.int p2), .val (.int p3), .val (.int p4), .val (.int p5), .val (.ref b3), .val (.int vv), .val (.int (Int32.ofNat f)), .val (.int (Int32.ofNat t)), .unset, .unset] [(.int vv), (.ref b3)])) _
      refine XS.iload X8.here hx rfl (hb hby at_71) rfl ?_
      show Steps p.tables e below (T8.setTop (mkF m 73 #[.val (.int p1), .val (.int p2), .val (.int p3), .val (.int p4), .val (.int p5), .val (.ref b3), .val (.int vv), .val (.int (Int32.ofNat f)), .val (.int (Int32.ofNat t)), .unset, .unset] [(.int (Int32.ofNat f)), (.int vv), (.ref b3)])) _
      refine XS.iload X8.here hx rfl (hb hby at_73) rfl ?_
      show Steps p.tables e below (T8.setTop (mkF m 75 #[.val (.int p1), .val (.int p2), .val (.int p3), .val (.int p4), .val (.int p5), .val (.ref b3), .val (.int vv), .val (.int (Int32.ofNat f)), .val (.int (Int32.ofNat t)), .unset, .unset] [(.int (Int32.ofNat t)), (.int (Int32.ofNat f)), (.int vv), (.ref b3)])) _
      refine st20 _ ?_
      show Steps p.tables e below (T20.setTop (mkF m 78 #[.val (.int p1), .val (.int p2), .val (.int p3), .val (.int p4), .val (.int p5), .val (.ref b3), .val (.int vv), .val (.int (Int32.ofNat f)), .val (.int (Int32.ofNat t)), .unset, .unset] [(.int (own_idx xs vv (t - f) f))])) _
      refine XS.istore X20.here hx rfl (hb hby at_78) rfl (l' := #[.val (.int p1), .val (.int p2), .val (.int p3), .val (.int p4), .val (.int p5), .val (.ref b3), .val (.int vv), .val (.int (Int32.ofNat f)), .val (.int (Int32.ofNat t)), .val (.int (own_idx xs vv (t - f) f)), .unset]) rfl ?_
      show Steps p.tables e below (T20.setTop (mkF m 80 #[.val (.int p1), .val (.int p2), .val (.int p3), .val (.int p4), .val (.int p5), .val (.ref b3), .val (.int vv), .val (.int (Int32.ofNat f)), .val (.int (Int32.ofNat t)), .val (.int (own_idx xs vv (t - f) f)), .unset] [])) _
      refine XS.aload X20.here hx rfl (hb hby at_80) rfl rfl ?_
      show Steps p.tables e below (T20.setTop (mkF m 82 #[.val (.int p1), .val (.int p2), .val (.int p3), .val (.int p4), .val (.int p5), .val (.ref b3), .val (.int vv), .val (.int (Int32.ofNat f)), .val (.int (Int32.ofNat t)), .val (.int (own_idx xs vv (t - f) f)), .unset] [(.ref b3)])) _
      refine XS.iconst X20.here hx rfl (hb hby at_82) ?_
      show Steps p.tables e below (T20.setTop (mkF m 83 #[.val (.int p1), .val (.int p2), .val (.int p3), .val (.int p4), .val (.int p5), .val (.ref b3), .val (.int vv), .val (.int (Int32.ofNat f)), .val (.int (Int32.ofNat t)), .val (.int (own_idx xs vv (t - f) f)), .unset] [(.int (0 : Int32)), (.ref b3)])) _
      refine XS.iload X20.here hx rfl (hb hby at_83) rfl ?_
      show Steps p.tables e below (T20.setTop (mkF m 85 #[.val (.int p1), .val (.int p2), .val (.int p3), .val (.int p4), .val (.int p5), .val (.ref b3), .val (.int vv), .val (.int (Int32.ofNat f)), .val (.int (Int32.ofNat t)), .val (.int (own_idx xs vv (t - f) f)), .unset] [(.int vv), (.int (0 : Int32)), (.ref b3)])) _
      refine XS.iload X20.here hx rfl (hb hby at_85) rfl ?_
      show Steps p.tables e below (T20.setTop (mkF m 87 #[.val (.int p1), .val (.int p2), .val (.int p3), .val (.int p4), .val (.int p5), .val (.ref b3), .val (.int vv), .val (.int (Int32.ofNat f)), .val (.int (Int32.ofNat t)), .val (.int (own_idx xs vv (t - f) f)), .unset] [(.int (Int32.ofNat f)), (.int vv), (.int (0 : Int32)), (.ref b3)])) _
      refine XS.iload X20.here hx rfl (hb hby at_87) rfl ?_
      show Steps p.tables e below (T20.setTop (mkF m 89 #[.val (.int p1), .val (.int p2), .val (.int p3), .val (.int p4), .val (.int p5), .val (.ref b3), .val (.int vv), .val (.int (Int32.ofNat f)), .val (.int (Int32.ofNat t)), .val (.int (own_idx xs vv (t - f) f)), .unset] [(.int (Int32.ofNat t)), (.int (Int32.ofNat f)), (.int vv), (.int (0 : Int32)), (.ref b3)])) _
      refine st30 _ ?_
      show Steps p.tables e below (T30.setTop (mkF m 92 #[.val (.int p1), .val (.int p2), .val (.int p3), .val (.int p4), .val (.int p5), .val (.ref b3), .val (.int vv), .val (.int (Int32.ofNat f)), .val (.int (Int32.ofNat t)), .val (.int (own_idx xs vv (t - f) f)), .unset] [(.int u0)])) _
      refine XS.ifNo X30.here hx rfl (hb hby at_92) rfl ((if0 _ _).trans (feq c0).1) ?_
      show Steps p.tables e below (T30.setTop (mkF m 95 #[.val (.int p1), .val (.int p2), .val (.int p3), .val (.int p4), .val (.int p5), .val (.ref b3), .val (.int vv), .val (.int (Int32.ofNat f)), .val (.int (Int32.ofNat t)), .val (.int (own_idx xs vv (t - f) f)), .unset] [])) _
      refine XS.iconst X30.here hx rfl (hb hby at_95) ?_
      show Steps p.tables e below (T30.setTop (mkF m 96 #[.val (.int p1), .val (.int p2), .val (.int p3), .val (.int p4), .val (.int p5), .val (.ref b3), .val (.int vv), .val (.int (Int32.ofNat f)), .val (.int (Int32.ofNat t)), .val (.int (own_idx xs vv (t - f) f)), .unset] [(.int (0 : Int32))])) _
      refine XS.istore X30.here hx rfl (hb hby at_96) rfl (l' := #[.val (.int p1), .val (.int p2), .val (.int p3), .val (.int p4), .val (.int p5), .val (.ref b3), .val (.int vv), .val (.int (Int32.ofNat f)), .val (.int (Int32.ofNat t)), .val (.int (own_idx xs vv (t - f) f)), .val (.int (0 : Int32))]) rfl ?_
      show Steps p.tables e below (T30.setTop (mkF m 98 #[.val (.int p1), .val (.int p2), .val (.int p3), .val (.int p4), .val (.int p5), .val (.ref b3), .val (.int vv), .val (.int (Int32.ofNat f)), .val (.int (Int32.ofNat t)), .val (.int (own_idx xs vv (t - f) f)), .val (.int (0 : Int32))] [])) _
      refine XS.goto X30.here hx rfl (pc0 := 98) (pc' := 188) rfl (hb hby at_98) (by decide) (by decide) ?_
      show Steps p.tables e below (T30.setTop (mkF m 188 #[.val (.int p1), .val (.int p2), .val (.int p3), .val (.int p4), .val (.int p5), .val (.ref b3), .val (.int vv), .val (.int (Int32.ofNat f)), .val (.int (Int32.ofNat t)), .val (.int (own_idx xs vv (t - f) f)), .val (.int (0 : Int32))] [])) _
      refine XS.iload X30.here hx rfl (hb hby at_188) rfl ?_
      show Steps p.tables e below (T30.setTop (mkF m 190 #[.val (.int p1), .val (.int p2), .val (.int p3), .val (.int p4), .val (.int p5), .val (.ref b3), .val (.int vv), .val (.int (Int32.ofNat f)), .val (.int (Int32.ofNat t)), .val (.int (own_idx xs vv (t - f) f)), .val (.int (0 : Int32))] [(.int (own_idx xs vv (t - f) f))])) _
      refine XS.iload X30.here hx rfl (hb hby at_190) rfl ?_
      show Steps p.tables e below (T30.setTop (mkF m 192 #[.val (.int p1), .val (.int p2), .val (.int p3), .val (.int p4), .val (.int p5), .val (.ref b3), .val (.int vv), .val (.int (Int32.ofNat f)), .val (.int (Int32.ofNat t)), .val (.int (own_idx xs vv (t - f) f)), .val (.int (0 : Int32))] [(.int (0 : Int32)), (.int (own_idx xs vv (t - f) f))])) _
      refine XS.icmpNo X30.here hx rfl (hb hby at_192) rfl (teq k1).2 ?_
      show Steps p.tables e below (T30.setTop (mkF m 195 #[.val (.int p1), .val (.int p2), .val (.int p3), .val (.int p4), .val (.int p5), .val (.ref b3), .val (.int vv), .val (.int (Int32.ofNat f)), .val (.int (Int32.ofNat t)), .val (.int (own_idx xs vv (t - f) f)), .val (.int (0 : Int32))] [])) _
      refine XS.iconst X30.here hx rfl (hb hby at_195) ?_
      show Steps p.tables e below (T30.setTop (mkF m 196 #[.val (.int p1), .val (.int p2), .val (.int p3), .val (.int p4), .val (.int p5), .val (.ref b3), .val (.int vv), .val (.int (Int32.ofNat f)), .val (.int (Int32.ofNat t)), .val (.int (own_idx xs vv (t - f) f)), .val (.int (0 : Int32))] [(.int (1 : Int32))])) _
      refine XS.goto X30.here hx rfl (pc0 := 196) (pc' := 200) rfl (hb hby at_196) (by decide) (by decide) ?_
      show Steps p.tables e below (T30.setTop (mkF m 200 #[.val (.int p1), .val (.int p2), .val (.int p3), .val (.int p4), .val (.int p5), .val (.ref b3), .val (.int vv), .val (.int (Int32.ofNat f)), .val (.int (Int32.ofNat t)), .val (.int (own_idx xs vv (t - f) f)), .val (.int (0 : Int32))] [(.int (1 : Int32))])) _
      exact retN X30 hx (t := .boolean) Bd.returns (by simp) (hb hby at_200) hr
    · show Q0 Z p1 p2 p3 p4 p5 h0 n0 _ T30.heap _
      exact ⟨rfl, N30⟩
set_option maxRecDepth 65536 in
set_option maxHeartbeats 40000000 in
theorem comes_1 {Post : Tables → Env → Array Value → State → Outcome → State → Prop} (hpost : ∀ tb e args s v u, (limb_1_1.after args s (.returned v) u = true ∧ limb_1_2.after args s (.returned v) u = true ∧ True) → FrameEnd s (.returned v) u (Jvm.fieldLocs frame_1_writes args s ++ Jvm.arrayLocs frame_1_arrays args s ++ Jvm.staticLocs frame_1_statics s) 16 128 → Post tb e args s (.returned v) u) :
    ArmFor flags0 classFile x code maxLocals ret World_1 tables_1 room_1 Calls_1 rest_1 Pre_1 Post := by
  intro l hfl _ _ p e ha hc hk s m args below hf hA hF happ hP
  obtain ⟨hcalls, hrest, hpre⟩ := hP
  obtain ⟨-, -, -, hnamed, -, -, -, hat⟩ := (Spec.applies_iff hf).mp happ
  obtain ⟨hg, hn⟩ := and_e (Cond.before_iff.mp (show (Jvm.Cond.and given_1 narrow_1).before args s = true from hpre))
  obtain ⟨gc, r0⟩ := and_e hg
  obtain ⟨k0, r1⟩ := and_e r0
  obtain ⟨k1, r2⟩ := and_e r1
  obtain ⟨k2, r3⟩ := and_e r2
  obtain ⟨k3, r4⟩ := and_e r3
  obtain ⟨w0, w1, w2, w3, w4, rfl⟩ : ∃ w0 w1 w2 w3 w4 : Value, args = #[w0, w1, w2, w3, w4] := by
    have hs : args.size = 5 := by simpa [Cond.value, given_1] using gc
    obtain ⟨L⟩ := args
    match L, hs with
    | [w0, w1, w2, w3, w4], _ => exact ⟨w0, w1, w2, w3, w4, rfl⟩
  have hw := fun d (hd : d ∈ tables_1) => atoms_spec (ws := Jvm.Cond.code x code maxLocals ret :: tables_1) hat d (List.mem_cons_of_mem _ hd)
  obtain ⟨i0, ei0⟩ := is_v k0
  obtain rfl : w0 = (.int i0) := Option.some.inj ei0
  obtain ⟨i1, ei1⟩ := is_v k1
  obtain rfl : w1 = (.int i1) := Option.some.inj ei1
  obtain ⟨i2, ei2⟩ := is_v k2
  obtain rfl : w2 = (.int i2) := Option.some.inj ei2
  obtain ⟨i3, ei3⟩ := is_v k3
  obtain rfl : w3 = (.int i3) := Option.some.inj ei3
  obtain ⟨i4, ei4⟩ := is_v r4
  obtain rfl : w4 = (.int i4) := Option.some.inj ei4
  obtain ⟨n, o, h1, h2, h3, _, L, rfl, ⟨rfl, N⟩, hq⟩ := rm0 l s _ hw tables_1 i0 i1 i2 i3 i4 s.heap s.heap.size (Nat.le_refl _) p e ha hc hk s m _ below hf ((Spec.applies_iff_loose hf).mp happ).1 ⟨rfl, State.Warmed39.refl s, rfl⟩ trivial
  refine ⟨n, _, h1, h2, h3, hpost _ _ _ _ _ _ ⟨Cond.after_iff.mpr rfl, Cond.after_iff.mpr (eq_i res_at (Term.int_eval (1)) rfl), trivial⟩ ⟨hq.1, hq.2.1, (hq.2.2.sift fun y hy => Or.inr (N y hy)).mono (by decide) (by decide)⟩⟩
theorem main_1_1 : Claimed_1_1 := comes_1 fun _ _ _ _ _ _ h hF => ⟨h.1, hF⟩
theorem main_1_2 : Claimed_1_2 := comes_1 fun _ _ _ _ _ _ h hF => ⟨h.2.1, hF⟩
end Jvm.Pilot.@@N@@
namespace Jvm.Pilot.@@N@@
open Jvm Jvm.ClassFile Sem Op Lib Jvm.Free Jvm.Stand Jvm.Pilot.@@N@@.Jvm.D
/-! MADE BY PROGRAM (witnessworld.py) out of the Statement's table words and the real class files: 9 classes; the members and pool entries that the words name. The judged class is class 1, her method 2. -/
namespace start1
open Jvm.ClassFile
def u (s : String) : CpInfo := .utf8 (stringToUtf16 s)
/-- a pool by its gaps: so many unusable entries, then the entry; so many at the end -/
def gap : Nat → List CpInfo → List CpInfo
  | 0, r => r
  | n + 1, r => .unusable :: gap n r
def poolList (es : List (Nat × CpInfo)) (last : Nat) : List CpInfo := es.foldr (fun e r => gap e.1 (e.2 :: r)) (gap last [])
def pool (es : List (Nat × CpInfo)) (last : Nat) : Array CpInfo := ⟨poolList es last⟩
def fileOf (pool : Array CpInfo) (this : Nat) (attrs : Array Attribute := #[]) (ms : Array MethodInfo := #[]) (fl : Nat := 33) (sup : Nat := 0) (ifs : Array Nat := #[]) (fds : Array FieldInfo := #[]) : ClassFile where
  minorVersion := 0
  majorVersion := 65
  constantPool := pool
  accessFlags := fl
  thisClass := this
  superClass := sup
  interfaces := ifs
  fields := fds
  methods := ms
  attributes := attrs
def plain (name : String) (sup : Option ClassId) : Class where
  name := name
  kind := .ordinary
  loader := none
  accessFlags := 33
  super := sup
  interfaces := #[]
  cf := none
  fields := #[]
  methods := #[]
  instanceTypes := #[]
  staticTypes := #[]
  resolved := #[]
  callSites := []
  init := .initialized
  statics := none
  mirror := none

def pool0 : Array CpInfo := pool [(5, u "<init>"), (0, u "()V"), (1, .class_ 10), (1, u "java/lang/Object")] 113

def k0m0 : Method := { name := "<init>", desc := "()V", sig := { parameters := [], returnType := none }, accessFlags := 1, code := none }
/-- java/lang/Object -/
def k0 : Class := { plain "java/lang/Object" none with
  accessFlags := 33
  interfaces := #[]
  cf := some (fileOf pool0 8 #[] #[{ accessFlags := 1, nameIndex := 5, descriptorIndex := 6, attributes := #[] }] 33 0 #[] #[])
  fields := #[]
  methods := #[k0m0]
  instanceTypes := #[]
  staticTypes := #[]
  resolved := Array.replicate 124 none
  statics := none }

def pool1 : Array CpInfo := pool [(2, .class_ 4), (1, u "java/lang/Object"), (0, u "<init>"), (0, u "()V"), (0, .integer 2147483647), (0, .methodref 9 10), (0, .class_ 11), (0, .nameAndType 12 13), (0, u "reelfield/record/Bytes"), (0, u "indexOf"), (0, u "([BBII)I"), (0, .methodref 15 16), (0, .class_ 17), (0, .nameAndType 18 19), (0, u "reelfield/record/BytesIndexOfPinLaw"), (0, u "hit"), (0, u "([BIBII)Z"), (3, u "law"), (0, u "(IIIII)Z")] 4

def k1m0 : Method := { name := "<init>", desc := "()V", sig := { parameters := [], returnType := none }, accessFlags := 1, code := none }
def k1c1 : Code := { maxStack := 2, maxLocals := 5, code := method_2_code, exceptionTable := #[], attributes := #[] }
def k1m1 : Method := { name := "hit", desc := "([BIBII)Z", sig := { parameters := [(.array .byte), .int, .byte, .int, .int], returnType := some .boolean }, accessFlags := 10, code := some k1c1 }
def k1c2 : Code := { maxStack := 5, maxLocals := 11, code := code, exceptionTable := #[], attributes := #[] }
def k1m2 : Method := { name := "law", desc := "(IIIII)Z", sig := { parameters := [.int, .int, .int, .int, .int], returnType := some .boolean }, accessFlags := 9, code := some k1c2 }
/-- reelfield/record/BytesIndexOfPinLaw -/
def k1 : Class := { plain "reelfield/record/BytesIndexOfPinLaw" (some 0) with
  accessFlags := 49
  interfaces := #[]
  cf := some (fileOf pool1 15 #[] #[{ accessFlags := 1, nameIndex := 5, descriptorIndex := 6, attributes := #[] }, { accessFlags := 10, nameIndex := 18, descriptorIndex := 19, attributes := #[] }, { accessFlags := 9, nameIndex := 23, descriptorIndex := 24, attributes := #[] }] 49 2 #[] #[])
  fields := #[]
  methods := #[k1m0, k1m1, k1m2]
  instanceTypes := #[]
  staticTypes := #[]
  resolved := Array.replicate 29 none
  statics := none }

def pool2 : Array CpInfo := pool [(2, .class_ 4), (1, u "java/lang/Object"), (9, .class_ 16), (1, u "reelfield/record/Bytes"), (0, u "array"), (0, u "[B"), (2, u "offset"), (0, u "I"), (2, u "length"), (31, u "indexOf"), (0, u "([BBII)I"), (2, u "EMPTY"), (0, u "Lreelfield/record/Bytes;")] 21

def k2c0 : Code := { maxStack := 2, maxLocals := 5, code := prog_47_method_9_code, exceptionTable := #[], attributes := #[] }
def k2m0 : Method := { name := "indexOf", desc := "([BBII)I", sig := { parameters := [(.array .byte), .byte, .int, .int], returnType := some .int }, accessFlags := 8, code := some k2c0 }
/-- reelfield/record/Bytes -/
def k2 : Class := { plain "reelfield/record/Bytes" (some 0) with
  accessFlags := 49
  interfaces := #[]
  cf := some (fileOf pool2 14 #[] #[{ accessFlags := 8, nameIndex := 57, descriptorIndex := 58, attributes := #[] }] 49 2 #[] #[{ accessFlags := 24, nameIndex := 61, descriptorIndex := 62, attributes := #[] }, { accessFlags := 18, nameIndex := 17, descriptorIndex := 18, attributes := #[] }, { accessFlags := 18, nameIndex := 21, descriptorIndex := 22, attributes := #[] }, { accessFlags := 18, nameIndex := 25, descriptorIndex := 22, attributes := #[] }])
  fields := #[{ name := "EMPTY", type := (.object "reelfield/record/Bytes"), accessFlags := 24, slot := 0, constantValue := 0 }, { name := "array", type := (.array .byte), accessFlags := 18, slot := 0, constantValue := 0 }, { name := "offset", type := .int, accessFlags := 18, slot := 1, constantValue := 0 }, { name := "length", type := .int, accessFlags := 18, slot := 2, constantValue := 0 }]
  methods := #[k2m0]
  instanceTypes := #[(.array .byte), .int, .int]
  staticTypes := #[(.object "reelfield/record/Bytes")]
  resolved := Array.replicate 84 none
  statics := none }

def pool3 : Array CpInfo := pool [(1, u "java/lang/Cloneable"), (0, .class_ 1), (0, u "java/lang/Object"), (0, .class_ 3)] 3

/-- java/lang/Cloneable -/
def k3 : Class := { plain "java/lang/Cloneable" (some 0) with
  accessFlags := 1537
  interfaces := #[]
  cf := some (fileOf pool3 2 #[] #[] 1537 4 #[] #[])
  fields := #[]
  methods := #[]
  instanceTypes := #[]
  staticTypes := #[]
  resolved := Array.replicate 8 none
  statics := none }

def pool4 : Array CpInfo := pool [(1, u "java/io/Serializable"), (0, .class_ 1), (0, u "java/lang/Object"), (0, .class_ 3)] 3

/-- java/io/Serializable -/
def k4 : Class := { plain "java/io/Serializable" (some 0) with
  accessFlags := 1537
  interfaces := #[]
  cf := some (fileOf pool4 2 #[] #[] 1537 4 #[] #[])
  fields := #[]
  methods := #[]
  instanceTypes := #[]
  staticTypes := #[]
  resolved := Array.replicate 8 none
  statics := none }

/-- the primitive byte -/
def k5 : Class := { plain "byte" none with kind := .primitive 'B', accessFlags := 0x411 }
/-- [B -/
def k6 : Class := { plain "[B" (some 0) with kind := .array 5 .byte, interfaces := #[3, 4], accessFlags := 1041 }

/-- the primitive int -/
def k7 : Class := { plain "int" none with kind := .primitive 'I', accessFlags := 0x411 }
/-- [I -/
def k8 : Class := { plain "[I" (some 0) with kind := .array 7 .int, interfaces := #[3, 4], accessFlags := 1041 }

def heap : Heap := #[]
def classes : Array Class := #[k0, k1, k2, k3, k4, k5, k6, k7, k8]
def interned : List (Array UInt16 × Addr) := []
def slotsUsed : Nat := 0
def theMethod : MethodId := ⟨1, 2⟩
def args0 : Array Value := #[.int 7, .int 8, .int 7, .int 0, .int 5]
def aboutOver (below : List Frame) : State where
  vm := { classes := classes, interned := interned.toArray }
  heap := heap
  slotsUsed := slotsUsed
  threads := #[{ frames := .invoking theMethod args0 :: below }]
def below0 : List Frame := [.native { method := ⟨0, 0⟩, args := #[] }]
def about1 : State := aboutOver below0
def p0 : Program := .bare "" "" ""
def e0 : Env := launch0.env 0 0 0
theorem w_frames : about1.frames = Frame.invoking theMethod args0 :: below0 := rfl
set_option maxRecDepth 65536 in
theorem w_args : argsFit about1.vm theMethod args0 = true := by decide +kernel
set_option maxRecDepth 65536 in
theorem w_heap : heapFits about1 = true := by decide +kernel
set_option maxRecDepth 65536 in
theorem w_runnable : about1.curStatus? = some .runnable := by decide +kernel
set_option maxRecDepth 65536 in
theorem w_alone : about1.alone = true := by decide +kernel
set_option maxRecDepth 65536 in
theorem w_named : about1.methodNamed? x = some theMethod := by decide +kernel
set_option maxRecDepth 65536 in
theorem w_hears : about1.hears theMethod below0 = true := by decide +kernel
set_option maxRecDepth 65536 in
theorem w_ripe : about1.ripe theMethod args0 below0 = true := by decide +kernel
theorem w_running : about1.status = .running := rfl
set_option maxRecDepth 65536 in
theorem w_room : about1.hasRoom e0.platform room_1 = true :=
  launch0.hasRoom_least _ room_1 (by decide +kernel) (by decide +kernel) (by decide +kernel) (by decide +kernel) (by decide +kernel) (by decide +kernel)
theorem allAtoms_all (ts : List Jvm.Cond) (a : Array Jvm.Value) (st : Jvm.State) : (allAtoms ts).before a st = ts.all (fun c => c.before a st) := by
  induction ts with
  | nil => rfl
  | cons c t ih =>
    show (Jvm.Cond.and c (allAtoms t)).before a st = _
    rw [Jvm.Cond.before_and, ih, List.all_cons]
def words1 : List Jvm.Cond := Jvm.Cond.code x code maxLocals ret :: tables_1
/-- a 'code' word, met by the world's own term for the bytes: nothing is compared byte by byte -/
theorem code_word {y : MethodName} {bytes : ByteArray} {mx : Nat} {rt : Option FieldType} {a : Array Value} {s : State} {m : MethodId} {meth : Method} {c : Code} (h1 : s.methodNamed? y = some m) (h2 : s.vm.method? m = some meth) (h3 : meth.code = some c) (h4 : c.code = bytes)
    (h5 : (c.maxLocals == mx && c.exceptionTable.isEmpty && decide (c.maxStack ≤ mostOperands) && decide (meth.sig.returnType = rt) && !meth.locks && decide (parseMethodDescriptor y.desc = some meth.sig)) = true) : (Jvm.Cond.code y bytes mx rt).before a s = true := by
  simp only [Bool.and_eq_true, beq_iff_eq, Bool.not_eq_true', decide_eq_true_eq] at h5
  obtain ⟨⟨⟨⟨⟨g1, g2⟩, g3⟩, g4⟩, g5⟩, g6⟩ := h5
  simp [Cond.before, Cond.holds, Cond.value, h1, h2, h3, h4, g1, g2, g3, g4, g5, g6]
def isCode : Jvm.Cond → Bool
  | .code _ _ _ _ => true
  | _ => false
theorem all_split {L : List Jvm.Cond} {P : Jvm.Cond → Bool} (h1 : L.all (fun c => isCode c || P c) = true) (h2 : ∀ c ∈ L.filter isCode, P c = true) : L.all P = true := by
  refine List.all_eq_true.mpr fun c hc => ?_
  have h := List.all_eq_true.mp h1 c hc
  rcases Bool.eq_false_or_eq_true (isCode c) with hi | hi
  · exact h2 c (List.mem_filter.mpr ⟨hc, hi⟩)
  · simpa [hi] using h
set_option maxRecDepth 65536 in
theorem w_c0 : (Jvm.Cond.code x code maxLocals ret).before args0 about1 = true := code_word (m := ⟨1, 2⟩) (meth := k1m2) (c := k1c2) (by decide +kernel) rfl rfl rfl (by decide +kernel)
set_option maxRecDepth 65536 in
theorem w_c1 : (Jvm.Cond.code ({ cls := "reelfield/record/Bytes", name := "indexOf", desc := "([BBII)I" } : Jvm.MethodName) prog_47_method_9_code (5 : Nat) (Option.some Jvm.ClassFile.FieldType.int)).before args0 about1 = true := code_word (m := ⟨2, 0⟩) (meth := k2m0) (c := k2c0) (by decide +kernel) rfl rfl rfl (by decide +kernel)
set_option maxRecDepth 65536 in
theorem w_c2 : (Jvm.Cond.code ({ cls := "reelfield/record/BytesIndexOfPinLaw", name := "hit", desc := "([BIBII)Z" } : Jvm.MethodName) method_2_code (5 : Nat) (Option.some Jvm.ClassFile.FieldType.boolean)).before args0 about1 = true := code_word (m := ⟨1, 1⟩) (meth := k1m1) (c := k1c1) (by decide +kernel) rfl rfl rfl (by decide +kernel)
def codes1 : List Jvm.Cond := [Jvm.Cond.code x code maxLocals ret, Jvm.Cond.code ({ cls := "reelfield/record/Bytes", name := "indexOf", desc := "([BBII)I" } : Jvm.MethodName) prog_47_method_9_code (5 : Nat) (Option.some Jvm.ClassFile.FieldType.int), Jvm.Cond.code ({ cls := "reelfield/record/BytesIndexOfPinLaw", name := "hit", desc := "([BIBII)Z" } : Jvm.MethodName) method_2_code (5 : Nat) (Option.some Jvm.ClassFile.FieldType.boolean)]
set_option maxRecDepth 65536 in
theorem codes_eq : words1.filter isCode = codes1 := rfl
theorem w_codes : ∀ c ∈ words1.filter isCode, c.before args0 about1 = true := by
  rw [codes_eq]
  intro c hc
  simp only [codes1, List.mem_cons, List.not_mem_nil, or_false] at hc
  rcases hc with rfl | rfl | rfl
  · exact w_c0
  · exact w_c1
  · exact w_c2
set_option maxRecDepth 65536 in
theorem w_t1 : words1.all (fun c => isCode c || c.before args0 about1) = true := by decide +kernel
theorem w_tables : (allAtoms (Jvm.Cond.code x code maxLocals ret :: tables_1)).before args0 about1 = true := by
  rw [allAtoms_all]
  show words1.all (fun c => c.before args0 about1) = true
  refine all_split ?_ w_codes
  rw [w_t1]
set_option maxRecDepth 65536 in
theorem w_case : (Jvm.Cond.and given_1 narrow_1).before args0 about1 = true := by decide +kernel
theorem w_applies : (headSpec (Jvm.Cond.code x code maxLocals ret :: tables_1) room_1).applies x e0.platform about1 = true :=
  (Spec.applies_iff w_frames).mpr ⟨w_running, w_runnable, w_alone, w_named, w_hears, w_ripe, w_room, w_tables⟩
theorem atStart : AtStart classFile x code maxLocals ret World_1 tables_1 room_1 Calls_1 rest_1 Pre_1 launch0 p0 e0 about1 theMethod args0 below0 :=
  ⟨lists_1, trivial, launch0.admits_env _ _ _, launch0.least_env, fairChoices_fair.cas, fairChoices_fair.clock, w_frames, w_args, w_heap, w_applies, trivial, trivial, w_case⟩
end start1
theorem witness_1 : WitnessClaimed_1 := ⟨start1.p0, start1.e0, start1.about1, start1.theMethod, start1.args0, start1.below0, start1.atStart⟩
end Jvm.Pilot.@@N@@
