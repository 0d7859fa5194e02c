import JvmDerived
import JvmDerived.Pilot.@@N@@Statement
import JvmDerived.Pilot.@@N@@Code
set_option linter.unusedVariables false
set_option linter.unusedSimpArgs false
@@BLOCK:NumsL.lean.txt@@
namespace Jvm.RoadKit
open Sem ClassFile Op Lib Jvm.Stand Jvm.Free Jvm.LawKit
section New
variable {p : Program} {l : Launch} {e : Env} {R : Room} {s : State} {m : MethodId} {args : Array Value} {below : List Frame} {meth : Method} {c : Code} {T : State} {locs : List Loc} {cells slots : Nat}
theorem retI (X : Stand p l e R s m args below meth c T locs cells slots) (hx : p.tables.exec = Jvm.exec) {pc : Nat} {Ls : Array Slot} {z : Int32} {rest : List Value} (hret : meth.sig.returnType = some .int) (hd : decode c.code pc = .ok (.ireturn, 1)) {fs : List Frame}
    (hl : ∀ (f : JFrame) (acts : List Action), f.method = m → f.locked = none → f.entered = [] → (doReturn e (T.setTop f) acts (some (.int z))).1 = T.setFrames fs) : Steps p.tables e below (T.setTop (mkF m pc Ls (.int z :: rest))) (T.setFrames fs) := by
  have hm' : T.vm.method? m = some meth := X.method'
  have hn : narrow .int (.int z) = .int z := rfl
  show Steps p.tables e below (T.setTop { method := m, pc := pc, locals := Ls, stack := _ :: rest, locked := none }) _
  jvm_step X.here [X.here.top, hx, hd, hm', hret, hn]
  first | (intro acts; rw [hl _ acts rfl rfl rfl]) | rw [hl _ _ rfl rfl rfl]
  exact Steps.refl _
end New
end Jvm.RoadKit
namespace Jvm.Pilot.@@N@@
open Jvm Jvm.ClassFile Sem Op Lib Jvm.Free Jvm.Stand Jvm.LawKit Jvm.RoadKit Bundle Jvm.Pilot.@@N@@.Jvm.D
def own_ps : List Int64 := [(1 : Int64), (10 : Int64), (100 : Int64), (1000 : Int64), (10000 : Int64), (100000 : Int64), (1000000 : Int64), (10000000 : Int64), (100000000 : Int64), (1000000000 : Int64), (10000000000 : Int64), (100000000000 : Int64), (1000000000000 : Int64), (10000000000000 : Int64), (100000000000000 : Int64), (1000000000000000 : Int64), (10000000000000000 : Int64), (100000000000000000 : Int64), (1000000000000000000 : Int64)]
theorem own_nat {i : Nat} (hi : i ≤ 18) : (Int32.ofNat i).toNatClampNeg = i := by
  have a : ∀ i : Fin 19, (Int32.ofNat i.1).toNatClampNeg = i.1 := by decide +kernel
  exact a ⟨i, by omega⟩
theorem own_pos {i : Nat} (hi : i ≤ 18) : ¬ Int32.ofNat i < 0 := by
  have a : ∀ i : Fin 19, ¬ Int32.ofNat i.1 < 0 := by decide +kernel
  exact a ⟨i, by omega⟩
theorem own_psb {i : Nat} (hi : i ≤ 18) : 1 ≤ (own_ps.getD i 0).toInt ∧ (own_ps.getD i 0).toInt ≤ 1000000000000000000 := by
  have a : ∀ i : Fin 19, 1 ≤ (own_ps.getD i.1 0).toInt ∧ (own_ps.getD i.1 0).toInt ≤ 1000000000000000000 := by decide +kernel
  exact a ⟨i, by omega⟩
theorem own_nineteen (p : Int32) : ∃ f : Nat, f ≤ 18 ∧ ((p &&& (2147483647 : Int32)) - ((p &&& (2147483647 : Int32)) / (19 : Int32)) * (19 : Int32)) = Int32.ofNat f := by
  have e1 : (p &&& (2147483647 : Int32)).toInt = p.toInt % 2147483648 := c_mask p _ 31 (by decide) (by decide)
  have e2 := (c_irem (p &&& (2147483647 : Int32)) (19 : Int32) 19 (by decide)).1 (by rw [e1]; omega)
  refine ⟨((p.toInt % 2147483648) % 19).toNat, by omega, ?_⟩
  rw [Jvm.irem_eq_mod]
  apply Int32.toInt_inj.mp
  rw [e2, e1, Int32.toInt_ofNat_of_lt (by omega)]
  omega
theorem own_vals (xs : List Int64) (i : Nat) : (xs.map Value.long).getD i (.long (0 : Int64)) = .long (xs.getD i 0) := by
  simp only [List.getD_eq_getElem?_getD, List.getElem?_map]
  cases xs[i]? <;> rfl
def own_dig : Nat → Nat → Nat
  | 0, _ => 0
  | k + 1, N => if N = 0 then 0 else own_dig k (N / 10) + 1
theorem own_dig0 (k : Nat) : own_dig k 0 = 0 := by cases k <;> rfl
theorem own_digS (k N : Nat) (h : ¬ N = 0) : own_dig (k + 1) N = own_dig k (N / 10) + 1 := by
  show (if N = 0 then 0 else own_dig k (N / 10) + 1) = _
  rw [if_neg h]
theorem own_digE : ∀ (j k N : Nat), 10 ^ j ≤ N → N < 10 ^ (j + 1) → j < k → own_dig k N = j + 1 := by
  intro j
  induction j with
  | zero =>
    intro k N h1 h2 h3
    obtain ⟨k, rfl⟩ : ∃ q, k = q + 1 := ⟨k - 1, by omega⟩
    rw [own_digS k N (by omega), show N / 10 = 0 by omega, own_dig0]
  | succ j ih =>
    intro k N h1 h2 h3
    obtain ⟨k, rfl⟩ : ∃ q, k = q + 1 := ⟨k - 1, by omega⟩
    have hp : 0 < 10 ^ j := Nat.pow_pos (by decide)
    have e1 : 10 ^ (j + 1) = 10 ^ j * 10 := Nat.pow_succ ..
    have e2 : 10 ^ (j + 1 + 1) = 10 ^ (j + 1) * 10 := Nat.pow_succ ..
    rw [own_digS k N (by omega), ih k (N / 10) (by omega) (by omega) (by omega)]
theorem d1_0 : decode method_2_code 0 = .ok (.bipush 19, 2) := by decide +kernel
theorem d1_2 : decode method_2_code 2 = .ok (.newarray .long, 2) := by decide +kernel
theorem d1_4 : decode method_2_code 4 = .ok (.dup, 1) := by decide +kernel
theorem d1_5 : decode method_2_code 5 = .ok (.iconst 0, 1) := by decide +kernel
theorem d1_6 : decode method_2_code 6 = .ok (.lconst 1, 1) := by decide +kernel
theorem d1_7 : decode method_2_code 7 = .ok (.lastore, 1) := by decide +kernel
theorem d1_8 : decode method_2_code 8 = .ok (.dup, 1) := by decide +kernel
theorem d1_9 : decode method_2_code 9 = .ok (.iconst 1, 1) := by decide +kernel
theorem d1_10 : decode method_2_code 10 = .ok (.ldc2_w 7, 3) := by decide +kernel
theorem d1_13 : decode method_2_code 13 = .ok (.lastore, 1) := by decide +kernel
theorem d1_14 : decode method_2_code 14 = .ok (.dup, 1) := by decide +kernel
theorem d1_15 : decode method_2_code 15 = .ok (.iconst 2, 1) := by decide +kernel
theorem d1_16 : decode method_2_code 16 = .ok (.ldc2_w 9, 3) := by decide +kernel
theorem d1_19 : decode method_2_code 19 = .ok (.lastore, 1) := by decide +kernel
theorem d1_20 : decode method_2_code 20 = .ok (.dup, 1) := by decide +kernel
theorem d1_21 : decode method_2_code 21 = .ok (.iconst 3, 1) := by decide +kernel
theorem d1_22 : decode method_2_code 22 = .ok (.ldc2_w 11, 3) := by decide +kernel
theorem d1_25 : decode method_2_code 25 = .ok (.lastore, 1) := by decide +kernel
theorem d1_26 : decode method_2_code 26 = .ok (.dup, 1) := by decide +kernel
theorem d1_27 : decode method_2_code 27 = .ok (.iconst 4, 1) := by decide +kernel
theorem d1_28 : decode method_2_code 28 = .ok (.ldc2_w 13, 3) := by decide +kernel
theorem d1_31 : decode method_2_code 31 = .ok (.lastore, 1) := by decide +kernel
theorem d1_32 : decode method_2_code 32 = .ok (.dup, 1) := by decide +kernel
theorem d1_33 : decode method_2_code 33 = .ok (.iconst 5, 1) := by decide +kernel
theorem d1_34 : decode method_2_code 34 = .ok (.ldc2_w 15, 3) := by decide +kernel
theorem d1_37 : decode method_2_code 37 = .ok (.lastore, 1) := by decide +kernel
theorem d1_38 : decode method_2_code 38 = .ok (.dup, 1) := by decide +kernel
theorem d1_39 : decode method_2_code 39 = .ok (.bipush 6, 2) := by decide +kernel
theorem d1_41 : decode method_2_code 41 = .ok (.ldc2_w 17, 3) := by decide +kernel
theorem d1_44 : decode method_2_code 44 = .ok (.lastore, 1) := by decide +kernel
theorem d1_45 : decode method_2_code 45 = .ok (.dup, 1) := by decide +kernel
theorem d1_46 : decode method_2_code 46 = .ok (.bipush 7, 2) := by decide +kernel
theorem d1_48 : decode method_2_code 48 = .ok (.ldc2_w 19, 3) := by decide +kernel
theorem d1_51 : decode method_2_code 51 = .ok (.lastore, 1) := by decide +kernel
theorem d1_52 : decode method_2_code 52 = .ok (.dup, 1) := by decide +kernel
theorem d1_53 : decode method_2_code 53 = .ok (.bipush 8, 2) := by decide +kernel
theorem d1_55 : decode method_2_code 55 = .ok (.ldc2_w 21, 3) := by decide +kernel
theorem d1_58 : decode method_2_code 58 = .ok (.lastore, 1) := by decide +kernel
theorem d1_59 : decode method_2_code 59 = .ok (.dup, 1) := by decide +kernel
theorem d1_60 : decode method_2_code 60 = .ok (.bipush 9, 2) := by decide +kernel
theorem d1_62 : decode method_2_code 62 = .ok (.ldc2_w 23, 3) := by decide +kernel
theorem d1_65 : decode method_2_code 65 = .ok (.lastore, 1) := by decide +kernel
theorem d1_66 : decode method_2_code 66 = .ok (.dup, 1) := by decide +kernel
theorem d1_67 : decode method_2_code 67 = .ok (.bipush 10, 2) := by decide +kernel
theorem d1_69 : decode method_2_code 69 = .ok (.ldc2_w 25, 3) := by decide +kernel
theorem d1_72 : decode method_2_code 72 = .ok (.lastore, 1) := by decide +kernel
theorem d1_73 : decode method_2_code 73 = .ok (.dup, 1) := by decide +kernel
theorem d1_74 : decode method_2_code 74 = .ok (.bipush 11, 2) := by decide +kernel
theorem d1_76 : decode method_2_code 76 = .ok (.ldc2_w 27, 3) := by decide +kernel
theorem d1_79 : decode method_2_code 79 = .ok (.lastore, 1) := by decide +kernel
theorem d1_80 : decode method_2_code 80 = .ok (.dup, 1) := by decide +kernel
theorem d1_81 : decode method_2_code 81 = .ok (.bipush 12, 2) := by decide +kernel
theorem d1_83 : decode method_2_code 83 = .ok (.ldc2_w 29, 3) := by decide +kernel
theorem d1_86 : decode method_2_code 86 = .ok (.lastore, 1) := by decide +kernel
theorem d1_87 : decode method_2_code 87 = .ok (.dup, 1) := by decide +kernel
theorem d1_88 : decode method_2_code 88 = .ok (.bipush 13, 2) := by decide +kernel
theorem d1_90 : decode method_2_code 90 = .ok (.ldc2_w 31, 3) := by decide +kernel
theorem d1_93 : decode method_2_code 93 = .ok (.lastore, 1) := by decide +kernel
theorem d1_94 : decode method_2_code 94 = .ok (.dup, 1) := by decide +kernel
theorem d1_95 : decode method_2_code 95 = .ok (.bipush 14, 2) := by decide +kernel
theorem d1_97 : decode method_2_code 97 = .ok (.ldc2_w 33, 3) := by decide +kernel
theorem d1_100 : decode method_2_code 100 = .ok (.lastore, 1) := by decide +kernel
theorem d1_101 : decode method_2_code 101 = .ok (.dup, 1) := by decide +kernel
theorem d1_102 : decode method_2_code 102 = .ok (.bipush 15, 2) := by decide +kernel
theorem d1_104 : decode method_2_code 104 = .ok (.ldc2_w 35, 3) := by decide +kernel
theorem d1_107 : decode method_2_code 107 = .ok (.lastore, 1) := by decide +kernel
theorem d1_108 : decode method_2_code 108 = .ok (.dup, 1) := by decide +kernel
theorem d1_109 : decode method_2_code 109 = .ok (.bipush 16, 2) := by decide +kernel
theorem d1_111 : decode method_2_code 111 = .ok (.ldc2_w 37, 3) := by decide +kernel
theorem d1_114 : decode method_2_code 114 = .ok (.lastore, 1) := by decide +kernel
theorem d1_115 : decode method_2_code 115 = .ok (.dup, 1) := by decide +kernel
theorem d1_116 : decode method_2_code 116 = .ok (.bipush 17, 2) := by decide +kernel
theorem d1_118 : decode method_2_code 118 = .ok (.ldc2_w 39, 3) := by decide +kernel
theorem d1_121 : decode method_2_code 121 = .ok (.lastore, 1) := by decide +kernel
theorem d1_122 : decode method_2_code 122 = .ok (.dup, 1) := by decide +kernel
theorem d1_123 : decode method_2_code 123 = .ok (.bipush 18, 2) := by decide +kernel
theorem d1_125 : decode method_2_code 125 = .ok (.ldc2_w 41, 3) := by decide +kernel
theorem d1_128 : decode method_2_code 128 = .ok (.lastore, 1) := by decide +kernel
theorem d1_129 : decode method_2_code 129 = .ok (.astore_n 1, 1) := by decide +kernel
theorem d1_130 : decode method_2_code 130 = .ok (.aload_n 1, 1) := by decide +kernel
theorem d1_131 : decode method_2_code 131 = .ok (.iload_n 0, 1) := by decide +kernel
theorem d1_132 : decode method_2_code 132 = .ok (.laload, 1) := by decide +kernel
theorem d1_133 : decode method_2_code 133 = .ok (.lreturn, 1) := by decide +kernel
theorem pn_1 : plainName "com/example/tailwire/tailwire/http/ResponseDecimalLengthPinLaw" = true := by first | (simp [plainName, overriddenIn]; done) | decide +kernel
theorem ef_1 (m : MethodId) (x0 : Int32) : entryFrame m #[(.int x0)] 2 = (mkF m 0 #[.val (.int x0), .unset] []) := by first | (simp [entryFrame, mkF, argsToLocals, Value.category]; done) | rfl
def Q1 (Z : State) (f : Nat) (h0 : Heap) (n0 : Nat) (v : Option Value) (h : Heap) (L : List Loc) : Prop := v = some (.long (own_ps.getD f 0)) ∧ Fr n0 L ∧ Keep h0 h []
set_option maxRecDepth 65536 in
set_option maxHeartbeats 40000000 in
theorem rm1 (l : Launch) (Z : State) (a0 : Array Value) (hw : ∀ d ∈ tables_1, d.before a0 Z = true) (ws : List Jvm.Cond) (f : Nat) (h0 : Heap) (n0 : Nat) (Z0 : n0 ≤ h0.size) (hf : f ≤ 18) :
    MetFree l (⟨"com/example/tailwire/tailwire/http/ResponseDecimalLengthPinLaw", "pow", "(I)J"⟩ : MethodName) (head1 (Jvm.Cond.code (⟨"com/example/tailwire/tailwire/http/ResponseDecimalLengthPinLaw", "pow", "(I)J"⟩ : MethodName) method_2_code 2 (some .long) :: ws) ({ frames := 0, cells := 1, slots := 19, locals := 0 } : Room)) (fun a U => a = #[(.int (Int32.ofNat f))] ∧ Z.Warmed39 U.vm ∧ U.heap = h0) (fun _ _ _ _ _ => True) (fun _ U o U' => ∃ v L, o = .returned v ∧ Q1 Z f h0 n0 v U'.heap L ∧ FrameEnd U o U' L ({ frames := 0, cells := 1, slots := 19, locals := 0 } : Room).cells ({ frames := 0, cells := 1, slots := 19, locals := 0 } : Room).slots) := by
  refine MetFree.of_bodySF (plainFor_of_name pn_1) hisR ?_
  intro p e s m args below meth c s₁ Bd hml0 hP hK
  obtain ⟨rfl, hZ, hh⟩ := hP
  have hx := Bd.exec
  have hby := Bd.bytes
  have hml : c.maxLocals = 2 := hml0
  have hown : s.vm.findClass "com/example/tailwire/tailwire/http/ResponseDecimalLengthPinLaw" = some m.cls := findClass_of_methodNamed Bd.named
  have X0 : Stand p l e ({ frames := 0, cells := 1, slots := 19, locals := 0 } : Room) s m #[(.int (Int32.ofNat f))] below meth c s₁ [] 0 0 := Stand.of_body Bd
  have e0 : s₁.heap = h0 := by rw [← hh, Bd.state]; rfl
  have N0 := Fr.nil n0
  have pre0 : ∀ t, Steps p.tables e below (s₁.setTop (mkF m 0 #[.val (.int (Int32.ofNat f)), .unset] [])) t → Steps p.tables e below (s₁.setTop (entryFrame m #[(.int (Int32.ofNat f))] 2)) t := fun t k => castTop (ef_1 m (Int32.ofNat f)) k
  obtain ⟨T3, h3, k3, X3, e3, E3, A3, st3⟩ := newP X0 hx hZ (hw _ (List.mem_of_getElem? (i := 6) rfl)) e0 (g := (mkF m 2 #[.val (.int (Int32.ofNat f)), .unset] [(.int (19 : Int32))])) rfl (hb hby d1_2) rfl (by decide) (cap := 19) (by decide) (by decide) (by decide) (by decide)
  obtain ⟨b3, g3⟩ : ∃ z, z = h0.size := ⟨_, rfl⟩
  rw [← g3] at A3 st3
  have V3 : Arv Z h3 b3 k3 .long (19 : Int32) (List.replicate 19 (.long (0 : Int64))) (.long (0 : Int64)) := (Arv.new A3 (by decide)).pad (pad_rep [] (.long (0 : Int64)) 19)
  have g_b3 : n0 ≤ b3 := Nat.le_trans Z0 (Nat.le_of_eq g3.symm)
  have sz_b3 : h0.size ≤ b3 := Nat.le_of_eq g3.symm
  have K3 : Keep h0 h3 [] := (Keep.refl h0 []).ext E3
  obtain ⟨cl4, Ar4, q4, S4, N4', H4, G4⟩ := V3
  have hin7 : ¬ ((0 : Int32) < 0 ∨ cl4.slots.size ≤ ((0 : Int32)).toNatClampNeg) := inb_of S4 ⟨by decide, by decide⟩
  obtain ⟨T4, h4, X4, e4, W4, st4⟩ := stJ X3 hx hZ e3 Ar4 (j := (0 : Int32)) hin7 (g := (mkF m 7 #[.val (.int (Int32.ofNat f)), .unset] [(.long (1 : Int64)), (.int (0 : Int32)), (.ref b3), (.ref b3)])) rfl rfl (hb hby d1_7)
  have V4 := Arv.set Ar4 q4 S4 N4' H4 G4 rfl W4 0 rfl (Nat.le_of_ble_eq_true rfl)
  have K4 : Keep h0 h4 [] := K3.wr W4 (Or.inr sz_b3)
  have N4 := Fr.snoc X4 N0 g_b3
  obtain ⟨cl5, Ar5, q5, S5, N5', H5, G5⟩ := V4
  have hin13 : ¬ ((1 : Int32) < 0 ∨ cl5.slots.size ≤ ((1 : Int32)).toNatClampNeg) := inb_of S5 ⟨by decide, by decide⟩
  obtain ⟨T5, h5, X5, e5, W5, st5⟩ := stJ X4 hx hZ e4 Ar5 (j := (1 : Int32)) hin13 (g := (mkF m 13 #[.val (.int (Int32.ofNat f)), .unset] [(.long (10 : Int64)), (.int (1 : Int32)), (.ref b3), (.ref b3)])) rfl rfl (hb hby d1_13)
  have V5 := Arv.set Ar5 q5 S5 N5' H5 G5 rfl W5 1 rfl (Nat.le_of_ble_eq_true rfl)
  have K5 : Keep h0 h5 [] := K4.wr W5 (Or.inr sz_b3)
  have N5 := Fr.snoc X5 N4 g_b3
  obtain ⟨cl6, Ar6, q6, S6, N6', H6, G6⟩ := V5
  have hin19 : ¬ ((2 : Int32) < 0 ∨ cl6.slots.size ≤ ((2 : Int32)).toNatClampNeg) := inb_of S6 ⟨by decide, by decide⟩
  obtain ⟨T6, h6, X6, e6, W6, st6⟩ := stJ X5 hx hZ e5 Ar6 (j := (2 : Int32)) hin19 (g := (mkF m 19 #[.val (.int (Int32.ofNat f)), .unset] [(.long (100 : Int64)), (.int (2 : Int32)), (.ref b3), (.ref b3)])) rfl rfl (hb hby d1_19)
  have V6 := Arv.set Ar6 q6 S6 N6' H6 G6 rfl W6 2 rfl (Nat.le_of_ble_eq_true rfl)
  have K6 : Keep h0 h6 [] := K5.wr W6 (Or.inr sz_b3)
  have N6 := Fr.snoc X6 N5 g_b3
  obtain ⟨cl7, Ar7, q7, S7, N7', H7, G7⟩ := V6
  have hin25 : ¬ ((3 : Int32) < 0 ∨ cl7.slots.size ≤ ((3 : Int32)).toNatClampNeg) := inb_of S7 ⟨by decide, by decide⟩
  obtain ⟨T7, h7, X7, e7, W7, st7⟩ := stJ X6 hx hZ e6 Ar7 (j := (3 : Int32)) hin25 (g := (mkF m 25 #[.val (.int (Int32.ofNat f)), .unset] [(.long (1000 : Int64)), (.int (3 : Int32)), (.ref b3), (.ref b3)])) rfl rfl (hb hby d1_25)
  have V7 := Arv.set Ar7 q7 S7 N7' H7 G7 rfl W7 3 rfl (Nat.le_of_ble_eq_true rfl)
  have K7 : Keep h0 h7 [] := K6.wr W7 (Or.inr sz_b3)
  have N7 := Fr.snoc X7 N6 g_b3
  obtain ⟨cl8, Ar8, q8, S8, N8', H8, G8⟩ := V7
  have hin31 : ¬ ((4 : Int32) < 0 ∨ cl8.slots.size ≤ ((4 : Int32)).toNatClampNeg) := inb_of S8 ⟨by decide, by decide⟩
  obtain ⟨T8, h8, X8, e8, W8, st8⟩ := stJ X7 hx hZ e7 Ar8 (j := (4 : Int32)) hin31 (g := (mkF m 31 #[.val (.int (Int32.ofNat f)), .unset] [(.long (10000 : Int64)), (.int (4 : Int32)), (.ref b3), (.ref b3)])) rfl rfl (hb hby d1_31)
  have V8 := Arv.set Ar8 q8 S8 N8' H8 G8 rfl W8 4 rfl (Nat.le_of_ble_eq_true rfl)
  have K8 : Keep h0 h8 [] := K7.wr W8 (Or.inr sz_b3)
  have N8 := Fr.snoc X8 N7 g_b3
  obtain ⟨cl9, Ar9, q9, S9, N9', H9, G9⟩ := V8
  have hin37 : ¬ ((5 : Int32) < 0 ∨ cl9.slots.size ≤ ((5 : Int32)).toNatClampNeg) := inb_of S9 ⟨by decide, by decide⟩
  obtain ⟨T9, h9, X9, e9, W9, st9⟩ := stJ X8 hx hZ e8 Ar9 (j := (5 : Int32)) hin37 (g := (mkF m 37 #[.val (.int (Int32.ofNat f)), .unset] [(.long (100000 : Int64)), (.int (5 : Int32)), (.ref b3), (.ref b3)])) rfl rfl (hb hby d1_37)
  have V9 := Arv.set Ar9 q9 S9 N9' H9 G9 rfl W9 5 rfl (Nat.le_of_ble_eq_true rfl)
  have K9 : Keep h0 h9 [] := K8.wr W9 (Or.inr sz_b3)
  have N9 := Fr.snoc X9 N8 g_b3
  obtain ⟨cl10, Ar10, q10, S10, N10', H10, G10⟩ := V9
  have hin44 : ¬ ((6 : Int32) < 0 ∨ cl10.slots.size ≤ ((6 : Int32)).toNatClampNeg) := inb_of S10 ⟨by decide, by decide⟩
  obtain ⟨T10, h10, X10, e10, W10, st10⟩ := stJ X9 hx hZ e9 Ar10 (j := (6 : Int32)) hin44 (g := (mkF m 44 #[.val (.int (Int32.ofNat f)), .unset] [(.long (1000000 : Int64)), (.int (6 : Int32)), (.ref b3), (.ref b3)])) rfl rfl (hb hby d1_44)
  have V10 := Arv.set Ar10 q10 S10 N10' H10 G10 rfl W10 6 rfl (Nat.le_of_ble_eq_true rfl)
  have K10 : Keep h0 h10 [] := K9.wr W10 (Or.inr sz_b3)
  have N10 := Fr.snoc X10 N9 g_b3
  obtain ⟨cl11, Ar11, q11, S11, N11', H11, G11⟩ := V10
  have hin51 : ¬ ((7 : Int32) < 0 ∨ cl11.slots.size ≤ ((7 : Int32)).toNatClampNeg) := inb_of S11 ⟨by decide, by decide⟩
  obtain ⟨T11, h11, X11, e11, W11, st11⟩ := stJ X10 hx hZ e10 Ar11 (j := (7 : Int32)) hin51 (g := (mkF m 51 #[.val (.int (Int32.ofNat f)), .unset] [(.long (10000000 : Int64)), (.int (7 : Int32)), (.ref b3), (.ref b3)])) rfl rfl (hb hby d1_51)
  have V11 := Arv.set Ar11 q11 S11 N11' H11 G11 rfl W11 7 rfl (Nat.le_of_ble_eq_true rfl)
  have K11 : Keep h0 h11 [] := K10.wr W11 (Or.inr sz_b3)
  have N11 := Fr.snoc X11 N10 g_b3
  obtain ⟨cl12, Ar12, q12, S12, N12', H12, G12⟩ := V11
  have hin58 : ¬ ((8 : Int32) < 0 ∨ cl12.slots.size ≤ ((8 : Int32)).toNatClampNeg) := inb_of S12 ⟨by decide, by decide⟩
  obtain ⟨T12, h12, X12, e12, W12, st12⟩ := stJ X11 hx hZ e11 Ar12 (j := (8 : Int32)) hin58 (g := (mkF m 58 #[.val (.int (Int32.ofNat f)), .unset] [(.long (100000000 : Int64)), (.int (8 : Int32)), (.ref b3), (.ref b3)])) rfl rfl (hb hby d1_58)
  have V12 := Arv.set Ar12 q12 S12 N12' H12 G12 rfl W12 8 rfl (Nat.le_of_ble_eq_true rfl)
  have K12 : Keep h0 h12 [] := K11.wr W12 (Or.inr sz_b3)
  have N12 := Fr.snoc X12 N11 g_b3
  obtain ⟨cl13, Ar13, q13, S13, N13', H13, G13⟩ := V12
  have hin65 : ¬ ((9 : Int32) < 0 ∨ cl13.slots.size ≤ ((9 : Int32)).toNatClampNeg) := inb_of S13 ⟨by decide, by decide⟩
  obtain ⟨T13, h13, X13, e13, W13, st13⟩ := stJ X12 hx hZ e12 Ar13 (j := (9 : Int32)) hin65 (g := (mkF m 65 #[.val (.int (Int32.ofNat f)), .unset] [(.long (1000000000 : Int64)), (.int (9 : Int32)), (.ref b3), (.ref b3)])) rfl rfl (hb hby d1_65)
  have V13 := Arv.set Ar13 q13 S13 N13' H13 G13 rfl W13 9 rfl (Nat.le_of_ble_eq_true rfl)
  have K13 : Keep h0 h13 [] := K12.wr W13 (Or.inr sz_b3)
  have N13 := Fr.snoc X13 N12 g_b3
  obtain ⟨cl14, Ar14, q14, S14, N14', H14, G14⟩ := V13
  have hin72 : ¬ ((10 : Int32) < 0 ∨ cl14.slots.size ≤ ((10 : Int32)).toNatClampNeg) := inb_of S14 ⟨by decide, by decide⟩
  obtain ⟨T14, h14, X14, e14, W14, st14⟩ := stJ X13 hx hZ e13 Ar14 (j := (10 : Int32)) hin72 (g := (mkF m 72 #[.val (.int (Int32.ofNat f)), .unset] [(.long (10000000000 : Int64)), (.int (10 : Int32)), (.ref b3), (.ref b3)])) rfl rfl (hb hby d1_72)
  have V14 := Arv.set Ar14 q14 S14 N14' H14 G14 rfl W14 10 rfl (Nat.le_of_ble_eq_true rfl)
  have K14 : Keep h0 h14 [] := K13.wr W14 (Or.inr sz_b3)
  have N14 := Fr.snoc X14 N13 g_b3
  obtain ⟨cl15, Ar15, q15, S15, N15', H15, G15⟩ := V14
  have hin79 : ¬ ((11 : Int32) < 0 ∨ cl15.slots.size ≤ ((11 : Int32)).toNatClampNeg) := inb_of S15 ⟨by decide, by decide⟩
  obtain ⟨T15, h15, X15, e15, W15, st15⟩ := stJ X14 hx hZ e14 Ar15 (j := (11 : Int32)) hin79 (g := (mkF m 79 #[.val (.int (Int32.ofNat f)), .unset] [(.long (100000000000 : Int64)), (.int (11 : Int32)), (.ref b3), (.ref b3)])) rfl rfl (hb hby d1_79)
  have V15 := Arv.set Ar15 q15 S15 N15' H15 G15 rfl W15 11 rfl (Nat.le_of_ble_eq_true rfl)
  have K15 : Keep h0 h15 [] := K14.wr W15 (Or.inr sz_b3)
  have N15 := Fr.snoc X15 N14 g_b3
  obtain ⟨cl16, Ar16, q16, S16, N16', H16, G16⟩ := V15
  have hin86 : ¬ ((12 : Int32) < 0 ∨ cl16.slots.size ≤ ((12 : Int32)).toNatClampNeg) := inb_of S16 ⟨by decide, by decide⟩
  obtain ⟨T16, h16, X16, e16, W16, st16⟩ := stJ X15 hx hZ e15 Ar16 (j := (12 : Int32)) hin86 (g := (mkF m 86 #[.val (.int (Int32.ofNat f)), .unset] [(.long (1000000000000 : Int64)), (.int (12 : Int32)), (.ref b3), (.ref b3)])) rfl rfl (hb hby d1_86)
  have V16 := Arv.set Ar16 q16 S16 N16' H16 G16 rfl W16 12 rfl (Nat.le_of_ble_eq_true rfl)
  have K16 : Keep h0 h16 [] := K15.wr W16 (Or.inr sz_b3)
  have N16 := Fr.snoc X16 N15 g_b3
  obtain ⟨cl17, Ar17, q17, S17, N17', H17, G17⟩ := V16
  have hin93 : ¬ ((13 : Int32) < 0 ∨ cl17.slots.size ≤ ((13 : Int32)).toNatClampNeg) := inb_of S17 ⟨by decide, by decide⟩
  obtain ⟨T17, h17, X17, e17, W17, st17⟩ := stJ X16 hx hZ e16 Ar17 (j := (13 : Int32)) hin93 (g := (mkF m 93 #[.val (.int (Int32.ofNat f)), .unset] [(.long (10000000000000 : Int64)), (.int (13 : Int32)), (.ref b3), (.ref b3)])) rfl rfl (hb hby d1_93)
  have V17 := Arv.set Ar17 q17 S17 N17' H17 G17 rfl W17 13 rfl (Nat.le_of_ble_eq_true rfl)
  have K17 : Keep h0 h17 [] := K16.wr W17 (Or.inr sz_b3)
  have N17 := Fr.snoc X17 N16 g_b3
  obtain ⟨cl18, Ar18, q18, S18, N18', H18, G18⟩ := V17
  have hin100 : ¬ ((14 : Int32) < 0 ∨ cl18.slots.size ≤ ((14 : Int32)).toNatClampNeg) := inb_of S18 ⟨by decide, by decide⟩
  obtain ⟨T18, h18, X18, e18, W18, st18⟩ := stJ X17 hx hZ e17 Ar18 (j := (14 : Int32)) hin100 (g := (mkF m 100 #[.val (.int (Int32.ofNat f)), .unset] [(.long (100000000000000 : Int64)), (.int (14 : Int32)), (.ref b3), (.ref b3)])) rfl rfl (hb hby d1_100)
  have V18 := Arv.set Ar18 q18 S18 N18' H18 G18 rfl W18 14 rfl (Nat.le_of_ble_eq_true rfl)
  have K18 : Keep h0 h18 [] := K17.wr W18 (Or.inr sz_b3)
  have N18 := Fr.snoc X18 N17 g_b3
  obtain ⟨cl19, Ar19, q19, S19, N19', H19, G19⟩ := V18
  have hin107 : ¬ ((15 : Int32) < 0 ∨ cl19.slots.size ≤ ((15 : Int32)).toNatClampNeg) := inb_of S19 ⟨by decide, by decide⟩
  obtain ⟨T19, h19, X19, e19, W19, st19⟩ := stJ X18 hx hZ e18 Ar19 (j := (15 : Int32)) hin107 (g := (mkF m 107 #[.val (.int (Int32.ofNat f)), .unset] [(.long (1000000000000000 : Int64)), (.int (15 : Int32)), (.ref b3), (.ref b3)])) rfl rfl (hb hby d1_107)
  have V19 := Arv.set Ar19 q19 S19 N19' H19 G19 rfl W19 15 rfl (Nat.le_of_ble_eq_true rfl)
  have K19 : Keep h0 h19 [] := K18.wr W19 (Or.inr sz_b3)
  have N19 := Fr.snoc X19 N18 g_b3
  obtain ⟨cl20, Ar20, q20, S20, N20', H20, G20⟩ := V19
  have hin114 : ¬ ((16 : Int32) < 0 ∨ cl20.slots.size ≤ ((16 : Int32)).toNatClampNeg) := inb_of S20 ⟨by decide, by decide⟩
  obtain ⟨T20, h20, X20, e20, W20, st20⟩ := stJ X19 hx hZ e19 Ar20 (j := (16 : Int32)) hin114 (g := (mkF m 114 #[.val (.int (Int32.ofNat f)), .unset] [(.long (10000000000000000 : Int64)), (.int (16 : Int32)), (.ref b3), (.ref b3)])) rfl rfl (hb hby d1_114)
  have V20 := Arv.set Ar20 q20 S20 N20' H20 G20 rfl W20 16 rfl (Nat.le_of_ble_eq_true rfl)
  have K20 : Keep h0 h20 [] := K19.wr W20 (Or.inr sz_b3)
  have N20 := Fr.snoc X20 N19 g_b3
  obtain ⟨cl21, Ar21, q21, S21, N21', H21, G21⟩ := V20
  have hin121 : ¬ ((17 : Int32) < 0 ∨ cl21.slots.size ≤ ((17 : Int32)).toNatClampNeg) := inb_of S21 ⟨by decide, by decide⟩
  obtain ⟨T21, h21, X21, e21, W21, st21⟩ := stJ X20 hx hZ e20 Ar21 (j := (17 : Int32)) hin121 (g := (mkF m 121 #[.val (.int (Int32.ofNat f)), .unset] [(.long (100000000000000000 : Int64)), (.int (17 : Int32)), (.ref b3), (.ref b3)])) rfl rfl (hb hby d1_121)
  have V21 := Arv.set Ar21 q21 S21 N21' H21 G21 rfl W21 17 rfl (Nat.le_of_ble_eq_true rfl)
  have K21 : Keep h0 h21 [] := K20.wr W21 (Or.inr sz_b3)
  have N21 := Fr.snoc X21 N20 g_b3
  obtain ⟨cl22, Ar22, q22, S22, N22', H22, G22⟩ := V21
  have hin128 : ¬ ((18 : Int32) < 0 ∨ cl22.slots.size ≤ ((18 : Int32)).toNatClampNeg) := inb_of S22 ⟨by decide, by decide⟩
  obtain ⟨T22, h22, X22, e22, W22, st22⟩ := stJ X21 hx hZ e21 Ar22 (j := (18 : Int32)) hin128 (g := (mkF m 128 #[.val (.int (Int32.ofNat f)), .unset] [(.long (1000000000000000000 : Int64)), (.int (18 : Int32)), (.ref b3), (.ref b3)])) rfl rfl (hb hby d1_128)
  have V22 := Arv.set Ar22 q22 S22 N22' H22 G22 rfl W22 18 rfl (Nat.le_of_ble_eq_true rfl)
  have K22 : Keep h0 h22 [] := K21.wr W22 (Or.inr sz_b3)
  have N22 := Fr.snoc X22 N21 g_b3
  have VV : Arv Z h22 b3 k3 .long (19 : Int32) (own_ps.map Value.long) (.long (0 : Int64)) := V22
  obtain ⟨cl, Ar, qq1, SS, qq3, HH, GG⟩ := VV
  have SS : cl.slots.size = 19 := SS
  have hin : ¬ ((Int32.ofNat f) < 0 ∨ cl.slots.size ≤ (Int32.ofNat f).toNatClampNeg) := fun q => q.elim (own_pos hf) (fun q => by rw [own_nat hf, SS] at q; omega)
  have hat : cl.slots[(Int32.ofNat f).toNatClampNeg]? = some (.long (own_ps.getD f 0)) := by rw [own_nat hf]; have q := HH f (by rw [SS]; omega); rw [own_vals] at q; exact q
  obtain ⟨fs, hr, hrun, hended, hW, hsame⟩ := X22.leave (v := some (.long (own_ps.getD f 0))) (fun h => by rw [Bd.returns] at h; cases h)
  refine ⟨_, _, pre0 _ ?_, hrun, hended, _, _, rfl, ?_, ⟨_, rfl⟩, hW, hsame.mono (by decide) (by decide)⟩
  · show Steps p.tables e below (s₁.setTop (mkF m 0 #[.val (.int (Int32.ofNat f)), .unset] [])) _
    refine XS.bipush X0.here hx rfl (hb hby d1_0) ?_
    show Steps p.tables e below (s₁.setTop (mkF m 2 #[.val (.int (Int32.ofNat f)), .unset] [(.int (19 : Int32))])) _
    refine st3 _ ?_
    show Steps p.tables e below (T3.setTop (mkF m 4 #[.val (.int (Int32.ofNat f)), .unset] [(.ref b3)])) _
    refine XS.dup X3.here hx rfl (hb hby d1_4) rfl rfl ?_
    show Steps p.tables e below (T3.setTop (mkF m 5 #[.val (.int (Int32.ofNat f)), .unset] [(.ref b3), (.ref b3)])) _
    refine XS.iconst X3.here hx rfl (hb hby d1_5) ?_
    show Steps p.tables e below (T3.setTop (mkF m 6 #[.val (.int (Int32.ofNat f)), .unset] [(.int (0 : Int32)), (.ref b3), (.ref b3)])) _
    refine XS.lconst X3.here hx rfl (hb hby d1_6) ?_
    show Steps p.tables e below (T3.setTop (mkF m 7 #[.val (.int (Int32.ofNat f)), .unset] [(.long (1 : Int64)), (.int (0 : Int32)), (.ref b3), (.ref b3)])) _
    refine st4 _ ?_
    show Steps p.tables e below (T4.setTop (mkF m 8 #[.val (.int (Int32.ofNat f)), .unset] [(.ref b3)])) _
    refine XS.dup X4.here hx rfl (hb hby d1_8) rfl rfl ?_
    show Steps p.tables e below (T4.setTop (mkF m 9 #[.val (.int (Int32.ofNat f)), .unset] [(.ref b3), (.ref b3)])) _
    refine XS.iconst X4.here hx rfl (hb hby d1_9) ?_
    show Steps p.tables e below (T4.setTop (mkF m 10 #[.val (.int (Int32.ofNat f)), .unset] [(.int (1 : Int32)), (.ref b3), (.ref b3)])) _
    refine X4.ldc2Long hx hown (mvT hZ (hw _ (List.mem_of_getElem? (i := 7) rfl))) (g := (mkF m 10 #[.val (.int (Int32.ofNat f)), .unset] [(.int (1 : Int32)), (.ref b3), (.ref b3)])) rfl (hb hby d1_10) _ ?_
    show Steps p.tables e below (T4.setTop (mkF m 13 #[.val (.int (Int32.ofNat f)), .unset] [(.long (10 : Int64)), (.int (1 : Int32)), (.ref b3), (.ref b3)])) _
    refine st5 _ ?_
    show Steps p.tables e below (T5.setTop (mkF m 14 #[.val (.int (Int32.ofNat f)), .unset] [(.ref b3)])) _
    refine XS.dup X5.here hx rfl (hb hby d1_14) rfl rfl ?_
    show Steps p.tables e below (T5.setTop (mkF m 15 #[.val (.int (Int32.ofNat f)), .unset] [(.ref b3), (.ref b3)])) _
    refine XS.iconst X5.here hx rfl (hb hby d1_15) ?_
    show Steps p.tables e below (T5.setTop (mkF m 16 #[.val (.int (Int32.ofNat f)), .unset] [(.int (2 : Int32)), (.ref b3), (.ref b3)])) _
    refine X5.ldc2Long hx hown (mvT hZ (hw _ (List.mem_of_getElem? (i := 8) rfl))) (g := (mkF m 16 #[.val (.int (Int32.ofNat f)), .unset] [(.int (2 : Int32)), (.ref b3), (.ref b3)])) rfl (hb hby d1_16) _ ?_
    show Steps p.tables e below (T5.setTop (mkF m 19 #[.val (.int (Int32.ofNat f)), .unset] [(.long (100 : Int64)), (.int (2 : Int32)), (.ref b3), (.ref b3)])) _
    refine st6 _ ?_
    show Steps p.tables e below (T6.setTop (mkF m 20 #[.val (.int (Int32.ofNat f)), .unset] [(.ref b3)])) _
    refine XS.dup X6.here hx rfl (hb hby d1_20) rfl rfl ?_
    show Steps p.tables e below (T6.setTop (mkF m 21 #[.val (.int (Int32.ofNat f)), .unset] [(.ref b3), (.ref b3)])) _
    refine XS.iconst X6.here hx rfl (hb hby d1_21) ?_
    show Steps p.tables e below (T6.setTop (mkF m 22 #[.val (.int (Int32.ofNat f)), .unset] [(.int (3 : Int32)), (.ref b3), (.ref b3)])) _
    refine X6.ldc2Long hx hown (mvT hZ (hw _ (List.mem_of_getElem? (i := 9) rfl))) (g := (mkF m 22 #[.val (.int (Int32.ofNat f)), .unset] [(.int (3 : Int32)), (.ref b3), (.ref b3)])) rfl (hb hby d1_22) _ ?_
    show Steps p.tables e below (T6.setTop (mkF m 25 #[.val (.int (Int32.ofNat f)), .unset] [(.long (1000 : Int64)), (.int (3 : Int32)), (.ref b3), (.ref b3)])) _
    refine st7 _ ?_
    show Steps p.tables e below (T7.setTop (mkF m 26 #[.val (.int (Int32.ofNat f)), .unset] [(.ref b3)])) _
    refine XS.dup X7.here hx rfl (hb hby d1_26) rfl rfl ?_
    show Steps p.tables e below (T7.setTop (mkF m 27 #[.val (.int (Int32.ofNat f)), .unset] [(.ref b3), (.ref b3)])) _
    refine XS.iconst X7.here hx rfl (hb hby d1_27) ?_
    show Steps p.tables e below (T7.setTop (mkF m 28 #[.val (.int (Int32.ofNat f)), .unset] [(.int (4 : Int32)), (.ref b3), (.ref b3)])) _
    refine X7.ldc2Long hx hown (mvT hZ (hw _ (List.mem_of_getElem? (i := 10) rfl))) (g := (mkF m 28 #[.val (.int (Int32.ofNat f)), .unset] [(.int (4 : Int32)), (.ref b3), (.ref b3)])) rfl (hb hby d1_28) _ ?_
    show Steps p.tables e below (T7.setTop (mkF m 31 #[.val (.int (Int32.ofNat f)), .unset] [(.long (10000 : Int64)), (.int (4 : Int32)), (.ref b3), (.ref b3)])) _
    refine st8 _ ?_
    show Steps p.tables e below (T8.setTop (mkF m 32 #[.val (.int (Int32.ofNat f)), .unset] [(.ref b3)])) _
    refine XS.dup X8.here hx rfl (hb hby d1_32) rfl rfl ?_
    show Steps p.tables e below (T8.setTop (mkF m 33 #[.val (.int (Int32.ofNat f)), .unset] [(.ref b3), (.ref b3)])) _
    refine XS.iconst X8.here hx rfl (hb hby d1_33) ?_
    show Steps p.tables e below (T8.setTop (mkF m 34 #[.val (.int (Int32.ofNat f)), .unset] [(.int (5 : Int32)), (.ref b3), (.ref b3)])) _
    refine X8.ldc2Long hx hown (mvT hZ (hw _ (List.mem_of_getElem? (i := 11) rfl))) (g := (mkF m 34 #[.val (.int (Int32.ofNat f)), .unset] [(.int (5 : Int32)), (.ref b3), (.ref b3)])) rfl (hb hby d1_34) _ ?_
    show Steps p.tables e below (T8.setTop (mkF m 37 #[.val (.int (Int32.ofNat f)), .unset] [(.long (100000 : Int64)), (.int (5 : Int32)), (.ref b3), (.ref b3)])) _
    refine st9 _ ?_
    show Steps p.tables e below (T9.setTop (mkF m 38 #[.val (.int (Int32.ofNat f)), .unset] [(.ref b3)])) _
    refine XS.dup X9.here hx rfl (hb hby d1_38) rfl rfl ?_
    show Steps p.tables e below (T9.setTop (mkF m 39 #[.val (.int (Int32.ofNat f)), .unset] [(.ref b3), (.ref b3)])) _
    refine XS.bipush X9.here hx rfl (hb hby d1_39) ?_
    show Steps p.tables e below (T9.setTop (mkF m 41 #[.val (.int (Int32.ofNat f)), .unset] [(.int (6 : Int32)), (.ref b3), (.ref b3)])) _
    refine X9.ldc2Long hx hown (mvT hZ (hw _ (List.mem_of_getElem? (i := 12) rfl))) (g := (mkF m 41 #[.val (.int (Int32.ofNat f)), .unset] [(.int (6 : Int32)), (.ref b3), (.ref b3)])) rfl (hb hby d1_41) _ ?_
    show Steps p.tables e below (T9.setTop (mkF m 44 #[.val (.int (Int32.ofNat f)), .unset] [(.long (1000000 : Int64)), (.int (6 : Int32)), (.ref b3), (.ref b3)])) _
    refine st10 _ ?_
    show Steps p.tables e below (T10.setTop (mkF m 45 #[.val (.int (Int32.ofNat f)), .unset] [(.ref b3)])) _
    refine XS.dup X10.here hx rfl (hb hby d1_45) rfl rfl ?_
    show Steps p.tables e below (T10.setTop (mkF m 46 #[.val (.int (Int32.ofNat f)), .unset] [(.ref b3), (.ref b3)])) _
    refine XS.bipush X10.here hx rfl (hb hby d1_46) ?_
    show Steps p.tables e below (T10.setTop (mkF m 48 #[.val (.int (Int32.ofNat f)), .unset] [(.int (7 : Int32)), (.ref b3), (.ref b3)])) _
    refine X10.ldc2Long hx hown (mvT hZ (hw _ (List.mem_of_getElem? (i := 13) rfl))) (g := (mkF m 48 #[.val (.int (Int32.ofNat f)), .unset] [(.int (7 : Int32)), (.ref b3), (.ref b3)])) rfl (hb hby d1_48) _ ?_
    show Steps p.tables e below (T10.setTop (mkF m 51 #[.val (.int (Int32.ofNat f)), .unset] [(.long (10000000 : Int64)), (.int (7 : Int32)), (.ref b3), (.ref b3)])) _
    refine st11 _ ?_
    show Steps p.tables e below (T11.setTop (mkF m 52 #[.val (.int (Int32.ofNat f)), .unset] [(.ref b3)])) _
    refine XS.dup X11.here hx rfl (hb hby d1_52) rfl rfl ?_
    show Steps p.tables e below (T11.setTop (mkF m 53 #[.val (.int (Int32.ofNat f)), .unset] [(.ref b3), (.ref b3)])) _
    refine XS.bipush X11.here hx rfl (hb hby d1_53) ?_
    show Steps p.tables e below (T11.setTop (mkF m 55 #[.val (.int (Int32.ofNat f)), .unset] [(.int (8 : Int32)), (.ref b3), (.ref b3)])) _
    refine X11.ldc2Long hx hown (mvT hZ (hw _ (List.mem_of_getElem? (i := 14) rfl))) (g := (mkF m 55 #[.val (.int (Int32.ofNat f)), .unset] [(.int (8 : Int32)), (.ref b3), (.ref b3)])) rfl (hb hby d1_55) _ ?_
    show Steps p.tables e below (T11.setTop (mkF m 58 #[.val (.int (Int32.ofNat f)), .unset] [(.long (100000000 : Int64)), (.int (8 : Int32)), (.ref b3), (.ref b3)])) _
    refine st12 _ ?_
    show Steps p.tables e below (T12.setTop (mkF m 59 #[.val (.int (Int32.ofNat f)), .unset] [(.ref b3)])) _
    refine XS.dup X12.here hx rfl (hb hby d1_59) rfl rfl ?_
    show Steps p.tables e below (T12.setTop (mkF m 60 #[.val (.int (Int32.ofNat f)), .unset] [(.ref b3), (.ref b3)])) _
    refine XS.bipush X12.here hx rfl (hb hby d1_60) ?_
    show Steps p.tables e below (T12.setTop (mkF m 62 #[.val (.int (Int32.ofNat f)), .unset] [(.int (9 : Int32)), (.ref b3), (.ref b3)])) _
    refine X12.ldc2Long hx hown (mvT hZ (hw _ (List.mem_of_getElem? (i := 15) rfl))) (g := (mkF m 62 #[.val (.int (Int32.ofNat f)), .unset] [(.int (9 : Int32)), (.ref b3), (.ref b3)])) rfl (hb hby d1_62) _ ?_
    show Steps p.tables e below (T12.setTop (mkF m 65 #[.val (.int (Int32.ofNat f)), .unset] [(.long (1000000000 : Int64)), (.int (9 : Int32)), (.ref b3), (.ref b3)])) _
    refine st13 _ ?_
    show Steps p.tables e below (T13.setTop (mkF m 66 #[.val (.int (Int32.ofNat f)), .unset] [(.ref b3)])) _
    refine XS.dup X13.here hx rfl (hb hby d1_66) rfl rfl ?_
    show Steps p.tables e below (T13.setTop (mkF m 67 #[.val (.int (Int32.ofNat f)), .unset] [(.ref b3), (.ref b3)])) _
    refine XS.bipush X13.here hx rfl (hb hby d1_67) ?_
    show Steps p.tables e below (T13.setTop (mkF m 69 #[.val (.int (Int32.ofNat f)), .unset] [(.int (10 : Int32)), (.ref b3), (.ref b3)])) _
    refine X13.ldc2Long hx hown (mvT hZ (hw _ (List.mem_of_getElem? (i := 16) rfl))) (g := (mkF m 69 #[.val (.int (Int32.ofNat f)), .unset] [(.int (10 : Int32)), (.ref b3), (.ref b3)])) rfl (hb hby d1_69) _ ?_
    show Steps p.tables e below (T13.setTop (mkF m 72 #[.val (.int (Int32.ofNat f)), .unset] [(.long (10000000000 : Int64)), (.int (10 : Int32)), (.ref b3), (.ref b3)])) _
    refine st14 _ ?_
    show Steps p.tables e below (T14.setTop (mkF m 73 #[.val (.int (Int32.ofNat f)), .unset] [(.ref b3)])) _
    refine XS.dup X14.here hx rfl (hb hby d1_73) rfl rfl ?_
    show Steps p.tables e below (T14.setTop (mkF m 74 #[.val (.int (Int32.ofNat f)), .unset] [(.ref b3), (.ref b3)])) _
    refine XS.bipush X14.here hx rfl (hb hby d1_74) ?_
    show Steps p.tables e below (T14.setTop (mkF m 76 #[.val (.int (Int32.ofNat f)), .unset] [(.int (11 : Int32)), (.ref b3), (.ref b3)])) _
    refine X14.ldc2Long hx hown (mvT hZ (hw _ (List.mem_of_getElem? (i := 17) rfl))) (g := (mkF m 76 #[.val (.int (Int32.ofNat f)), .unset] [(.int (11 : Int32)), (.ref b3), (.ref b3)])) rfl (hb hby d1_76) _ ?_
    show Steps p.tables e below (T14.setTop (mkF m 79 #[.val (.int (Int32.ofNat f)), .unset] [(.long (100000000000 : Int64)), (.int (11 : Int32)), (.ref b3), (.ref b3)])) _
    refine st15 _ ?_
    show Steps p.tables e below (T15.setTop (mkF m 80 #[.val (.int (Int32.ofNat f)), .unset] [(.ref b3)])) _
    refine XS.dup X15.here hx rfl (hb hby d1_80) rfl rfl ?_
    show Steps p.tables e below (T15.setTop (mkF m 81 #[.val (.int (Int32.ofNat f)), .unset] [(.ref b3), (.ref b3)])) _
    refine XS.bipush X15.here hx rfl (hb hby d1_81) ?_
    show Steps p.tables e below (T15.setTop (mkF m 83 #[.val (.int (Int32.ofNat f)), .unset] [(.int (12 : Int32)), (.ref b3), (.ref b3)])) _
    refine X15.ldc2Long hx hown (mvT hZ (hw _ (List.mem_of_getElem? (i := 18) rfl))) (g := (mkF m 83 #[.val (.int (Int32.ofNat f)), .unset] [(.int (12 : Int32)), (.ref b3), (.ref b3)])) rfl (hb hby d1_83) _ ?_
    show Steps p.tables e below (T15.setTop (mkF m 86 #[.val (.int (Int32.ofNat f)), .unset] [(.long (1000000000000 : Int64)), (.int (12 : Int32)), (.ref b3), (.ref b3)])) _
    refine st16 _ ?_
    show Steps p.tables e below (T16.setTop (mkF m 87 #[.val (.int (Int32.ofNat f)), .unset] [(.ref b3)])) _
    refine XS.dup X16.here hx rfl (hb hby d1_87) rfl rfl ?_
    show Steps p.tables e below (T16.setTop (mkF m 88 #[.val (.int (Int32.ofNat f)), .unset] [(.ref b3), (.ref b3)])) _
    refine XS.bipush X16.here hx rfl (hb hby d1_88) ?_
    show Steps p.tables e below (T16.setTop (mkF m 90 #[.val (.int (Int32.ofNat f)), .unset] [(.int (13 : Int32)), (.ref b3), (.ref b3)])) _
    refine X16.ldc2Long hx hown (mvT hZ (hw _ (List.mem_of_getElem? (i := 19) rfl))) (g := (mkF m 90 #[.val (.int (Int32.ofNat f)), .unset] [(.int (13 : Int32)), (.ref b3), (.ref b3)])) rfl (hb hby d1_90) _ ?_
    show Steps p.tables e below (T16.setTop (mkF m 93 #[.val (.int (Int32.ofNat f)), .unset] [(.long (10000000000000 : Int64)), (.int (13 : Int32)), (.ref b3), (.ref b3)])) _
    refine st17 _ ?_
    show Steps p.tables e below (T17.setTop (mkF m 94 #[.val (.int (Int32.ofNat f)), .unset] [(.ref b3)])) _
    refine XS.dup X17.here hx rfl (hb hby d1_94) rfl rfl ?_
    show Steps p.tables e below (T17.setTop (mkF m 95 #[.val (.int (Int32.ofNat f)), .unset] [(.ref b3), (.ref b3)])) _
    refine XS.bipush X17.here hx rfl (hb hby d1_95) ?_
    show Steps p.tables e below (T17.setTop (mkF m 97 #[.val (.int (Int32.ofNat f)), .unset] [(.int (14 : Int32)), (.ref b3), (.ref b3)])) _
    refine X17.ldc2Long hx hown (mvT hZ (hw _ (List.mem_of_getElem? (i := 20) rfl))) (g := (mkF m 97 #[.val (.int (Int32.ofNat f)), .unset] [(.int (14 : Int32)), (.ref b3), (.ref b3)])) rfl (hb hby d1_97) _ ?_
    show Steps p.tables e below (T17.setTop (mkF m 100 #[.val (.int (Int32.ofNat f)), .unset] [(.long (100000000000000 : Int64)), (.int (14 : Int32)), (.ref b3), (.ref b3)])) _
    refine st18 _ ?_
    show Steps p.tables e below (T18.setTop (mkF m 101 #[.val (.int (Int32.ofNat f)), .unset] [(.ref b3)])) _
    refine XS.dup X18.here hx rfl (hb hby d1_101) rfl rfl ?_
    show Steps p.tables e below (T18.setTop (mkF m 102 #[.val (.int (Int32.ofNat f)), .unset] [(.ref b3), (.ref b3)])) _
    refine XS.bipush X18.here hx rfl (hb hby d1_102) ?_
    show Steps p.tables e below (T18.setTop (mkF m 104 #[.val (.int (Int32.ofNat f)), .unset] [(.int (15 : Int32)), (.ref b3), (.ref b3)])) _
    refine X18.ldc2Long hx hown (mvT hZ (hw _ (List.mem_of_getElem? (i := 21) rfl))) (g := (mkF m 104 #[.val (.int (Int32.ofNat f)), .unset] [(.int (15 : Int32)), (.ref b3), (.ref b3)])) rfl (hb hby d1_104) _ ?_
    show Steps p.tables e below (T18.setTop (mkF m 107 #[.val (.int (Int32.ofNat f)), .unset] [(.long (1000000000000000 : Int64)), (.int (15 : Int32)), (.ref b3), (.ref b3)])) _
    refine st19 _ ?_
    show Steps p.tables e below (T19.setTop (mkF m 108 #[.val (.int (Int32.ofNat f)), .unset] [(.ref b3)])) _
    refine XS.dup X19.here hx rfl (hb hby d1_108) rfl rfl ?_
    show Steps p.tables e below (T19.setTop (mkF m 109 #[.val (.int (Int32.ofNat f)), .unset] [(.ref b3), (.ref b3)])) _
    refine XS.bipush X19.here hx rfl (hb hby d1_109) ?_
    show Steps p.tables e below (T19.setTop (mkF m 111 #[.val (.int (Int32.ofNat f)), .unset] [(.int (16 : Int32)), (.ref b3), (.ref b3)])) _
    refine X19.ldc2Long hx hown (mvT hZ (hw _ (List.mem_of_getElem? (i := 22) rfl))) (g := (mkF m 111 #[.val (.int (Int32.ofNat f)), .unset] [(.int (16 : Int32)), (.ref b3), (.ref b3)])) rfl (hb hby d1_111) _ ?_
    show Steps p.tables e below (T19.setTop (mkF m 114 #[.val (.int (Int32.ofNat f)), .unset] [(.long (10000000000000000 : Int64)), (.int (16 : Int32)), (.ref b3), (.ref b3)])) _
    refine st20 _ ?_
    show Steps p.tables e below (T20.setTop (mkF m 115 #[.val (.int (Int32.ofNat f)), .unset] [(.ref b3)])) _
    refine XS.dup X20.here hx rfl (hb hby d1_115) rfl rfl ?_
    show Steps p.tables e below (T20.setTop (mkF m 116 #[.val (.int (Int32.ofNat f)), .unset] [(.ref b3), (.ref b3)])) _
    refine XS.bipush X20.here hx rfl (hb hby d1_116) ?_
    show Steps p.tables e below (T20.setTop (mkF m 118 #[.val (.int (Int32.ofNat f)), .unset] [(.int (17 : Int32)), (.ref b3), (.ref b3)])) _
    refine X20.ldc2Long hx hown (mvT hZ (hw _ (List.mem_of_getElem? (i := 23) rfl))) (g := (mkF m 118 #[.val (.int (Int32.ofNat f)), .unset] [(.int (17 : Int32)), (.ref b3), (.ref b3)])) rfl (hb hby d1_118) _ ?_
    show Steps p.tables e below (T20.setTop (mkF m 121 #[.val (.int (Int32.ofNat f)), .unset] [(.long (100000000000000000 : Int64)), (.int (17 : Int32)), (.ref b3), (.ref b3)])) _
    refine st21 _ ?_
    show Steps p.tables e below (T21.setTop (mkF m 122 #[.val (.int (Int32.ofNat f)), .unset] [(.ref b3)])) _
    refine XS.dup X21.here hx rfl (hb hby d1_122) rfl rfl ?_
    show Steps p.tables e below (T21.setTop (mkF m 123 #[.val (.int (Int32.ofNat f)), .unset] [(.ref b3), (.ref b3)])) _
    refine XS.bipush X21.here hx rfl (hb hby d1_123) ?_
    show Steps p.tables e below (T21.setTop (mkF m 125 #[.val (.int (Int32.ofNat f)), .unset] [(.int (18 : Int32)), (.ref b3), (.ref b3)])) _
    refine X21.ldc2Long hx hown (mvT hZ (hw _ (List.mem_of_getElem? (i := 24) rfl))) (g := (mkF m 125 #[.val (.int (Int32.ofNat f)), .unset] [(.int (18 : Int32)), (.ref b3), (.ref b3)])) rfl (hb hby d1_125) _ ?_
    show Steps p.tables e below (T21.setTop (mkF m 128 #[.val (.int (Int32.ofNat f)), .unset] [(.long (1000000000000000000 : Int64)), (.int (18 : Int32)), (.ref b3), (.ref b3)])) _
    refine st22 _ ?_
    show Steps p.tables e below (T22.setTop (mkF m 129 #[.val (.int (Int32.ofNat f)), .unset] [(.ref b3)])) _
    refine XS.astoreN X22.here hx rfl (hb hby d1_129) rfl rfl (l' := #[.val (.int (Int32.ofNat f)), .val (.ref b3)]) rfl ?_
    show Steps p.tables e below (T22.setTop (mkF m 130 #[.val (.int (Int32.ofNat f)), .val (.ref b3)] [])) _
    refine XS.aloadN X22.here hx rfl (hb hby d1_130) rfl rfl ?_
    show Steps p.tables e below (T22.setTop (mkF m 131 #[.val (.int (Int32.ofNat f)), .val (.ref b3)] [(.ref b3)])) _
    refine XS.iloadN X22.here hx rfl (hb hby d1_131) rfl ?_
    show Steps p.tables e below (T22.setTop (mkF m 132 #[.val (.int (Int32.ofNat f)), .val (.ref b3)] [(.int (Int32.ofNat f)), (.ref b3)])) _
    refine X22.laload hx (j := (Int32.ofNat f)) (v := (.long (own_ps.getD f 0))) (by rw [e22]; exact Ar.1) (State.isArrayOf_alike hZ.alike Ar.2.1) Ar.2.2 hin hat (g := (mkF m 132 #[.val (.int (Int32.ofNat f)), .val (.ref b3)] [(.int (Int32.ofNat f)), (.ref b3)])) rfl rfl (hb hby d1_132) _ ?_
    show Steps p.tables e below (T22.setTop (mkF m 133 #[.val (.int (Int32.ofNat f)), .val (.ref b3)] [(.long (own_ps.getD f 0))])) _
    exact X22.lreturnOut hx Bd.returns (hb hby d1_133) hr
  · show Q1 Z f h0 n0 _ T22.heap _
    rw [e22]
    exact ⟨rfl, N22, K22⟩
theorem d3_0 : decode prog_97_method_19_code 0 = .ok (.iconst 1, 1) := by decide +kernel
theorem d3_1 : decode prog_97_method_19_code 1 = .ok (.istore_n 2, 1) := by decide +kernel
theorem d3_2 : decode prog_97_method_19_code 2 = .ok (.lload_n 0, 1) := by decide +kernel
theorem d3_3 : decode prog_97_method_19_code 3 = .ok (.ldc2_w 211, 3) := by decide +kernel
theorem d3_6 : decode prog_97_method_19_code 6 = .ok (.ldiv, 1) := by decide +kernel
theorem d3_7 : decode prog_97_method_19_code 7 = .ok (.lstore_n 3, 1) := by decide +kernel
theorem d3_8 : decode prog_97_method_19_code 8 = .ok (.lload_n 3, 1) := by decide +kernel
theorem d3_9 : decode prog_97_method_19_code 9 = .ok (.lconst 0, 1) := by decide +kernel
theorem d3_10 : decode prog_97_method_19_code 10 = .ok (.lcmp, 1) := by decide +kernel
theorem d3_11 : decode prog_97_method_19_code 11 = .ok (.ifCond .le 15, 3) := by decide +kernel
theorem d3_14 : decode prog_97_method_19_code 14 = .ok (.iinc 2 1, 3) := by decide +kernel
theorem d3_17 : decode prog_97_method_19_code 17 = .ok (.lload_n 3, 1) := by decide +kernel
theorem d3_18 : decode prog_97_method_19_code 18 = .ok (.ldc2_w 211, 3) := by decide +kernel
theorem d3_21 : decode prog_97_method_19_code 21 = .ok (.ldiv, 1) := by decide +kernel
theorem d3_22 : decode prog_97_method_19_code 22 = .ok (.lstore_n 3, 1) := by decide +kernel
theorem d3_23 : decode prog_97_method_19_code 23 = .ok (.goto (-15), 3) := by decide +kernel
theorem d3_26 : decode prog_97_method_19_code 26 = .ok (.iload_n 2, 1) := by decide +kernel
theorem d3_27 : decode prog_97_method_19_code 27 = .ok (.ireturn, 1) := by decide +kernel
theorem own_tenth {q : Int64} {N : Nat} (h : q.toInt = N) : (q / (10 : Int64)).toInt = (N / 10 : Nat) := by
  have e := (c_ldiv q (10 : Int64) 10 (by decide) (by decide)).1 (by rw [h]; omega)
  rw [e, h]; omega
set_option maxRecDepth 65536 in
set_option maxHeartbeats 40000000 in
theorem own_turn {p : Program} {l : Launch} {e : Env} {R : Room} {s : State} {m : MethodId} {args : Array Value} {below : List Frame} {meth : Method} {c : Code} {locs : List Loc} {cells slots : Nat} {Z : State} {a0 : Array Value} {T0 : State} (s0 s1 : Slot) (hx : p.tables.exec = Jvm.exec) (hZ : Z.Warmed39 s.vm) (hw : ∀ d ∈ tables_1, d.before a0 Z = true) (hby : c.code = prog_97_method_19_code) (hown : s.vm.findClass "com/example/tailwire/tailwire/http/Response" = some m.cls) (d : Int32) (j3 : Int64) (hlt : (0 : Int64) < j3) (X0 : Stand p l e R s m args below meth c T0 locs cells slots) {target : State} (kt : Steps p.tables e below (T0.setTop (mkF m 8 #[s0, s1, .val (.int (d + (1 : Int32))), .val (.long (j3 / (10 : Int64))), .second] [])) target) :
    Steps p.tables e below (T0.setTop (mkF m 8 #[s0, s1, .val (.int d), .val (.long j3), .second] [])) target := by
  show Steps p.tables e below (T0.setTop (mkF m 8 #[s0, s1, .val (.int d), .val (.long j3), .second] [])) _
  refine XS.lloadN X0.here hx rfl (hb hby d3_8) rfl ?_
  show Steps p.tables e below (T0.setTop (mkF m 9 #[s0, s1, .val (.int d), .val (.long j3), .second] [(.long j3)])) _
  refine XS.lconst X0.here hx rfl (hb hby d3_9) ?_
  show Steps p.tables e below (T0.setTop (mkF m 10 #[s0, s1, .val (.int d), .val (.long j3), .second] [(.long (0 : Int64)), (.long j3)])) _
  refine XS.lcmp X0.here hx rfl (hb hby d3_10) rfl ?_
  show Steps p.tables e below (T0.setTop (mkF m 11 #[s0, s1, .val (.int d), .val (.long j3), .second] [(.int (lcmpW j3 (0 : Int64)))])) _
  refine XS.ifNo X0.here hx rfl (hb hby d3_11) rfl ((if0 _ _).trans (tlt ((lw_gt j3 (0 : Int64)).mpr hlt)).2.2.2) ?_
  show Steps p.tables e below (T0.setTop (mkF m 14 #[s0, s1, .val (.int d), .val (.long j3), .second] [])) _
  refine XS.iinc X0.here hx rfl (hb hby d3_14) rfl (l' := #[s0, s1, .val (.int (d + (1 : Int32))), .val (.long j3), .second]) rfl ?_
  show Steps p.tables e below (T0.setTop (mkF m 17 #[s0, s1, .val (.int (d + (1 : Int32))), .val (.long j3), .second] [])) _
  refine XS.lloadN X0.here hx rfl (hb hby d3_17) rfl ?_
  show Steps p.tables e below (T0.setTop (mkF m 18 #[s0, s1, .val (.int (d + (1 : Int32))), .val (.long j3), .second] [(.long j3)])) _
  refine X0.ldc2Long hx hown (mvT hZ (hw _ (List.mem_of_getElem? (i := 29) rfl))) (g := (mkF m 18 #[s0, s1, .val (.int (d + (1 : Int32))), .val (.long j3), .second] [(.long j3)])) rfl (hb hby d3_18) _ ?_
  show Steps p.tables e below (T0.setTop (mkF m 21 #[s0, s1, .val (.int (d + (1 : Int32))), .val (.long j3), .second] [(.long (10 : Int64)), (.long j3)])) _
  refine XS.ldiv X0.here hx rfl (hb hby d3_21) rfl (by decide) ?_
  show Steps p.tables e below (T0.setTop (mkF m 22 #[s0, s1, .val (.int (d + (1 : Int32))), .val (.long j3), .second] [(.long (j3 / (10 : Int64)))])) _
  refine XS.lstoreN X0.here hx rfl (hb hby d3_22) rfl (l' := #[s0, s1, .val (.int (d + (1 : Int32))), .val (.long (j3 / (10 : Int64))), .second]) rfl ?_
  show Steps p.tables e below (T0.setTop (mkF m 23 #[s0, s1, .val (.int (d + (1 : Int32))), .val (.long (j3 / (10 : Int64))), .second] [])) _
  refine XS.goto X0.here hx rfl (pc0 := 23) (pc' := 8) rfl (hb hby d3_23) (by decide) (by decide) ?_
  show Steps p.tables e below (T0.setTop (mkF m 8 #[s0, s1, .val (.int (d + (1 : Int32))), .val (.long (j3 / (10 : Int64))), .second] [])) _
  exact kt
set_option maxRecDepth 65536 in
set_option maxHeartbeats 40000000 in
theorem own_out {p : Program} {l : Launch} {e : Env} {R : Room} {s : State} {m : MethodId} {args : Array Value} {below : List Frame} {meth : Method} {c : Code} {locs : List Loc} {cells slots : Nat} {Z : State} {a0 : Array Value} {T0 : State} (s0 s1 : Slot) (hx : p.tables.exec = Jvm.exec) (hZ : Z.Warmed39 s.vm) (hw : ∀ d ∈ tables_1, d.before a0 Z = true) (hby : c.code = prog_97_method_19_code) (hown : s.vm.findClass "com/example/tailwire/tailwire/http/Response" = some m.cls) (hret : meth.sig.returnType = some .int) {fs : List Frame} (d : Int32) (j3 : Int64) (hlt : ¬ (0 : Int64) < j3) (X0 : Stand p l e R s m args below meth c T0 locs cells slots) (hr : (∀ (f : JFrame) (acts : List Action), f.method = m → f.locked = none → f.entered = [] → (doReturn e (T0.setTop f) acts (some (.int d))).1 = T0.setFrames fs)) :
    Steps p.tables e below (T0.setTop (mkF m 8 #[s0, s1, .val (.int d), .val (.long j3), .second] [])) (T0.setFrames fs) := by
  show Steps p.tables e below (T0.setTop (mkF m 8 #[s0, s1, .val (.int d), .val (.long j3), .second] [])) _
  refine XS.lloadN X0.here hx rfl (hb hby d3_8) rfl ?_
  show Steps p.tables e below (T0.setTop (mkF m 9 #[s0, s1, .val (.int d), .val (.long j3), .second] [(.long j3)])) _
  refine XS.lconst X0.here hx rfl (hb hby d3_9) ?_
  show Steps p.tables e below (T0.setTop (mkF m 10 #[s0, s1, .val (.int d), .val (.long j3), .second] [(.long (0 : Int64)), (.long j3)])) _
  refine XS.lcmp X0.here hx rfl (hb hby d3_10) rfl ?_
  show Steps p.tables e below (T0.setTop (mkF m 11 #[s0, s1, .val (.int d), .val (.long j3), .second] [(.int (lcmpW j3 (0 : Int64)))])) _
  refine XS.ifYes X0.here hx rfl (pc0 := 11) (pc' := 26) rfl (hb hby d3_11) rfl ((if0 _ _).trans (flt (fun hz => hlt ((lw_gt j3 (0 : Int64)).mp hz))).2.2.2) (by decide) (by decide) ?_
  show Steps p.tables e below (T0.setTop (mkF m 26 #[s0, s1, .val (.int d), .val (.long j3), .second] [])) _
  refine XS.iloadN X0.here hx rfl (hb hby d3_26) rfl ?_
  show Steps p.tables e below (T0.setTop (mkF m 27 #[s0, s1, .val (.int d), .val (.long j3), .second] [(.int d)])) _
  exact retI X0 hx hret (hb hby d3_27) hr
theorem own_loop {p : Program} {l : Launch} {e : Env} {R : Room} {s : State} {m : MethodId} {args : Array Value} {below : List Frame} {meth : Method} {c : Code} {locs : List Loc} {cells slots : Nat} {Z : State} {a0 : Array Value} (s0 s1 : Slot) (hx : p.tables.exec = Jvm.exec) (hZ : Z.Warmed39 s.vm) (hw : ∀ d ∈ tables_1, d.before a0 Z = true) (hby : c.code = prog_97_method_19_code) (hown : s.vm.findClass "com/example/tailwire/tailwire/http/Response" = some m.cls) (hret : meth.sig.returnType = some .int) {fs : List Frame} :
    ∀ (k : Nat) (d : Int32) (N : Nat) (j3 : Int64) (T0 : State), j3.toInt = N → N < 10 ^ k → Stand p l e R s m args below meth c T0 locs cells slots → (∀ (f : JFrame) (acts : List Action), f.method = m → f.locked = none → f.entered = [] → (doReturn e (T0.setTop f) acts (some (.int (d + Int32.ofNat (own_dig k N))))).1 = T0.setFrames fs) →
      Steps p.tables e below (T0.setTop (mkF m 8 #[s0, s1, .val (.int d), .val (.long j3), .second] [])) (T0.setFrames fs) := by
  have e0 : (0 : Int64).toInt = 0 := rfl
  intro k
  induction k with
  | zero =>
    intro d N j3 T0 hN hk X0 hr
    have h0 : N = 0 := by simpa using hk
    subst h0
    have hv : d + Int32.ofNat (own_dig 0 0) = d := Int32.add_zero d
    rw [hv] at hr
    exact own_out s0 s1 hx hZ hw hby hown hret d j3 (by rw [Int64.lt_iff_toInt_lt, hN, e0]; omega) X0 hr
  | succ k ih =>
    intro d N j3 T0 hN hk X0 hr
    by_cases h0 : N = 0
    · subst h0
      have hv : d + Int32.ofNat (own_dig (k + 1) 0) = d := by rw [own_dig0]; exact Int32.add_zero d
      rw [hv] at hr
      exact own_out s0 s1 hx hZ hw hby hown hret d j3 (by rw [Int64.lt_iff_toInt_lt, hN, e0]; omega) X0 hr
    · refine own_turn s0 s1 hx hZ hw hby hown d j3 (by rw [Int64.lt_iff_toInt_lt, hN, e0]; omega) X0 ?_
      have hv : d + Int32.ofNat (own_dig (k + 1) N) = (d + (1 : Int32)) + Int32.ofNat (own_dig k (N / 10)) := by
        have h1 : Int32.ofNat (own_dig k (N / 10) + 1) = (1 : Int32) + Int32.ofNat (own_dig k (N / 10)) := (Int32.ofNat_add _ 1).trans (Int32.add_comm _ _)
        rw [own_digS k N h0, h1, ← Int32.add_assoc]
      rw [hv] at hr
      have hs : 10 ^ (k + 1) = 10 ^ k * 10 := Nat.pow_succ ..
      exact ih (d + (1 : Int32)) (N / 10) (j3 / (10 : Int64)) T0 (own_tenth hN) (by omega) X0 hr
theorem pn_3 : plainName "com/example/tailwire/tailwire/http/Response" = true := by first | (simp [plainName, overriddenIn]; done) | decide +kernel
theorem ef_3 (m : MethodId) (x0 : Int64) : entryFrame m #[(.long x0)] 5 = (mkF m 0 #[.val (.long x0), .second, .unset, .unset, .unset] []) := by first | (simp [entryFrame, mkF, argsToLocals, Value.category]; done) | rfl
def Q3 (Z : State) (N : Nat) (h0 : Heap) (n0 : Nat) (v : Option Value) (h : Heap) (L : List Loc) : Prop := v = some (.int ((1 : Int32) + Int32.ofNat (own_dig 19 (N / 10)))) ∧ Fr n0 L ∧ h = h0
set_option maxRecDepth 65536 in
set_option maxHeartbeats 40000000 in
theorem rm3 (l : Launch) (Z : State) (a0 : Array Value) (hw : ∀ d ∈ tables_1, d.before a0 Z = true) (ws : List Jvm.Cond) (q1 : Int64) (N : Nat) (h0 : Heap) (n0 : Nat) (Z0 : n0 ≤ h0.size) (hN : q1.toInt = N) :
    MetFree l (⟨"com/example/tailwire/tailwire/http/Response", "decimalLength", "(J)I"⟩ : MethodName) (head1 (Jvm.Cond.code (⟨"com/example/tailwire/tailwire/http/Response", "decimalLength", "(J)I"⟩ : MethodName) prog_97_method_19_code 5 (some .int) :: ws) ({ frames := 0, cells := 0, slots := 0, locals := 0 } : Room)) (fun a U => a = #[(.long q1)] ∧ Z.Warmed39 U.vm ∧ U.heap = h0) (fun _ _ _ _ _ => True) (fun _ U o U' => ∃ v L, o = .returned v ∧ Q3 Z N h0 n0 v U'.heap L ∧ FrameEnd U o U' L ({ frames := 0, cells := 0, slots := 0, locals := 0 } : Room).cells ({ frames := 0, cells := 0, slots := 0, locals := 0 } : Room).slots) := by
  refine MetFree.of_bodySF (plainFor_of_name pn_3) hisR ?_
  intro p e s m args below meth c s₁ Bd hml0 hP hK
  obtain ⟨rfl, hZ, hh⟩ := hP
  have hx := Bd.exec
  have hby := Bd.bytes
  have hml : c.maxLocals = 5 := hml0
  have hown : s.vm.findClass "com/example/tailwire/tailwire/http/Response" = some m.cls := findClass_of_methodNamed Bd.named
  have X0 : Stand p l e ({ frames := 0, cells := 0, slots := 0, locals := 0 } : Room) s m #[(.long q1)] below meth c s₁ [] 0 0 := Stand.of_body Bd
  have e0 : s₁.heap = h0 := by rw [← hh, Bd.state]; rfl
  have N0 := Fr.nil n0
  have pre0 : ∀ t, Steps p.tables e below (s₁.setTop (mkF m 0 #[.val (.long q1), .second, .unset, .unset, .unset] [])) t → Steps p.tables e below (s₁.setTop (entryFrame m #[(.long q1)] 5)) t := fun t k => castTop (ef_3 m q1) k
  obtain ⟨fs, hr, hrun, hended, hW, hsame⟩ := X0.leave (v := some (.int ((1 : Int32) + Int32.ofNat (own_dig 19 (N / 10))))) (fun h => by rw [Bd.returns] at h; cases h)
  refine ⟨_, _, pre0 _ ?_, hrun, hended, _, _, rfl, ?_, ⟨_, rfl⟩, hW, hsame.mono (by decide) (by decide)⟩
  · show Steps p.tables e below (s₁.setTop (mkF m 0 #[.val (.long q1), .second, .unset, .unset, .unset] [])) _
    refine XS.iconst X0.here hx rfl (hb hby d3_0) ?_
    show Steps p.tables e below (s₁.setTop (mkF m 1 #[.val (.long q1), .second, .unset, .unset, .unset] [(.int (1 : Int32))])) _
    refine XS.istoreN X0.here hx rfl (hb hby d3_1) rfl (l' := #[.val (.long q1), .second, .val (.int (1 : Int32)), .unset, .unset]) rfl ?_
    show Steps p.tables e below (s₁.setTop (mkF m 2 #[.val (.long q1), .second, .val (.int (1 : Int32)), .unset, .unset] [])) _
    refine XS.lloadN X0.here hx rfl (hb hby d3_2) rfl ?_
    show Steps p.tables e below (s₁.setTop (mkF m 3 #[.val (.long q1), .second, .val (.int (1 : Int32)), .unset, .unset] [(.long q1)])) _
    refine X0.ldc2Long hx hown (mvT hZ (hw _ (List.mem_of_getElem? (i := 29) rfl))) (g := (mkF m 3 #[.val (.long q1), .second, .val (.int (1 : Int32)), .unset, .unset] [(.long q1)])) rfl (hb hby d3_3) _ ?_
    show Steps p.tables e below (s₁.setTop (mkF m 6 #[.val (.long q1), .second, .val (.int (1 : Int32)), .unset, .unset] [(.long (10 : Int64)), (.long q1)])) _
    refine XS.ldiv X0.here hx rfl (hb hby d3_6) rfl (by decide) ?_
    show Steps p.tables e below (s₁.setTop (mkF m 7 #[.val (.long q1), .second, .val (.int (1 : Int32)), .unset, .unset] [(.long (q1 / (10 : Int64)))])) _
    refine XS.lstoreN X0.here hx rfl (hb hby d3_7) rfl (l' := #[.val (.long q1), .second, .val (.int (1 : Int32)), .val (.long (q1 / (10 : Int64))), .second]) rfl ?_
    show Steps p.tables e below (s₁.setTop (mkF m 8 #[.val (.long q1), .second, .val (.int (1 : Int32)), .val (.long (q1 / (10 : Int64))), .second] [])) _
    exact own_loop (.val (.long q1)) .second hx hZ hw hby hown Bd.returns 19 (1 : Int32) (N / 10) (q1 / (10 : Int64)) s₁ (own_tenth hN) (by have := rng64 q1; omega) X0 hr
  · show Q3 Z N h0 n0 _ s₁.heap _
    rw [e0]
    exact ⟨rfl, N0, rfl⟩
theorem d4_0 : decode method_3_code 0 = .ok (.lload_n 0, 1) := by decide +kernel
theorem d4_1 : decode method_3_code 1 = .ok (.ldc2_w 7, 3) := by decide +kernel
theorem d4_4 : decode method_3_code 4 = .ok (.lcmp, 1) := by decide +kernel
theorem d4_5 : decode method_3_code 5 = .ok (.ifCond .ge 5, 3) := by decide +kernel
theorem d4_8 : decode method_3_code 8 = .ok (.iconst 1, 1) := by decide +kernel
theorem d4_9 : decode method_3_code 9 = .ok (.ireturn, 1) := by decide +kernel
theorem d4_10 : decode method_3_code 10 = .ok (.lload_n 0, 1) := by decide +kernel
theorem d4_11 : decode method_3_code 11 = .ok (.ldc2_w 9, 3) := by decide +kernel
theorem d4_14 : decode method_3_code 14 = .ok (.lcmp, 1) := by decide +kernel
theorem d4_15 : decode method_3_code 15 = .ok (.ifCond .ge 5, 3) := by decide +kernel
theorem d4_18 : decode method_3_code 18 = .ok (.iconst 2, 1) := by decide +kernel
theorem d4_19 : decode method_3_code 19 = .ok (.ireturn, 1) := by decide +kernel
theorem d4_20 : decode method_3_code 20 = .ok (.lload_n 0, 1) := by decide +kernel
theorem d4_21 : decode method_3_code 21 = .ok (.ldc2_w 11, 3) := by decide +kernel
theorem d4_24 : decode method_3_code 24 = .ok (.lcmp, 1) := by decide +kernel
theorem d4_25 : decode method_3_code 25 = .ok (.ifCond .ge 5, 3) := by decide +kernel
theorem d4_28 : decode method_3_code 28 = .ok (.iconst 3, 1) := by decide +kernel
theorem d4_29 : decode method_3_code 29 = .ok (.ireturn, 1) := by decide +kernel
theorem d4_30 : decode method_3_code 30 = .ok (.lload_n 0, 1) := by decide +kernel
theorem d4_31 : decode method_3_code 31 = .ok (.ldc2_w 13, 3) := by decide +kernel
theorem d4_34 : decode method_3_code 34 = .ok (.lcmp, 1) := by decide +kernel
theorem d4_35 : decode method_3_code 35 = .ok (.ifCond .ge 5, 3) := by decide +kernel
theorem d4_38 : decode method_3_code 38 = .ok (.iconst 4, 1) := by decide +kernel
theorem d4_39 : decode method_3_code 39 = .ok (.ireturn, 1) := by decide +kernel
theorem d4_40 : decode method_3_code 40 = .ok (.lload_n 0, 1) := by decide +kernel
theorem d4_41 : decode method_3_code 41 = .ok (.ldc2_w 15, 3) := by decide +kernel
theorem d4_44 : decode method_3_code 44 = .ok (.lcmp, 1) := by decide +kernel
theorem d4_45 : decode method_3_code 45 = .ok (.ifCond .ge 5, 3) := by decide +kernel
theorem d4_48 : decode method_3_code 48 = .ok (.iconst 5, 1) := by decide +kernel
theorem d4_49 : decode method_3_code 49 = .ok (.ireturn, 1) := by decide +kernel
theorem d4_50 : decode method_3_code 50 = .ok (.lload_n 0, 1) := by decide +kernel
theorem d4_51 : decode method_3_code 51 = .ok (.ldc2_w 17, 3) := by decide +kernel
theorem d4_54 : decode method_3_code 54 = .ok (.lcmp, 1) := by decide +kernel
theorem d4_55 : decode method_3_code 55 = .ok (.ifCond .ge 6, 3) := by decide +kernel
theorem d4_58 : decode method_3_code 58 = .ok (.bipush 6, 2) := by decide +kernel
theorem d4_60 : decode method_3_code 60 = .ok (.ireturn, 1) := by decide +kernel
theorem d4_61 : decode method_3_code 61 = .ok (.lload_n 0, 1) := by decide +kernel
theorem d4_62 : decode method_3_code 62 = .ok (.ldc2_w 19, 3) := by decide +kernel
theorem d4_65 : decode method_3_code 65 = .ok (.lcmp, 1) := by decide +kernel
theorem d4_66 : decode method_3_code 66 = .ok (.ifCond .ge 6, 3) := by decide +kernel
theorem d4_69 : decode method_3_code 69 = .ok (.bipush 7, 2) := by decide +kernel
theorem d4_71 : decode method_3_code 71 = .ok (.ireturn, 1) := by decide +kernel
theorem d4_72 : decode method_3_code 72 = .ok (.lload_n 0, 1) := by decide +kernel
theorem d4_73 : decode method_3_code 73 = .ok (.ldc2_w 21, 3) := by decide +kernel
theorem d4_76 : decode method_3_code 76 = .ok (.lcmp, 1) := by decide +kernel
theorem d4_77 : decode method_3_code 77 = .ok (.ifCond .ge 6, 3) := by decide +kernel
theorem d4_80 : decode method_3_code 80 = .ok (.bipush 8, 2) := by decide +kernel
theorem d4_82 : decode method_3_code 82 = .ok (.ireturn, 1) := by decide +kernel
theorem d4_83 : decode method_3_code 83 = .ok (.lload_n 0, 1) := by decide +kernel
theorem d4_84 : decode method_3_code 84 = .ok (.ldc2_w 23, 3) := by decide +kernel
theorem d4_87 : decode method_3_code 87 = .ok (.lcmp, 1) := by decide +kernel
theorem d4_88 : decode method_3_code 88 = .ok (.ifCond .ge 6, 3) := by decide +kernel
theorem d4_91 : decode method_3_code 91 = .ok (.bipush 9, 2) := by decide +kernel
theorem d4_93 : decode method_3_code 93 = .ok (.ireturn, 1) := by decide +kernel
theorem d4_94 : decode method_3_code 94 = .ok (.lload_n 0, 1) := by decide +kernel
theorem d4_95 : decode method_3_code 95 = .ok (.ldc2_w 25, 3) := by decide +kernel
theorem d4_98 : decode method_3_code 98 = .ok (.lcmp, 1) := by decide +kernel
theorem d4_99 : decode method_3_code 99 = .ok (.ifCond .ge 6, 3) := by decide +kernel
theorem d4_102 : decode method_3_code 102 = .ok (.bipush 10, 2) := by decide +kernel
theorem d4_104 : decode method_3_code 104 = .ok (.ireturn, 1) := by decide +kernel
theorem d4_105 : decode method_3_code 105 = .ok (.lload_n 0, 1) := by decide +kernel
theorem d4_106 : decode method_3_code 106 = .ok (.ldc2_w 27, 3) := by decide +kernel
theorem d4_109 : decode method_3_code 109 = .ok (.lcmp, 1) := by decide +kernel
theorem d4_110 : decode method_3_code 110 = .ok (.ifCond .ge 6, 3) := by decide +kernel
theorem d4_113 : decode method_3_code 113 = .ok (.bipush 11, 2) := by decide +kernel
theorem d4_115 : decode method_3_code 115 = .ok (.ireturn, 1) := by decide +kernel
theorem d4_116 : decode method_3_code 116 = .ok (.lload_n 0, 1) := by decide +kernel
theorem d4_117 : decode method_3_code 117 = .ok (.ldc2_w 29, 3) := by decide +kernel
theorem d4_120 : decode method_3_code 120 = .ok (.lcmp, 1) := by decide +kernel
theorem d4_121 : decode method_3_code 121 = .ok (.ifCond .ge 6, 3) := by decide +kernel
theorem d4_124 : decode method_3_code 124 = .ok (.bipush 12, 2) := by decide +kernel
theorem d4_126 : decode method_3_code 126 = .ok (.ireturn, 1) := by decide +kernel
theorem d4_127 : decode method_3_code 127 = .ok (.lload_n 0, 1) := by decide +kernel
theorem d4_128 : decode method_3_code 128 = .ok (.ldc2_w 31, 3) := by decide +kernel
theorem d4_131 : decode method_3_code 131 = .ok (.lcmp, 1) := by decide +kernel
theorem d4_132 : decode method_3_code 132 = .ok (.ifCond .ge 6, 3) := by decide +kernel
theorem d4_135 : decode method_3_code 135 = .ok (.bipush 13, 2) := by decide +kernel
theorem d4_137 : decode method_3_code 137 = .ok (.ireturn, 1) := by decide +kernel
theorem d4_138 : decode method_3_code 138 = .ok (.lload_n 0, 1) := by decide +kernel
theorem d4_139 : decode method_3_code 139 = .ok (.ldc2_w 33, 3) := by decide +kernel
theorem d4_142 : decode method_3_code 142 = .ok (.lcmp, 1) := by decide +kernel
theorem d4_143 : decode method_3_code 143 = .ok (.ifCond .ge 6, 3) := by decide +kernel
theorem d4_146 : decode method_3_code 146 = .ok (.bipush 14, 2) := by decide +kernel
theorem d4_148 : decode method_3_code 148 = .ok (.ireturn, 1) := by decide +kernel
theorem d4_149 : decode method_3_code 149 = .ok (.lload_n 0, 1) := by decide +kernel
theorem d4_150 : decode method_3_code 150 = .ok (.ldc2_w 35, 3) := by decide +kernel
theorem d4_153 : decode method_3_code 153 = .ok (.lcmp, 1) := by decide +kernel
theorem d4_154 : decode method_3_code 154 = .ok (.ifCond .ge 6, 3) := by decide +kernel
theorem d4_157 : decode method_3_code 157 = .ok (.bipush 15, 2) := by decide +kernel
theorem d4_159 : decode method_3_code 159 = .ok (.ireturn, 1) := by decide +kernel
theorem d4_160 : decode method_3_code 160 = .ok (.lload_n 0, 1) := by decide +kernel
theorem d4_161 : decode method_3_code 161 = .ok (.ldc2_w 37, 3) := by decide +kernel
theorem d4_164 : decode method_3_code 164 = .ok (.lcmp, 1) := by decide +kernel
theorem d4_165 : decode method_3_code 165 = .ok (.ifCond .ge 6, 3) := by decide +kernel
theorem d4_168 : decode method_3_code 168 = .ok (.bipush 16, 2) := by decide +kernel
theorem d4_170 : decode method_3_code 170 = .ok (.ireturn, 1) := by decide +kernel
theorem d4_171 : decode method_3_code 171 = .ok (.lload_n 0, 1) := by decide +kernel
theorem d4_172 : decode method_3_code 172 = .ok (.ldc2_w 39, 3) := by decide +kernel
theorem d4_175 : decode method_3_code 175 = .ok (.lcmp, 1) := by decide +kernel
theorem d4_176 : decode method_3_code 176 = .ok (.ifCond .ge 6, 3) := by decide +kernel
theorem d4_179 : decode method_3_code 179 = .ok (.bipush 17, 2) := by decide +kernel
theorem d4_181 : decode method_3_code 181 = .ok (.ireturn, 1) := by decide +kernel
theorem d4_182 : decode method_3_code 182 = .ok (.lload_n 0, 1) := by decide +kernel
theorem d4_183 : decode method_3_code 183 = .ok (.ldc2_w 41, 3) := by decide +kernel
theorem d4_186 : decode method_3_code 186 = .ok (.lcmp, 1) := by decide +kernel
theorem d4_187 : decode method_3_code 187 = .ok (.ifCond .ge 6, 3) := by decide +kernel
theorem d4_190 : decode method_3_code 190 = .ok (.bipush 18, 2) := by decide +kernel
theorem d4_192 : decode method_3_code 192 = .ok (.ireturn, 1) := by decide +kernel
theorem d4_193 : decode method_3_code 193 = .ok (.bipush 19, 2) := by decide +kernel
theorem d4_195 : decode method_3_code 195 = .ok (.ireturn, 1) := by decide +kernel
theorem pn_4 : plainName "com/example/tailwire/tailwire/http/ResponseDecimalLengthPinLaw" = true := by first | (simp [plainName, overriddenIn]; done) | decide +kernel
theorem ef_4 (m : MethodId) (q1 : Int64) : entryFrame m #[(.long q1)] 2 = (mkF m 0 #[.val (.long q1), .second] []) := by first | (simp [entryFrame, mkF, argsToLocals, Value.category]; done) | rfl
def own_F4 (q1 : Int64) : Int32 := if q1 < (10 : Int64) then (1 : Int32) else (if q1 < (100 : Int64) then (2 : Int32) else (if q1 < (1000 : Int64) then (3 : Int32) else (if q1 < (10000 : Int64) then (4 : Int32) else (if q1 < (100000 : Int64) then (5 : Int32) else (if q1 < (1000000 : Int64) then (6 : Int32) else (if q1 < (10000000 : Int64) then (7 : Int32) else (if q1 < (100000000 : Int64) then (8 : Int32) else (if q1 < (1000000000 : Int64) then (9 : Int32) else (if q1 < (10000000000 : Int64) then (10 : Int32) else (if q1 < (100000000000 : Int64) then (11 : Int32) else (if q1 < (1000000000000 : Int64) then (12 : Int32) else (if q1 < (10000000000000 : Int64) then (13 : Int32) else (if q1 < (100000000000000 : Int64) then (14 : Int32) else (if q1 < (1000000000000000 : Int64) then (15 : Int32) else (if q1 < (10000000000000000 : Int64) then (16 : Int32) else (if q1 < (100000000000000000 : Int64) then (17 : Int32) else (if q1 < (1000000000000000000 : Int64) then (18 : Int32) else (19 : Int32))))))))))))))))))
def Q4 (Z : State) (q1 : Int64) (h0 : Heap) (n0 : Nat) (v : Option Value) (h : Heap) (L : List Loc) : Prop := v = some (.int (own_F4 q1)) ∧ Fr n0 L ∧ h = h0
set_option maxRecDepth 65536 in
set_option maxHeartbeats 40000000 in
theorem rm4 (l : Launch) (Z : State) (a0 : Array Value) (hw : ∀ d ∈ tables_1, d.before a0 Z = true) (ws : List Jvm.Cond) (q1 : Int64) (h0 : Heap) (n0 : Nat) (Z0 : n0 ≤ h0.size) :
    MetFree l (⟨"com/example/tailwire/tailwire/http/ResponseDecimalLengthPinLaw", "digits", "(J)I"⟩ : MethodName) (head1 (Jvm.Cond.code (⟨"com/example/tailwire/tailwire/http/ResponseDecimalLengthPinLaw", "digits", "(J)I"⟩ : MethodName) method_3_code 2 (some .int) :: ws) ({ frames := 0, cells := 0, slots := 0, locals := 0 } : Room)) (fun a U => a = #[(.long q1)] ∧ Z.Warmed39 U.vm ∧ U.heap = h0) (fun _ _ _ _ _ => True) (fun _ U o U' => ∃ v L, o = .returned v ∧ Q4 Z q1 h0 n0 v U'.heap L ∧ FrameEnd U o U' L ({ frames := 0, cells := 0, slots := 0, locals := 0 } : Room).cells ({ frames := 0, cells := 0, slots := 0, locals := 0 } : Room).slots) := by
  refine MetFree.of_bodySF (plainFor_of_name pn_4) hisR ?_
  intro p e s m args below meth c s₁ Bd hml0 hP hK
  obtain ⟨rfl, hZ, hh⟩ := hP
  have hx := Bd.exec
  have hby := Bd.bytes
  have hml : c.maxLocals = 2 := hml0
  have hown : s.vm.findClass "com/example/tailwire/tailwire/http/ResponseDecimalLengthPinLaw" = some m.cls := findClass_of_methodNamed Bd.named
  have X0 : Stand p l e ({ frames := 0, cells := 0, slots := 0, locals := 0 } : Room) s m #[(.long q1)] below meth c s₁ [] 0 0 := Stand.of_body Bd
  have e0 : s₁.heap = h0 := by rw [← hh, Bd.state]; rfl
  have N0 := Fr.nil n0
  have pre0 : ∀ t, Steps p.tables e below (s₁.setTop (mkF m 0 #[.val (.long q1), .second] [])) t → Steps p.tables e below (s₁.setTop (entryFrame m #[(.long q1)] 2)) t := fun t k => castTop (ef_4 m q1) k
  obtain ⟨fs, hr, hrun, hended, hW, hsame⟩ := X0.leave (v := some (.int (own_F4 q1))) (fun h => by rw [Bd.returns] at h; cases h)
  refine ⟨_, _, pre0 _ ?_, hrun, hended, _, _, rfl, ?_, ⟨_, rfl⟩, hW, hsame.mono (by decide) (by decide)⟩
  · show Steps p.tables e below (s₁.setTop (mkF m 0 #[.val (.long q1), .second] [])) _
    refine XS.lloadN X0.here hx rfl (hb hby d4_0) rfl ?_
    show Steps p.tables e below (s₁.setTop (mkF m 1 #[.val (.long q1), .second] [(.long q1)])) _
    refine X0.ldc2Long hx hown (mvT hZ (hw _ (List.mem_of_getElem? (i := 7) rfl))) (g := (mkF m 1 #[.val (.long q1), .second] [(.long q1)])) rfl (hb hby d4_1) _ ?_
    show Steps p.tables e below (s₁.setTop (mkF m 4 #[.val (.long q1), .second] [(.long (10 : Int64)), (.long q1)])) _
    refine XS.lcmp X0.here hx rfl (hb hby d4_4) rfl ?_
    show Steps p.tables e below (s₁.setTop (mkF m 5 #[.val (.long q1), .second] [(.int (lcmpW q1 (10 : Int64)))])) _
    by_cases hc5 : q1 < (10 : Int64)
    · refine XS.ifNo X0.here hx rfl (hb hby d4_5) rfl ((if0 _ _).trans (tlt ((lw_lt q1 (10 : Int64)).mpr hc5)).2.1) ?_
      show Steps p.tables e below (s₁.setTop (mkF m 8 #[.val (.long q1), .second] [])) _
      refine XS.iconst X0.here hx rfl (hb hby d4_8) ?_
      show Steps p.tables e below (s₁.setTop (mkF m 9 #[.val (.long q1), .second] [(.int (1 : Int32))])) _
      have hv : (own_F4 q1) = (1 : Int32) := by unfold own_F4; rw [if_pos hc5]
      rw [hv] at hr
      exact retI X0 hx Bd.returns (hb hby d4_9) hr
    · refine XS.ifYes X0.here hx rfl (pc0 := 5) (pc' := 10) rfl (hb hby d4_5) rfl ((if0 _ _).trans (flt (fun hz => hc5 ((lw_lt q1 (10 : Int64)).mp hz))).2.1) (by decide) (by decide) ?_
      show Steps p.tables e below (s₁.setTop (mkF m 10 #[.val (.long q1), .second] [])) _
      refine XS.lloadN X0.here hx rfl (hb hby d4_10) rfl ?_
      show Steps p.tables e below (s₁.setTop (mkF m 11 #[.val (.long q1), .second] [(.long q1)])) _
      refine X0.ldc2Long hx hown (mvT hZ (hw _ (List.mem_of_getElem? (i := 8) rfl))) (g := (mkF m 11 #[.val (.long q1), .second] [(.long q1)])) rfl (hb hby d4_11) _ ?_
      show Steps p.tables e below (s₁.setTop (mkF m 14 #[.val (.long q1), .second] [(.long (100 : Int64)), (.long q1)])) _
      refine XS.lcmp X0.here hx rfl (hb hby d4_14) rfl ?_
      show Steps p.tables e below (s₁.setTop (mkF m 15 #[.val (.long q1), .second] [(.int (lcmpW q1 (100 : Int64)))])) _
      by_cases hc15 : q1 < (100 : Int64)
      · refine XS.ifNo X0.here hx rfl (hb hby d4_15) rfl ((if0 _ _).trans (tlt ((lw_lt q1 (100 : Int64)).mpr hc15)).2.1) ?_
        show Steps p.tables e below (s₁.setTop (mkF m 18 #[.val (.long q1), .second] [])) _
        refine XS.iconst X0.here hx rfl (hb hby d4_18) ?_
        show Steps p.tables e below (s₁.setTop (mkF m 19 #[.val (.long q1), .second] [(.int (2 : Int32))])) _
        have hv : (own_F4 q1) = (2 : Int32) := by unfold own_F4; rw [if_neg hc5, if_pos hc15]
        rw [hv] at hr
        exact retI X0 hx Bd.returns (hb hby d4_19) hr
      · refine XS.ifYes X0.here hx rfl (pc0 := 15) (pc' := 20) rfl (hb hby d4_15) rfl ((if0 _ _).trans (flt (fun hz => hc15 ((lw_lt q1 (100 : Int64)).mp hz))).2.1) (by decide) (by decide) ?_
        show Steps p.tables e below (s₁.setTop (mkF m 20 #[.val (.long q1), .second] [])) _
        refine XS.lloadN X0.here hx rfl (hb hby d4_20) rfl ?_
        show Steps p.tables e below (s₁.setTop (mkF m 21 #[.val (.long q1), .second] [(.long q1)])) _
        refine X0.ldc2Long hx hown (mvT hZ (hw _ (List.mem_of_getElem? (i := 9) rfl))) (g := (mkF m 21 #[.val (.long q1), .second] [(.long q1)])) rfl (hb hby d4_21) _ ?_
        show Steps p.tables e below (s₁.setTop (mkF m 24 #[.val (.long q1), .second] [(.long (1000 : Int64)), (.long q1)])) _
        refine XS.lcmp X0.here hx rfl (hb hby d4_24) rfl ?_
        show Steps p.tables e below (s₁.setTop (mkF m 25 #[.val (.long q1), .second] [(.int (lcmpW q1 (1000 : Int64)))])) _
        by_cases hc25 : q1 < (1000 : Int64)
        · refine XS.ifNo X0.here hx rfl (hb hby d4_25) rfl ((if0 _ _).trans (tlt ((lw_lt q1 (1000 : Int64)).mpr hc25)).2.1) ?_
          show Steps p.tables e below (s₁.setTop (mkF m 28 #[.val (.long q1), .second] [])) _
          refine XS.iconst X0.here hx rfl (hb hby d4_28) ?_
          show Steps p.tables e below (s₁.setTop (mkF m 29 #[.val (.long q1), .second] [(.int (3 : Int32))])) _
          have hv : (own_F4 q1) = (3 : Int32) := by unfold own_F4; rw [if_neg hc5, if_neg hc15, if_pos hc25]
          rw [hv] at hr
          exact retI X0 hx Bd.returns (hb hby d4_29) hr
        · refine XS.ifYes X0.here hx rfl (pc0 := 25) (pc' := 30) rfl (hb hby d4_25) rfl ((if0 _ _).trans (flt (fun hz => hc25 ((lw_lt q1 (1000 : Int64)).mp hz))).2.1) (by decide) (by decide) ?_
          show Steps p.tables e below (s₁.setTop (mkF m 30 #[.val (.long q1), .second] [])) _
          refine XS.lloadN X0.here hx rfl (hb hby d4_30) rfl ?_
          show Steps p.tables e below (s₁.setTop (mkF m 31 #[.val (.long q1), .second] [(.long q1)])) _
          refine X0.ldc2Long hx hown (mvT hZ (hw _ (List.mem_of_getElem? (i := 10) rfl))) (g := (mkF m 31 #[.val (.long q1), .second] [(.long q1)])) rfl (hb hby d4_31) _ ?_
          show Steps p.tables e below (s₁.setTop (mkF m 34 #[.val (.long q1), .second] [(.long (10000 : Int64)), (.long q1)])) _
          refine XS.lcmp X0.here hx rfl (hb hby d4_34) rfl ?_
          show Steps p.tables e below (s₁.setTop (mkF m 35 #[.val (.long q1), .second] [(.int (lcmpW q1 (10000 : Int64)))])) _
          by_cases hc35 : q1 < (10000 : Int64)
          · refine XS.ifNo X0.here hx rfl (hb hby d4_35) rfl ((if0 _ _).trans (tlt ((lw_lt q1 (10000 : Int64)).mpr hc35)).2.1) ?_
            show Steps p.tables e below (s₁.setTop (mkF m 38 #[.val (.long q1), .second] [])) _
            refine XS.iconst X0.here hx rfl (hb hby d4_38) ?_
            show Steps p.tables e below (s₁.setTop (mkF m 39 #[.val (.long q1), .second] [(.int (4 : Int32))])) _
            have hv : (own_F4 q1) = (4 : Int32) := by unfold own_F4; rw [if_neg hc5, if_neg hc15, if_neg hc25, if_pos hc35]
            rw [hv] at hr
            exact retI X0 hx Bd.returns (hb hby d4_39) hr
          · refine XS.ifYes X0.here hx rfl (pc0 := 35) (pc' := 40) rfl (hb hby d4_35) rfl ((if0 _ _).trans (flt (fun hz => hc35 ((lw_lt q1 (10000 : Int64)).mp hz))).2.1) (by decide) (by decide) ?_
            show Steps p.tables e below (s₁.setTop (mkF m 40 #[.val (.long q1), .second] [])) _
            refine XS.lloadN X0.here hx rfl (hb hby d4_40) rfl ?_
            show Steps p.tables e below (s₁.setTop (mkF m 41 #[.val (.long q1), .second] [(.long q1)])) _
            refine X0.ldc2Long hx hown (mvT hZ (hw _ (List.mem_of_getElem? (i := 11) rfl))) (g := (mkF m 41 #[.val (.long q1), .second] [(.long q1)])) rfl (hb hby d4_41) _ ?_
            show Steps p.tables e below (s₁.setTop (mkF m 44 #[.val (.long q1), .second] [(.long (100000 : Int64)), (.long q1)])) _
            refine XS.lcmp X0.here hx rfl (hb hby d4_44) rfl ?_
            show Steps p.tables e below (s₁.setTop (mkF m 45 #[.val (.long q1), .second] [(.int (lcmpW q1 (100000 : Int64)))])) _
            by_cases hc45 : q1 < (100000 : Int64)
            · refine XS.ifNo X0.here hx rfl (hb hby d4_45) rfl ((if0 _ _).trans (tlt ((lw_lt q1 (100000 : Int64)).mpr hc45)).2.1) ?_
              show Steps p.tables e below (s₁.setTop (mkF m 48 #[.val (.long q1), .second] [])) _
              refine XS.iconst X0.here hx rfl (hb hby d4_48) ?_
              show Steps p.tables e below (s₁.setTop (mkF m 49 #[.val (.long q1), .second] [(.int (5 : Int32))])) _
              have hv : (own_F4 q1) = (5 : Int32) := by unfold own_F4; rw [if_neg hc5, if_neg hc15, if_neg hc25, if_neg hc35, if_pos hc45]
              rw [hv] at hr
              exact retI X0 hx Bd.returns (hb hby d4_49) hr
            · refine XS.ifYes X0.here hx rfl (pc0 := 45) (pc' := 50) rfl (hb hby d4_45) rfl ((if0 _ _).trans (flt (fun hz => hc45 ((lw_lt q1 (100000 : Int64)).mp hz))).2.1) (by decide) (by decide) ?_
              show Steps p.tables e below (s₁.setTop (mkF m 50 #[.val (.long q1), .second] [])) _
              refine XS.lloadN X0.here hx rfl (hb hby d4_50) rfl ?_
              show Steps p.tables e below (s₁.setTop (mkF m 51 #[.val (.long q1), .second] [(.long q1)])) _
              refine X0.ldc2Long hx hown (mvT hZ (hw _ (List.mem_of_getElem? (i := 12) rfl))) (g := (mkF m 51 #[.val (.long q1), .second] [(.long q1)])) rfl (hb hby d4_51) _ ?_
              show Steps p.tables e below (s₁.setTop (mkF m 54 #[.val (.long q1), .second] [(.long (1000000 : Int64)), (.long q1)])) _
              refine XS.lcmp X0.here hx rfl (hb hby d4_54) rfl ?_
              show Steps p.tables e below (s₁.setTop (mkF m 55 #[.val (.long q1), .second] [(.int (lcmpW q1 (1000000 : Int64)))])) _
              by_cases hc55 : q1 < (1000000 : Int64)
              · refine XS.ifNo X0.here hx rfl (hb hby d4_55) rfl ((if0 _ _).trans (tlt ((lw_lt q1 (1000000 : Int64)).mpr hc55)).2.1) ?_
                show Steps p.tables e below (s₁.setTop (mkF m 58 #[.val (.long q1), .second] [])) _
                refine XS.bipush X0.here hx rfl (hb hby d4_58) ?_
                show Steps p.tables e below (s₁.setTop (mkF m 60 #[.val (.long q1), .second] [(.int (6 : Int32))])) _
                have hv : (own_F4 q1) = (6 : Int32) := by unfold own_F4; rw [if_neg hc5, if_neg hc15, if_neg hc25, if_neg hc35, if_neg hc45, if_pos hc55]
                rw [hv] at hr
                exact retI X0 hx Bd.returns (hb hby d4_60) hr
              · refine XS.ifYes X0.here hx rfl (pc0 := 55) (pc' := 61) rfl (hb hby d4_55) rfl ((if0 _ _).trans (flt (fun hz => hc55 ((lw_lt q1 (1000000 : Int64)).mp hz))).2.1) (by decide) (by decide) ?_
                show Steps p.tables e below (s₁.setTop (mkF m 61 #[.val (.long q1), .second] [])) _
                refine XS.lloadN X0.here hx rfl (hb hby d4_61) rfl ?_
                show Steps p.tables e below (s₁.setTop (mkF m 62 #[.val (.long q1), .second] [(.long q1)])) _
                refine X0.ldc2Long hx hown (mvT hZ (hw _ (List.mem_of_getElem? (i := 13) rfl))) (g := (mkF m 62 #[.val (.long q1), .second] [(.long q1)])) rfl (hb hby d4_62) _ ?_
                show Steps p.tables e below (s₁.setTop (mkF m 65 #[.val (.long q1), .second] [(.long (10000000 : Int64)), (.long q1)])) _
                refine XS.lcmp X0.here hx rfl (hb hby d4_65) rfl ?_
                show Steps p.tables e below (s₁.setTop (mkF m 66 #[.val (.long q1), .second] [(.int (lcmpW q1 (10000000 : Int64)))])) _
                by_cases hc66 : q1 < (10000000 : Int64)
                · refine XS.ifNo X0.here hx rfl (hb hby d4_66) rfl ((if0 _ _).trans (tlt ((lw_lt q1 (10000000 : Int64)).mpr hc66)).2.1) ?_
                  show Steps p.tables e below (s₁.setTop (mkF m 69 #[.val (.long q1), .second] [])) _
                  refine XS.bipush X0.here hx rfl (hb hby d4_69) ?_
                  show Steps p.tables e below (s₁.setTop (mkF m 71 #[.val (.long q1), .second] [(.int (7 : Int32))])) _
                  have hv : (own_F4 q1) = (7 : Int32) := by unfold own_F4; rw [if_neg hc5, if_neg hc15, if_neg hc25, if_neg hc35, if_neg hc45, if_neg hc55, if_pos hc66]
                  rw [hv] at hr
                  exact retI X0 hx Bd.returns (hb hby d4_71) hr
                · refine XS.ifYes X0.here hx rfl (pc0 := 66) (pc' := 72) rfl (hb hby d4_66) rfl ((if0 _ _).trans (flt (fun hz => hc66 ((lw_lt q1 (10000000 : Int64)).mp hz))).2.1) (by decide) (by decide) ?_
                  show Steps p.tables e below (s₁.setTop (mkF m 72 #[.val (.long q1), .second] [])) _
                  refine XS.lloadN X0.here hx rfl (hb hby d4_72) rfl ?_
                  show Steps p.tables e below (s₁.setTop (mkF m 73 #[.val (.long q1), .second] [(.long q1)])) _
                  refine X0.ldc2Long hx hown (mvT hZ (hw _ (List.mem_of_getElem? (i := 14) rfl))) (g := (mkF m 73 #[.val (.long q1), .second] [(.long q1)])) rfl (hb hby d4_73) _ ?_
                  show Steps p.tables e below (s₁.setTop (mkF m 76 #[.val (.long q1), .second] [(.long (100000000 : Int64)), (.long q1)])) _
                  refine XS.lcmp X0.here hx rfl (hb hby d4_76) rfl ?_
                  show Steps p.tables e below (s₁.setTop (mkF m 77 #[.val (.long q1), .second] [(.int (lcmpW q1 (100000000 : Int64)))])) _
                  by_cases hc77 : q1 < (100000000 : Int64)
                  · refine XS.ifNo X0.here hx rfl (hb hby d4_77) rfl ((if0 _ _).trans (tlt ((lw_lt q1 (100000000 : Int64)).mpr hc77)).2.1) ?_
                    show Steps p.tables e below (s₁.setTop (mkF m 80 #[.val (.long q1), .second] [])) _
                    refine XS.bipush X0.here hx rfl (hb hby d4_80) ?_
                    show Steps p.tables e below (s₁.setTop (mkF m 82 #[.val (.long q1), .second] [(.int (8 : Int32))])) _
                    have hv : (own_F4 q1) = (8 : Int32) := by unfold own_F4; rw [if_neg hc5, if_neg hc15, if_neg hc25, if_neg hc35, if_neg hc45, if_neg hc55, if_neg hc66, if_pos hc77]
                    rw [hv] at hr
                    exact retI X0 hx Bd.returns (hb hby d4_82) hr
                  · refine XS.ifYes X0.here hx rfl (pc0 := 77) (pc' := 83) rfl (hb hby d4_77) rfl ((if0 _ _).trans (flt (fun hz => hc77 ((lw_lt q1 (100000000 : Int64)).mp hz))).2.1) (by decide) (by decide) ?_
                    show Steps p.tables e below (s₁.setTop (mkF m 83 #[.val (.long q1), .second] [])) _
                    refine XS.lloadN X0.here hx rfl (hb hby d4_83) rfl ?_
                    show Steps p.tables e below (s₁.setTop (mkF m 84 #[.val (.long q1), .second] [(.long q1)])) _
                    refine X0.ldc2Long hx hown (mvT hZ (hw _ (List.mem_of_getElem? (i := 15) rfl))) (g := (mkF m 84 #[.val (.long q1), .second] [(.long q1)])) rfl (hb hby d4_84) _ ?_
                    show Steps p.tables e below (s₁.setTop (mkF m 87 #[.val (.long q1), .second] [(.long (1000000000 : Int64)), (.long q1)])) _
                    refine XS.lcmp X0.here hx rfl (hb hby d4_87) rfl ?_
                    show Steps p.tables e below (s₁.setTop (mkF m 88 #[.val (.long q1), .second] [(.int (lcmpW q1 (1000000000 : Int64)))])) _
                    by_cases hc88 : q1 < (1000000000 : Int64)
                    · refine XS.ifNo X0.here hx rfl (hb hby d4_88) rfl ((if0 _ _).trans (tlt ((lw_lt q1 (1000000000 : Int64)).mpr hc88)).2.1) ?_
                      show Steps p.tables e below (s₁.setTop (mkF m 91 #[.val (.long q1), .second] [])) _
                      refine XS.bipush X0.here hx rfl (hb hby d4_91) ?_
                      show Steps p.tables e below (s₁.setTop (mkF m 93 #[.val (.long q1), .second] [(.int (9 : Int32))])) _
                      have hv : (own_F4 q1) = (9 : Int32) := by unfold own_F4; rw [if_neg hc5, if_neg hc15, if_neg hc25, if_neg hc35, if_neg hc45, if_neg hc55, if_neg hc66, if_neg hc77, if_pos hc88]
                      rw [hv] at hr
                      exact retI X0 hx Bd.returns (hb hby d4_93) hr
                    · refine XS.ifYes X0.here hx rfl (pc0 := 88) (pc' := 94) rfl (hb hby d4_88) rfl ((if0 _ _).trans (flt (fun hz => hc88 ((lw_lt q1 (1000000000 : Int64)).mp hz))).2.1) (by decide) (by decide) ?_
                      show Steps p.tables e below (s₁.setTop (mkF m 94 #[.val (.long q1), .second] [])) _
                      refine XS.lloadN X0.here hx rfl (hb hby d4_94) rfl ?_
                      show Steps p.tables e below (s₁.setTop (mkF m 95 #[.val (.long q1), .second] [(.long q1)])) _
                      refine X0.ldc2Long hx hown (mvT hZ (hw _ (List.mem_of_getElem? (i := 16) rfl))) (g := (mkF m 95 #[.val (.long q1), .second] [(.long q1)])) rfl (hb hby d4_95) _ ?_
                      show Steps p.tables e below (s₁.setTop (mkF m 98 #[.val (.long q1), .second] [(.long (10000000000 : Int64)), (.long q1)])) _
                      refine XS.lcmp X0.here hx rfl (hb hby d4_98) rfl ?_
                      show Steps p.tables e below (s₁.setTop (mkF m 99 #[.val (.long q1), .second] [(.int (lcmpW q1 (10000000000 : Int64)))])) _
                      by_cases hc99 : q1 < (10000000000 : Int64)
                      · refine XS.ifNo X0.here hx rfl (hb hby d4_99) rfl ((if0 _ _).trans (tlt ((lw_lt q1 (10000000000 : Int64)).mpr hc99)).2.1) ?_
                        show Steps p.tables e below (s₁.setTop (mkF m 102 #[.val (.long q1), .second] [])) _
                        refine XS.bipush X0.here hx rfl (hb hby d4_102) ?_
                        show Steps p.tables e below (s₁.setTop (mkF m 104 #[.val (.long q1), .second] [(.int (10 : Int32))])) _
                        have hv : (own_F4 q1) = (10 : Int32) := by unfold own_F4; rw [if_neg hc5, if_neg hc15, if_neg hc25, if_neg hc35, if_neg hc45, if_neg hc55, if_neg hc66, if_neg hc77, if_neg hc88, if_pos hc99]
                        rw [hv] at hr
                        exact retI X0 hx Bd.returns (hb hby d4_104) hr
                      · refine XS.ifYes X0.here hx rfl (pc0 := 99) (pc' := 105) rfl (hb hby d4_99) rfl ((if0 _ _).trans (flt (fun hz => hc99 ((lw_lt q1 (10000000000 : Int64)).mp hz))).2.1) (by decide) (by decide) ?_
                        show Steps p.tables e below (s₁.setTop (mkF m 105 #[.val (.long q1), .second] [])) _
                        refine XS.lloadN X0.here hx rfl (hb hby d4_105) rfl ?_
                        show Steps p.tables e below (s₁.setTop (mkF m 106 #[.val (.long q1), .second] [(.long q1)])) _
                        refine X0.ldc2Long hx hown (mvT hZ (hw _ (List.mem_of_getElem? (i := 17) rfl))) (g := (mkF m 106 #[.val (.long q1), .second] [(.long q1)])) rfl (hb hby d4_106) _ ?_
                        show Steps p.tables e below (s₁.setTop (mkF m 109 #[.val (.long q1), .second] [(.long (100000000000 : Int64)), (.long q1)])) _
                        refine XS.lcmp X0.here hx rfl (hb hby d4_109) rfl ?_
                        show Steps p.tables e below (s₁.setTop (mkF m 110 #[.val (.long q1), .second] [(.int (lcmpW q1 (100000000000 : Int64)))])) _
                        by_cases hc110 : q1 < (100000000000 : Int64)
                        · refine XS.ifNo X0.here hx rfl (hb hby d4_110) rfl ((if0 _ _).trans (tlt ((lw_lt q1 (100000000000 : Int64)).mpr hc110)).2.1) ?_
                          show Steps p.tables e below (s₁.setTop (mkF m 113 #[.val (.long q1), .second] [])) _
                          refine XS.bipush X0.here hx rfl (hb hby d4_113) ?_
                          show Steps p.tables e below (s₁.setTop (mkF m 115 #[.val (.long q1), .second] [(.int (11 : Int32))])) _
                          have hv : (own_F4 q1) = (11 : Int32) := by unfold own_F4; rw [if_neg hc5, if_neg hc15, if_neg hc25, if_neg hc35, if_neg hc45, if_neg hc55, if_neg hc66, if_neg hc77, if_neg hc88, if_neg hc99, if_pos hc110]
                          rw [hv] at hr
                          exact retI X0 hx Bd.returns (hb hby d4_115) hr
                        · refine XS.ifYes X0.here hx rfl (pc0 := 110) (pc' := 116) rfl (hb hby d4_110) rfl ((if0 _ _).trans (flt (fun hz => hc110 ((lw_lt q1 (100000000000 : Int64)).mp hz))).2.1) (by decide) (by decide) ?_
                          show Steps p.tables e below (s₁.setTop (mkF m 116 #[.val (.long q1), .second] [])) _
                          refine XS.lloadN X0.here hx rfl (hb hby d4_116) rfl ?_
                          show Steps p.tables e below (s₁.setTop (mkF m 117 #[.val (.long q1), .second] [(.long q1)])) _
                          refine X0.ldc2Long hx hown (mvT hZ (hw _ (List.mem_of_getElem? (i := 18) rfl))) (g := (mkF m 117 #[.val (.long q1), .second] [(.long q1)])) rfl (hb hby d4_117) _ ?_
                          show Steps p.tables e below (s₁.setTop (mkF m 120 #[.val (.long q1), .second] [(.long (1000000000000 : Int64)), (.long q1)])) _
                          refine XS.lcmp X0.here hx rfl (hb hby d4_120) rfl ?_
                          show Steps p.tables e below (s₁.setTop (mkF m 121 #[.val (.long q1), .second] [(.int (lcmpW q1 (1000000000000 : Int64)))])) _
                          by_cases hc121 : q1 < (1000000000000 : Int64)
                          · refine XS.ifNo X0.here hx rfl (hb hby d4_121) rfl ((if0 _ _).trans (tlt ((lw_lt q1 (1000000000000 : Int64)).mpr hc121)).2.1) ?_
                            show Steps p.tables e below (s₁.setTop (mkF m 124 #[.val (.long q1), .second] [])) _
                            refine XS.bipush X0.here hx rfl (hb hby d4_124) ?_
                            show Steps p.tables e below (s₁.setTop (mkF m 126 #[.val (.long q1), .second] [(.int (12 : Int32))])) _
                            have hv : (own_F4 q1) = (12 : Int32) := by unfold own_F4; rw [if_neg hc5, if_neg hc15, if_neg hc25, if_neg hc35, if_neg hc45, if_neg hc55, if_neg hc66, if_neg hc77, if_neg hc88, if_neg hc99, if_neg hc110, if_pos hc121]
                            rw [hv] at hr
                            exact retI X0 hx Bd.returns (hb hby d4_126) hr
                          · refine XS.ifYes X0.here hx rfl (pc0 := 121) (pc' := 127) rfl (hb hby d4_121) rfl ((if0 _ _).trans (flt (fun hz => hc121 ((lw_lt q1 (1000000000000 : Int64)).mp hz))).2.1) (by decide) (by decide) ?_
                            show Steps p.tables e below (s₁.setTop (mkF m 127 #[.val (.long q1), .second] [])) _
                            refine XS.lloadN X0.here hx rfl (hb hby d4_127) rfl ?_
                            show Steps p.tables e below (s₁.setTop (mkF m 128 #[.val (.long q1), .second] [(.long q1)])) _
                            refine X0.ldc2Long hx hown (mvT hZ (hw _ (List.mem_of_getElem? (i := 19) rfl))) (g := (mkF m 128 #[.val (.long q1), .second] [(.long q1)])) rfl (hb hby d4_128) _ ?_
                            show Steps p.tables e below (s₁.setTop (mkF m 131 #[.val (.long q1), .second] [(.long (10000000000000 : Int64)), (.long q1)])) _
                            refine XS.lcmp X0.here hx rfl (hb hby d4_131) rfl ?_
                            show Steps p.tables e below (s₁.setTop (mkF m 132 #[.val (.long q1), .second] [(.int (lcmpW q1 (10000000000000 : Int64)))])) _
                            by_cases hc132 : q1 < (10000000000000 : Int64)
                            · refine XS.ifNo X0.here hx rfl (hb hby d4_132) rfl ((if0 _ _).trans (tlt ((lw_lt q1 (10000000000000 : Int64)).mpr hc132)).2.1) ?_
                              show Steps p.tables e below (s₁.setTop (mkF m 135 #[.val (.long q1), .second] [])) _
                              refine XS.bipush X0.here hx rfl (hb hby d4_135) ?_
                              show Steps p.tables e below (s₁.setTop (mkF m 137 #[.val (.long q1), .second] [(.int (13 : Int32))])) _
                              have hv : (own_F4 q1) = (13 : Int32) := by unfold own_F4; rw [if_neg hc5, if_neg hc15, if_neg hc25, if_neg hc35, if_neg hc45, if_neg hc55, if_neg hc66, if_neg hc77, if_neg hc88, if_neg hc99, if_neg hc110, if_neg hc121, if_pos hc132]
                              rw [hv] at hr
                              exact retI X0 hx Bd.returns (hb hby d4_137) hr
                            · refine XS.ifYes X0.here hx rfl (pc0 := 132) (pc' := 138) rfl (hb hby d4_132) rfl ((if0 _ _).trans (flt (fun hz => hc132 ((lw_lt q1 (10000000000000 : Int64)).mp hz))).2.1) (by decide) (by decide) ?_
                              show Steps p.tables e below (s₁.setTop (mkF m 138 #[.val (.long q1), .second] [])) _
                              refine XS.lloadN X0.here hx rfl (hb hby d4_138) rfl ?_
                              show Steps p.tables e below (s₁.setTop (mkF m 139 #[.val (.long q1), .second] [(.long q1)])) _
                              refine X0.ldc2Long hx hown (mvT hZ (hw _ (List.mem_of_getElem? (i := 20) rfl))) (g := (mkF m 139 #[.val (.long q1), .second] [(.long q1)])) rfl (hb hby d4_139) _ ?_
                              show Steps p.tables e below (s₁.setTop (mkF m 142 #[.val (.long q1), .second] [(.long (100000000000000 : Int64)), (.long q1)])) _
                              refine XS.lcmp X0.here hx rfl (hb hby d4_142) rfl ?_
                              show Steps p.tables e below (s₁.setTop (mkF m 143 #[.val (.long q1), .second] [(.int (lcmpW q1 (100000000000000 : Int64)))])) _
                              by_cases hc143 : q1 < (100000000000000 : Int64)
                              · refine XS.ifNo X0.here hx rfl (hb hby d4_143) rfl ((if0 _ _).trans (tlt ((lw_lt q1 (100000000000000 : Int64)).mpr hc143)).2.1) ?_
                                show Steps p.tables e below (s₁.setTop (mkF m 146 #[.val (.long q1), .second] [])) _
                                refine XS.bipush X0.here hx rfl (hb hby d4_146) ?_
                                show Steps p.tables e below (s₁.setTop (mkF m 148 #[.val (.long q1), .second] [(.int (14 : Int32))])) _
                                have hv : (own_F4 q1) = (14 : Int32) := by unfold own_F4; rw [if_neg hc5, if_neg hc15, if_neg hc25, if_neg hc35, if_neg hc45, if_neg hc55, if_neg hc66, if_neg hc77, if_neg hc88, if_neg hc99, if_neg hc110, if_neg hc121, if_neg hc132, if_pos hc143]
                                rw [hv] at hr
                                exact retI X0 hx Bd.returns (hb hby d4_148) hr
                              · refine XS.ifYes X0.here hx rfl (pc0 := 143) (pc' := 149) rfl (hb hby d4_143) rfl ((if0 _ _).trans (flt (fun hz => hc143 ((lw_lt q1 (100000000000000 : Int64)).mp hz))).2.1) (by decide) (by decide) ?_
                                show Steps p.tables e below (s₁.setTop (mkF m 149 #[.val (.long q1), .second] [])) _
                                refine XS.lloadN X0.here hx rfl (hb hby d4_149) rfl ?_
                                show Steps p.tables e below (s₁.setTop (mkF m 150 #[.val (.long q1), .second] [(.long q1)])) _
                                refine X0.ldc2Long hx hown (mvT hZ (hw _ (List.mem_of_getElem? (i := 21) rfl))) (g := (mkF m 150 #[.val (.long q1), .second] [(.long q1)])) rfl (hb hby d4_150) _ ?_
                                show Steps p.tables e below (s₁.setTop (mkF m 153 #[.val (.long q1), .second] [(.long (1000000000000000 : Int64)), (.long q1)])) _
                                refine XS.lcmp X0.here hx rfl (hb hby d4_153) rfl ?_
                                show Steps p.tables e below (s₁.setTop (mkF m 154 #[.val (.long q1), .second] [(.int (lcmpW q1 (1000000000000000 : Int64)))])) _
                                by_cases hc154 : q1 < (1000000000000000 : Int64)
                                · refine XS.ifNo X0.here hx rfl (hb hby d4_154) rfl ((if0 _ _).trans (tlt ((lw_lt q1 (1000000000000000 : Int64)).mpr hc154)).2.1) ?_
                                  show Steps p.tables e below (s₁.setTop (mkF m 157 #[.val (.long q1), .second] [])) _
                                  refine XS.bipush X0.here hx rfl (hb hby d4_157) ?_
                                  show Steps p.tables e below (s₁.setTop (mkF m 159 #[.val (.long q1), .second] [(.int (15 : Int32))])) _
                                  have hv : (own_F4 q1) = (15 : Int32) := by unfold own_F4; rw [if_neg hc5, if_neg hc15, if_neg hc25, if_neg hc35, if_neg hc45, if_neg hc55, if_neg hc66, if_neg hc77, if_neg hc88, if_neg hc99, if_neg hc110, if_neg hc121, if_neg hc132, if_neg hc143, if_pos hc154]
                                  rw [hv] at hr
                                  exact retI X0 hx Bd.returns (hb hby d4_159) hr
                                · refine XS.ifYes X0.here hx rfl (pc0 := 154) (pc' := 160) rfl (hb hby d4_154) rfl ((if0 _ _).trans (flt (fun hz => hc154 ((lw_lt q1 (1000000000000000 : Int64)).mp hz))).2.1) (by decide) (by decide) ?_
                                  show Steps p.tables e below (s₁.setTop (mkF m 160 #[.val (.long q1), .second] [])) _
                                  refine XS.lloadN X0.here hx rfl (hb hby d4_160) rfl ?_
                                  show Steps p.tables e below (s₁.setTop (mkF m 161 #[.val (.long q1), .second] [(.long q1)])) _
                                  refine X0.ldc2Long hx hown (mvT hZ (hw _ (List.mem_of_getElem? (i := 22) rfl))) (g := (mkF m 161 #[.val (.long q1), .second] [(.long q1)])) rfl (hb hby d4_161) _ ?_
                                  show Steps p.tables e below (s₁.setTop (mkF m 164 #[.val (.long q1), .second] [(.long (10000000000000000 : Int64)), (.long q1)])) _
                                  refine XS.lcmp X0.here hx rfl (hb hby d4_164) rfl ?_
                                  show Steps p.tables e below (s₁.setTop (mkF m 165 #[.val (.long q1), .second] [(.int (lcmpW q1 (10000000000000000 : Int64)))])) _
                                  by_cases hc165 : q1 < (10000000000000000 : Int64)
                                  · refine XS.ifNo X0.here hx rfl (hb hby d4_165) rfl ((if0 _ _).trans (tlt ((lw_lt q1 (10000000000000000 : Int64)).mpr hc165)).2.1) ?_
                                    show Steps p.tables e below (s₁.setTop (mkF m 168 #[.val (.long q1), .second] [])) _
                                    refine XS.bipush X0.here hx rfl (hb hby d4_168) ?_
                                    show Steps p.tables e below (s₁.setTop (mkF m 170 #[.val (.long q1), .second] [(.int (16 : Int32))])) _
                                    have hv : (own_F4 q1) = (16 : Int32) := by unfold own_F4; rw [if_neg hc5, if_neg hc15, if_neg hc25, if_neg hc35, if_neg hc45, if_neg hc55, if_neg hc66, if_neg hc77, if_neg hc88, if_neg hc99, if_neg hc110, if_neg hc121, if_neg hc132, if_neg hc143, if_neg hc154, if_pos hc165]
                                    rw [hv] at hr
                                    exact retI X0 hx Bd.returns (hb hby d4_170) hr
                                  · refine XS.ifYes X0.here hx rfl (pc0 := 165) (pc' := 171) rfl (hb hby d4_165) rfl ((if0 _ _).trans (flt (fun hz => hc165 ((lw_lt q1 (10000000000000000 : Int64)).mp hz))).2.1) (by decide) (by decide) ?_
                                    show Steps p.tables e below (s₁.setTop (mkF m 171 #[.val (.long q1), .second] [])) _
                                    refine XS.lloadN X0.here hx rfl (hb hby d4_171) rfl ?_
                                    show Steps p.tables e below (s₁.setTop (mkF m 172 #[.val (.long q1), .second] [(.long q1)])) _
                                    refine X0.ldc2Long hx hown (mvT hZ (hw _ (List.mem_of_getElem? (i := 23) rfl))) (g := (mkF m 172 #[.val (.long q1), .second] [(.long q1)])) rfl (hb hby d4_172) _ ?_
                                    show Steps p.tables e below (s₁.setTop (mkF m 175 #[.val (.long q1), .second] [(.long (100000000000000000 : Int64)), (.long q1)])) _
                                    refine XS.lcmp X0.here hx rfl (hb hby d4_175) rfl ?_
                                    show Steps p.tables e below (s₁.setTop (mkF m 176 #[.val (.long q1), .second] [(.int (lcmpW q1 (100000000000000000 : Int64)))])) _
                                    by_cases hc176 : q1 < (100000000000000000 : Int64)
                                    · refine XS.ifNo X0.here hx rfl (hb hby d4_176) rfl ((if0 _ _).trans (tlt ((lw_lt q1 (100000000000000000 : Int64)).mpr hc176)).2.1) ?_
                                      show Steps p.tables e below (s₁.setTop (mkF m 179 #[.val (.long q1), .second] [])) _
                                      refine XS.bipush X0.here hx rfl (hb hby d4_179) ?_
                                      show Steps p.tables e below (s₁.setTop (mkF m 181 #[.val (.long q1), .second] [(.int (17 : Int32))])) _
                                      have hv : (own_F4 q1) = (17 : Int32) := by unfold own_F4; rw [if_neg hc5, if_neg hc15, if_neg hc25, if_neg hc35, if_neg hc45, if_neg hc55, if_neg hc66, if_neg hc77, if_neg hc88, if_neg hc99, if_neg hc110, if_neg hc121, if_neg hc132, if_neg hc143, if_neg hc154, if_neg hc165, if_pos hc176]
                                      rw [hv] at hr
                                      exact retI X0 hx Bd.returns (hb hby d4_181) hr
                                    · refine XS.ifYes X0.here hx rfl (pc0 := 176) (pc' := 182) rfl (hb hby d4_176) rfl ((if0 _ _).trans (flt (fun hz => hc176 ((lw_lt q1 (100000000000000000 : Int64)).mp hz))).2.1) (by decide) (by decide) ?_
                                      show Steps p.tables e below (s₁.setTop (mkF m 182 #[.val (.long q1), .second] [])) _
                                      refine XS.lloadN X0.here hx rfl (hb hby d4_182) rfl ?_
                                      show Steps p.tables e below (s₁.setTop (mkF m 183 #[.val (.long q1), .second] [(.long q1)])) _
                                      refine X0.ldc2Long hx hown (mvT hZ (hw _ (List.mem_of_getElem? (i := 24) rfl))) (g := (mkF m 183 #[.val (.long q1), .second] [(.long q1)])) rfl (hb hby d4_183) _ ?_
                                      show Steps p.tables e below (s₁.setTop (mkF m 186 #[.val (.long q1), .second] [(.long (1000000000000000000 : Int64)), (.long q1)])) _
                                      refine XS.lcmp X0.here hx rfl (hb hby d4_186) rfl ?_
                                      show Steps p.tables e below (s₁.setTop (mkF m 187 #[.val (.long q1), .second] [(.int (lcmpW q1 (1000000000000000000 : Int64)))])) _
                                      by_cases hc187 : q1 < (1000000000000000000 : Int64)
                                      · refine XS.ifNo X0.here hx rfl (hb hby d4_187) rfl ((if0 _ _).trans (tlt ((lw_lt q1 (1000000000000000000 : Int64)).mpr hc187)).2.1) ?_
                                        show Steps p.tables e below (s₁.setTop (mkF m 190 #[.val (.long q1), .second] [])) _
                                        refine XS.bipush X0.here hx rfl (hb hby d4_190) ?_
                                        show Steps p.tables e below (s₁.setTop (mkF m 192 #[.val (.long q1), .second] [(.int (18 : Int32))])) _
                                        have hv : (own_F4 q1) = (18 : Int32) := by unfold own_F4; rw [if_neg hc5, if_neg hc15, if_neg hc25, if_neg hc35, if_neg hc45, if_neg hc55, if_neg hc66, if_neg hc77, if_neg hc88, if_neg hc99, if_neg hc110, if_neg hc121, if_neg hc132, if_neg hc143, if_neg hc154, if_neg hc165, if_neg hc176, if_pos hc187]
                                        rw [hv] at hr
                                        exact retI X0 hx Bd.returns (hb hby d4_192) hr
                                      · refine XS.ifYes X0.here hx rfl (pc0 := 187) (pc' := 193) rfl (hb hby d4_187) rfl ((if0 _ _).trans (flt (fun hz => hc187 ((lw_lt q1 (1000000000000000000 : Int64)).mp hz))).2.1) (by decide) (by decide) ?_
                                        show Steps p.tables e below (s₁.setTop (mkF m 193 #[.val (.long q1), .second] [])) _
                                        refine XS.bipush X0.here hx rfl (hb hby d4_193) ?_
                                        show Steps p.tables e below (s₁.setTop (mkF m 195 #[.val (.long q1), .second] [(.int (19 : Int32))])) _
                                        have hv : (own_F4 q1) = (19 : Int32) := by unfold own_F4; rw [if_neg hc5, if_neg hc15, if_neg hc25, if_neg hc35, if_neg hc45, if_neg hc55, if_neg hc66, if_neg hc77, if_neg hc88, if_neg hc99, if_neg hc110, if_neg hc121, if_neg hc132, if_neg hc143, if_neg hc154, if_neg hc165, if_neg hc176, if_neg hc187]
                                        rw [hv] at hr
                                        exact retI X0 hx Bd.returns (hb hby d4_195) hr
  · show Q4 Z q1 h0 n0 _ s₁.heap _
    rw [e0]
    exact ⟨rfl, N0, rfl⟩
theorem own_dlen {q : Int64} {N : Nat} (hN : q.toInt = N) : ((1 : Int32) + Int32.ofNat (own_dig 19 (N / 10))) = own_F4 q := by
  have hb := rng64 q
  unfold own_F4
  have e1 : (10 : Int64).toInt = 10 := by decide
  have e2 : (100 : Int64).toInt = 100 := by decide
  have e3 : (1000 : Int64).toInt = 1000 := by decide
  have e4 : (10000 : Int64).toInt = 10000 := by decide
  have e5 : (100000 : Int64).toInt = 100000 := by decide
  have e6 : (1000000 : Int64).toInt = 1000000 := by decide
  have e7 : (10000000 : Int64).toInt = 10000000 := by decide
  have e8 : (100000000 : Int64).toInt = 100000000 := by decide
  have e9 : (1000000000 : Int64).toInt = 1000000000 := by decide
  have e10 : (10000000000 : Int64).toInt = 10000000000 := by decide
  have e11 : (100000000000 : Int64).toInt = 100000000000 := by decide
  have e12 : (1000000000000 : Int64).toInt = 1000000000000 := by decide
  have e13 : (10000000000000 : Int64).toInt = 10000000000000 := by decide
  have e14 : (100000000000000 : Int64).toInt = 100000000000000 := by decide
  have e15 : (1000000000000000 : Int64).toInt = 1000000000000000 := by decide
  have e16 : (10000000000000000 : Int64).toInt = 10000000000000000 := by decide
  have e17 : (100000000000000000 : Int64).toInt = 100000000000000000 := by decide
  have e18 : (1000000000000000000 : Int64).toInt = 1000000000000000000 := by decide
  by_cases c1 : q < (10 : Int64)
  · rw [if_pos c1]
    rw [Int64.lt_iff_toInt_lt, e1] at c1
    rw [show N / 10 = 0 by omega, own_dig0] <;> rfl
  rw [if_neg c1]
  by_cases c2 : q < (100 : Int64)
  · rw [if_pos c2]
    rw [Int64.lt_iff_toInt_lt, e2] at c2
    rw [Int64.lt_iff_toInt_lt, e1] at c1
    rw [own_digE 0 19 (N / 10) (by omega) (by omega) (by decide)] <;> rfl
  rw [if_neg c2]
  by_cases c3 : q < (1000 : Int64)
  · rw [if_pos c3]
    rw [Int64.lt_iff_toInt_lt, e3] at c3
    rw [Int64.lt_iff_toInt_lt, e2] at c2
    rw [own_digE 1 19 (N / 10) (by omega) (by omega) (by decide)] <;> rfl
  rw [if_neg c3]
  by_cases c4 : q < (10000 : Int64)
  · rw [if_pos c4]
    rw [Int64.lt_iff_toInt_lt, e4] at c4
    rw [Int64.lt_iff_toInt_lt, e3] at c3
    rw [own_digE 2 19 (N / 10) (by omega) (by omega) (by decide)] <;> rfl
  rw [if_neg c4]
  by_cases c5 : q < (100000 : Int64)
  · rw [if_pos c5]
    rw [Int64.lt_iff_toInt_lt, e5] at c5
    rw [Int64.lt_iff_toInt_lt, e4] at c4
    rw [own_digE 3 19 (N / 10) (by omega) (by omega) (by decide)] <;> rfl
  rw [if_neg c5]
  by_cases c6 : q < (1000000 : Int64)
  · rw [if_pos c6]
    rw [Int64.lt_iff_toInt_lt, e6] at c6
    rw [Int64.lt_iff_toInt_lt, e5] at c5
    rw [own_digE 4 19 (N / 10) (by omega) (by omega) (by decide)] <;> rfl
  rw [if_neg c6]
  by_cases c7 : q < (10000000 : Int64)
  · rw [if_pos c7]
    rw [Int64.lt_iff_toInt_lt, e7] at c7
    rw [Int64.lt_iff_toInt_lt, e6] at c6
    rw [own_digE 5 19 (N / 10) (by omega) (by omega) (by decide)] <;> rfl
  rw [if_neg c7]
  by_cases c8 : q < (100000000 : Int64)
  · rw [if_pos c8]
    rw [Int64.lt_iff_toInt_lt, e8] at c8
    rw [Int64.lt_iff_toInt_lt, e7] at c7
    rw [own_digE 6 19 (N / 10) (by omega) (by omega) (by decide)] <;> rfl
  rw [if_neg c8]
  by_cases c9 : q < (1000000000 : Int64)
  · rw [if_pos c9]
    rw [Int64.lt_iff_toInt_lt, e9] at c9
    rw [Int64.lt_iff_toInt_lt, e8] at c8
    rw [own_digE 7 19 (N / 10) (by omega) (by omega) (by decide)] <;> rfl
  rw [if_neg c9]
  by_cases c10 : q < (10000000000 : Int64)
  · rw [if_pos c10]
    rw [Int64.lt_iff_toInt_lt, e10] at c10
    rw [Int64.lt_iff_toInt_lt, e9] at c9
    rw [own_digE 8 19 (N / 10) (by omega) (by omega) (by decide)] <;> rfl
  rw [if_neg c10]
  by_cases c11 : q < (100000000000 : Int64)
  · rw [if_pos c11]
    rw [Int64.lt_iff_toInt_lt, e11] at c11
    rw [Int64.lt_iff_toInt_lt, e10] at c10
    rw [own_digE 9 19 (N / 10) (by omega) (by omega) (by decide)] <;> rfl
  rw [if_neg c11]
  by_cases c12 : q < (1000000000000 : Int64)
  · rw [if_pos c12]
    rw [Int64.lt_iff_toInt_lt, e12] at c12
    rw [Int64.lt_iff_toInt_lt, e11] at c11
    rw [own_digE 10 19 (N / 10) (by omega) (by omega) (by decide)] <;> rfl
  rw [if_neg c12]
  by_cases c13 : q < (10000000000000 : Int64)
  · rw [if_pos c13]
    rw [Int64.lt_iff_toInt_lt, e13] at c13
    rw [Int64.lt_iff_toInt_lt, e12] at c12
    rw [own_digE 11 19 (N / 10) (by omega) (by omega) (by decide)] <;> rfl
  rw [if_neg c13]
  by_cases c14 : q < (100000000000000 : Int64)
  · rw [if_pos c14]
    rw [Int64.lt_iff_toInt_lt, e14] at c14
    rw [Int64.lt_iff_toInt_lt, e13] at c13
    rw [own_digE 12 19 (N / 10) (by omega) (by omega) (by decide)] <;> rfl
  rw [if_neg c14]
  by_cases c15 : q < (1000000000000000 : Int64)
  · rw [if_pos c15]
    rw [Int64.lt_iff_toInt_lt, e15] at c15
    rw [Int64.lt_iff_toInt_lt, e14] at c14
    rw [own_digE 13 19 (N / 10) (by omega) (by omega) (by decide)] <;> rfl
  rw [if_neg c15]
  by_cases c16 : q < (10000000000000000 : Int64)
  · rw [if_pos c16]
    rw [Int64.lt_iff_toInt_lt, e16] at c16
    rw [Int64.lt_iff_toInt_lt, e15] at c15
    rw [own_digE 14 19 (N / 10) (by omega) (by omega) (by decide)] <;> rfl
  rw [if_neg c16]
  by_cases c17 : q < (100000000000000000 : Int64)
  · rw [if_pos c17]
    rw [Int64.lt_iff_toInt_lt, e17] at c17
    rw [Int64.lt_iff_toInt_lt, e16] at c16
    rw [own_digE 15 19 (N / 10) (by omega) (by omega) (by decide)] <;> rfl
  rw [if_neg c17]
  by_cases c18 : q < (1000000000000000000 : Int64)
  · rw [if_pos c18]
    rw [Int64.lt_iff_toInt_lt, e18] at c18
    rw [Int64.lt_iff_toInt_lt, e17] at c17
    rw [own_digE 16 19 (N / 10) (by omega) (by omega) (by decide)] <;> rfl
  rw [if_neg c18]
  rw [Int64.lt_iff_toInt_lt, e18] at c18
  rw [own_digE 17 19 (N / 10) (by omega) (by omega) (by decide)] <;> rfl
theorem pn_0 : plainName "com/example/tailwire/tailwire/http/ResponseDecimalLengthPinLaw" = true := by first | (simp [plainName, overriddenIn]; done) | decide +kernel
theorem pd_0_0 : parseMethodDescriptor "(I)J" = some ⟨[.int], some .long⟩ := by decide +kernel
theorem pd_0_1 : parseMethodDescriptor "(J)I" = some ⟨[.long], some .int⟩ := by decide +kernel
theorem ef_0 (m : MethodId) (q1 : Int64) (p2 : Int32) (p3 : Int32) : entryFrame m #[(.long q1), (.int p2), (.int p3)] maxLocals = (mkF m 0 #[.val (.long q1), .second, .val (.int p2), .val (.int p3), .unset, .unset, .unset, .unset, .unset, .unset, .unset, .unset] []) := by first | (simp [entryFrame, mkF, argsToLocals, Value.category, maxLocals]; done) | rfl
def Q0 (Z : State) (q1 : Int64) (p2 : Int32) (p3 : Int32) (h0 : Heap) (n0 : Nat) (v : Option Value) (h : Heap) (L : List Loc) : Prop := v = some (.int (1 : Int32)) ∧ Fr n0 L
set_option maxRecDepth 65536 in
set_option maxHeartbeats 40000000 in
theorem rm0 (l : Launch) (Z : State) (a0 : Array Value) (hw : ∀ d ∈ tables_1, d.before a0 Z = true) (ws : List Jvm.Cond) (q1 : Int64) (p2 : Int32) (p3 : Int32) (h0 : Heap) (n0 : Nat) (Z0 : n0 ≤ h0.size) :
    MetFree l x (head1 (Jvm.Cond.code x code maxLocals ret :: ws) room_1) (fun a U => a = #[(.long q1), (.int p2), (.int p3)] ∧ Z.Warmed39 U.vm ∧ U.heap = h0) (fun _ _ _ _ _ => True) (fun _ U o U' => ∃ v L, o = .returned v ∧ Q0 Z q1 p2 p3 h0 n0 v U'.heap L ∧ FrameEnd U o U' L 16 128) := by
  refine MetFree.of_bodySF (plainFor_of_name pn_0) hisR ?_
  intro p e s m args below meth c s₁ Bd hml0 hP hK
  obtain ⟨rfl, hZ, hh⟩ := hP
  have hx := Bd.exec
  have hby := Bd.bytes
  have hml : c.maxLocals = 12 := hml0
  have hown : s.vm.findClass "com/example/tailwire/tailwire/http/ResponseDecimalLengthPinLaw" = some m.cls := findClass_of_methodNamed Bd.named
  have hnm := (name_of_methodNamed Bd.named Bd.method).1
  have X0 : Stand p l e room_1 s m #[(.long q1), (.int p2), (.int p3)] below meth c s₁ [] 0 0 := Stand.of_body Bd
  have e0 : s₁.heap = h0 := by rw [← hh, Bd.state]; rfl
  have N0 := Fr.nil n0
  have pre0 : ∀ t, Steps p.tables e below (s₁.setTop (mkF m 0 #[.val (.long q1), .second, .val (.int p2), .val (.int p3), .unset, .unset, .unset, .unset, .unset, .unset, .unset, .unset] [])) t → Steps p.tables e below (s₁.setTop (entryFrame m #[(.long q1), (.int p2), (.int p3)] maxLocals)) t := fun t k => castTop (ef_0 m q1 p2 p3) k
  obtain ⟨M, hM⟩ : ∃ z, z = (p3 &&& (3 : Int32)) := ⟨_, rfl⟩
  obtain ⟨Wh, hWh⟩ : ∃ z, z = (q1 &&& (9223372036854775807 : Int64)) := ⟨_, rfl⟩
  obtain ⟨f, hf, ef⟩ := own_nineteen p2
  have hW0 : 0 ≤ Wh.toInt := by rw [hWh, Jvm.Kit.i64_mask q1 _ (k := 63) (by decide) (by decide)]; omega
  obtain ⟨_, _, ⟨T3, L3, k3, n3⟩, -, X3, ⟨Lc3, hQ3, l3, y3, z3⟩, st3⟩ := Jvm.LawKit.callS X0 hx (y := (⟨"com/example/tailwire/tailwire/http/ResponseDecimalLengthPinLaw", "pow", "(I)J"⟩ : MethodName)) hown (mvT hZ (hw _ (List.mem_of_getElem? (i := 2) rfl))) (mvT hZ (hw _ (List.mem_of_getElem? (i := 3) rfl))) (mvT hZ (hw _ (List.mem_of_getElem? (i := 4) rfl))) (mvT hZ (hw _ (List.mem_of_getElem? (i := 5) rfl))) (by decide) (backOf (W := 0) (rm1 l Z a0 hw [] f h0 n0 Z0 hf) hZ (hw _ (List.mem_of_getElem? (i := 5) rfl)) (hw _ (List.mem_of_getElem? (i := 4) rfl)) (by decide) (by decide)) (g := (mkF m 23 #[.val (.long q1), .second, .val (.int p2), .val (.int p3), .val (.int M), .val (.int (Int32.ofNat f)), .val (.long Wh), .second, .unset, .unset, .unset, .unset] [(.int (Int32.ofNat f))])) rfl (by rw [hml]; rfl) (argsL := [(.int (Int32.ofNat f))]) (rest := []) (lenOf pd_0_0 rfl) rfl (by show 2 * 0 + _ ≤ _; exact Nat.le_of_eq rfl) (hb hby at_23) (fun _ _ => ⟨rfl, e0, (by decide : 0 + 1 ≤ _), (by decide : 0 + 19 ≤ _)⟩)
  dsimp only [Pt.U, Pt.locs, Pt.cells, Pt.slots] at X3 l3 y3 z3 st3 hQ3
  subst l3 y3 z3
  obtain ⟨rfl, N3q, q3⟩ := hQ3
  have N3 := Fr.app N0 N3q
  obtain ⟨Pw, hPw⟩ : ∃ z, z = own_ps.getD f 0 := ⟨_, rfl⟩
  rw [← hPw] at st3
  have hP := own_psb hf
  rw [← hPw] at hP
  have ZH : n0 ≤ T3.heap.size := Nat.le_trans Z0 q3.1
  by_cases m0 : M = (0 : Int32)
  · have hz : 0 ≤ Wh.toInt := hW0
    obtain ⟨N, hN⟩ : ∃ N : Nat, Wh.toInt = N := ⟨Wh.toInt.toNat, by omega⟩
    obtain ⟨_, _, ⟨T5, L5, k5, n5⟩, -, X5, ⟨Lc5, hQ5, l5, y5, z5⟩, st5⟩ := Jvm.LawKit.callS X3 hx (y := (⟨"com/example/tailwire/tailwire/http/Response", "decimalLength", "(J)I"⟩ : MethodName)) hown (mvT hZ (hw _ (List.mem_of_getElem? (i := 25) rfl))) (mvT hZ (hw _ (List.mem_of_getElem? (i := 26) rfl))) (mvT hZ (hw _ (List.mem_of_getElem? (i := 27) rfl))) (mvT hZ (hw _ (List.mem_of_getElem? (i := 28) rfl))) (by decide) (backOf (W := 0) (rm3 l Z a0 hw [] Wh N T3.heap n0 ZH hN) hZ (hw _ (List.mem_of_getElem? (i := 28) rfl)) (hw _ (List.mem_of_getElem? (i := 27) rfl)) (by decide) (by decide)) (g := (mkF m 80 #[.val (.long q1), .second, .val (.int p2), .val (.int p3), .val (.int M), .val (.int (Int32.ofNat f)), .val (.long Wh), .second, .val (.long Pw), .second, .val (.long Wh), .second] [(.long Wh)])) rfl (by rw [hml]; rfl) (argsL := [(.long Wh)]) (rest := []) (lenOf pd_0_1 rfl) rfl (by show 2 * 0 + _ ≤ _; exact Nat.le_of_eq rfl) (hb hby at_80) (fun _ _ => ⟨rfl, rfl, (by decide : 1 + 0 ≤ _), (by decide : 19 + 0 ≤ _)⟩)
    dsimp only [Pt.U, Pt.locs, Pt.cells, Pt.slots] at X5 l5 y5 z5 st5 hQ5
    subst l5 y5 z5
    obtain ⟨rfl, N5q, q5⟩ := hQ5
    have N5 := Fr.app N3 N5q
    obtain ⟨_, _, ⟨T6, L6, k6, n6⟩, -, X6, ⟨Lc6, hQ6, l6, y6, z6⟩, st6⟩ := Jvm.LawKit.callS X5 hx (y := (⟨"com/example/tailwire/tailwire/http/ResponseDecimalLengthPinLaw", "digits", "(J)I"⟩ : MethodName)) hown (mvT hZ (hw _ (List.mem_of_getElem? (i := 30) rfl))) (mvT hZ (hw _ (List.mem_of_getElem? (i := 31) rfl))) (mvT hZ (hw _ (List.mem_of_getElem? (i := 4) rfl))) (mvT hZ (hw _ (List.mem_of_getElem? (i := 32) rfl))) (by decide) (backOf (W := 1) (rm4 l Z a0 hw [] Wh T3.heap n0 ZH) hZ (hw _ (List.mem_of_getElem? (i := 32) rfl)) (hw _ (List.mem_of_getElem? (i := 4) rfl)) (by decide) (by decide)) (g := (mkF m 85 #[.val (.long q1), .second, .val (.int p2), .val (.int p3), .val (.int M), .val (.int (Int32.ofNat f)), .val (.long Wh), .second, .val (.long Pw), .second, .val (.long Wh), .second] [(.long Wh), (.int ((1 : Int32) + Int32.ofNat (own_dig 19 (N / 10))))])) rfl (by rw [hml]; rfl) (argsL := [(.long Wh)]) (rest := [(.int ((1 : Int32) + Int32.ofNat (own_dig 19 (N / 10))))]) (lenOf pd_0_1 rfl) rfl (by show 2 * 0 + _ ≤ _; exact Nat.le_of_eq rfl) (hb hby at_85) (fun _ _ => ⟨rfl, q5, (by decide : 1 + 0 ≤ _), (by decide : 19 + 0 ≤ _)⟩)
    dsimp only [Pt.U, Pt.locs, Pt.cells, Pt.slots] at X6 l6 y6 z6 st6 hQ6
    subst l6 y6 z6
    obtain ⟨rfl, N6q, q6⟩ := hQ6
    have N6 := Fr.app N5 N6q
    obtain ⟨fs, hr, hrun, hended, hW, hsame⟩ := X6.leave (v := some (.int (1 : Int32))) (fun h => by rw [Bd.returns] at h; cases h)
    refine ⟨_, _, pre0 _ ?_, hrun, hended, _, _, rfl, ?_, ⟨_, rfl⟩, hW, hsame.mono (by decide) (by decide)⟩
    · show Steps p.tables e below (s₁.setTop (mkF m 0 #[.val (.long q1), .second, .val (.int p2), .val (.int p3), .unset, .unset, .unset, .unset, .unset, .unset, .unset, .unset] [])) _
      refine XS.iloadN X0.here hx rfl (hb hby at_0) rfl ?_
      show Steps p.tables e below (s₁.setTop (mkF m 1 #[.val (.long q1), .second, .val (.int p2), .val (.int p3), .unset, .unset, .unset, .unset, .unset, .unset, .unset, .unset] [(.int p3)])) _
      refine XS.iconst X0.here hx rfl (hb hby at_1) ?_
      show Steps p.tables e below (s₁.setTop (mkF m 2 #[.val (.long q1), .second, .val (.int p2), .val (.int p3), .unset, .unset, .unset, .unset, .unset, .unset, .unset, .unset] [(.int (3 : Int32)), (.int p3)])) _
      refine XS.iand X0.here hx rfl (hb hby at_2) rfl ?_
      show Steps p.tables e below (s₁.setTop (mkF m 3 #[.val (.long q1), .second, .val (.int p2), .val (.int p3), .unset, .unset, .unset, .unset, .unset, .unset, .unset, .unset] [(.int (p3 &&& (3 : Int32)))])) _
      refine XS.istore X0.here hx rfl (hb hby at_3) rfl (l' := #[.val (.long q1), .second, .val (.int p2), .val (.int p3), .val (.int (p3 &&& (3 : Int32))), .unset, .unset, .unset, .unset, .unset, .unset, .unset]) rfl ?_
      show Steps p.tables e below (s₁.setTop (mkF m 5 #[.val (.long q1), .second, .val (.int p2), .val (.int p3), .val (.int (p3 &&& (3 : Int32))), .unset, .unset, .unset, .unset, .unset, .unset, .unset] [])) _
      rw [← hM]
      show Steps p.tables e below (s₁.setTop (mkF m 5 #[.val (.long q1), .second, .val (.int p2), .val (.int p3), .val (.int M), .unset, .unset, .unset, .unset, .unset, .unset, .unset] [])) _
      refine XS.iloadN X0.here hx rfl (hb hby at_5) rfl ?_
      show Steps p.tables e below (s₁.setTop (mkF m 6 #[.val (.long q1), .second, .val (.int p2), .val (.int p3), .val (.int M), .unset, .unset, .unset, .unset, .unset, .unset, .unset] [(.int p2)])) _
      refine X0.ldcInt hx hown (mvT hZ (hw _ (List.mem_of_getElem? (i := 0) rfl))) (g := (mkF m 6 #[.val (.long q1), .second, .val (.int p2), .val (.int p3), .val (.int M), .unset, .unset, .unset, .unset, .unset, .unset, .unset] [(.int p2)])) rfl (hb hby at_6) _ ?_
      show Steps p.tables e below (s₁.setTop (mkF m 8 #[.val (.long q1), .second, .val (.int p2), .val (.int p3), .val (.int M), .unset, .unset, .unset, .unset, .unset, .unset, .unset] [(.int (2147483647 : Int32)), (.int p2)])) _
      refine XS.iand X0.here hx rfl (hb hby at_8) rfl ?_
      show Steps p.tables e below (s₁.setTop (mkF m 9 #[.val (.long q1), .second, .val (.int p2), .val (.int p3), .val (.int M), .unset, .unset, .unset, .unset, .unset, .unset, .unset] [(.int (p2 &&& (2147483647 : Int32)))])) _
      refine XS.bipush X0.here hx rfl (hb hby at_9) ?_
      show Steps p.tables e below (s₁.setTop (mkF m 11 #[.val (.long q1), .second, .val (.int p2), .val (.int p3), .val (.int M), .unset, .unset, .unset, .unset, .unset, .unset, .unset] [(.int (19 : Int32)), (.int (p2 &&& (2147483647 : Int32)))])) _
      refine XS.irem X0.here hx rfl (hb hby at_11) rfl (by decide) ?_
      show Steps p.tables e below (s₁.setTop (mkF m 12 #[.val (.long q1), .second, .val (.int p2), .val (.int p3), .val (.int M), .unset, .unset, .unset, .unset, .unset, .unset, .unset] [(.int ((p2 &&& (2147483647 : Int32)) - ((p2 &&& (2147483647 : Int32)) / (19 : Int32)) * (19 : Int32)))])) _
      refine XS.istore X0.here hx rfl (hb hby at_12) rfl (l' := #[.val (.long q1), .second, .val (.int p2), .val (.int p3), .val (.int M), .val (.int ((p2 &&& (2147483647 : Int32)) - ((p2 &&& (2147483647 : Int32)) / (19 : Int32)) * (19 : Int32))), .unset, .unset, .unset, .unset, .unset, .unset]) rfl ?_
      show Steps p.tables e below (s₁.setTop (mkF m 14 #[.val (.long q1), .second, .val (.int p2), .val (.int p3), .val (.int M), .val (.int ((p2 &&& (2147483647 : Int32)) - ((p2 &&& (2147483647 : Int32)) / (19 : Int32)) * (19 : Int32))), .unset, .unset, .unset, .unset, .unset, .unset] [])) _
      rw [ef]
      show Steps p.tables e below (s₁.setTop (mkF m 14 #[.val (.long q1), .second, .val (.int p2), .val (.int p3), .val (.int M), .val (.int (Int32.ofNat f)), .unset, .unset, .unset, .unset, .unset, .unset] [])) _
      refine XS.lloadN X0.here hx rfl (hb hby at_14) rfl ?_
      show Steps p.tables e below (s₁.setTop (mkF m 15 #[.val (.long q1), .second, .val (.int p2), .val (.int p3), .val (.int M), .val (.int (Int32.ofNat f)), .unset, .unset, .unset, .unset, .unset, .unset] [(.long q1)])) _
      refine X0.ldc2Long hx hown (mvT hZ (hw _ (List.mem_of_getElem? (i := 1) rfl))) (g := (mkF m 15 #[.val (.long q1), .second, .val (.int p2), .val (.int p3), .val (.int M), .val (.int (Int32.ofNat f)), .unset, .unset, .unset, .unset, .unset, .unset] [(.long q1)])) rfl (hb hby at_15) _ ?_
      show Steps p.tables e below (s₁.setTop (mkF m 18 #[.val (.long q1), .second, .val (.int p2), .val (.int p3), .val (.int M), .val (.int (Int32.ofNat f)), .unset, .unset, .unset, .unset, .unset, .unset] [(.long (9223372036854775807 : Int64)), (.long q1)])) _
      refine XS.land X0.here hx rfl (hb hby at_18) rfl ?_
      show Steps p.tables e below (s₁.setTop (mkF m 19 #[.val (.long q1), .second, .val (.int p2), .val (.int p3), .val (.int M), .val (.int (Int32.ofNat f)), .unset, .unset, .unset, .unset, .unset, .unset] [(.long (q1 &&& (9223372036854775807 : Int64)))])) _
      refine XS.lstore X0.here hx rfl (hb hby at_19) rfl (l' := #[.val (.long q1), .second, .val (.int p2), .val (.int p3), .val (.int M), .val (.int (Int32.ofNat f)), .val (.long (q1 &&& (9223372036854775807 : Int64))), .second, .unset, .unset, .unset, .unset]) rfl ?_
      show Steps p.tables e below (s₁.setTop (mkF m 21 #[.val (.long q1), .second, .val (.int p2), .val (.int p3), .val (.int M), .val (.int (Int32.ofNat f)), .val (.long (q1 &&& (9223372036854775807 : Int64))), .second, .unset, .unset, .unset, .unset] [])) _
      rw [← hWh]
      show Steps p.tables e below (s₁.setTop (mkF m 21 #[.val (.long q1), .second, .val (.int p2), .val (.int p3), .val (.int M), .val (.int (Int32.ofNat f)), .val (.long Wh), .second, .unset, .unset, .unset, .unset] [])) _
      refine XS.iload X0.here hx rfl (hb hby at_21) rfl ?_
      show Steps p.tables e below (s₁.setTop (mkF m 23 #[.val (.long q1), .second, .val (.int p2), .val (.int p3), .val (.int M), .val (.int (Int32.ofNat f)), .val (.long Wh), .second, .unset, .unset, .unset, .unset] [(.int (Int32.ofNat f))])) _
      refine st3 _ ?_
      show Steps p.tables e below (T3.setTop (mkF m 26 #[.val (.long q1), .second, .val (.int p2), .val (.int p3), .val (.int M), .val (.int (Int32.ofNat f)), .val (.long Wh), .second, .unset, .unset, .unset, .unset] [(.long Pw)])) _
      refine XS.lstore X3.here hx rfl (hb hby at_26) rfl (l' := #[.val (.long q1), .second, .val (.int p2), .val (.int p3), .val (.int M), .val (.int (Int32.ofNat f)), .val (.long Wh), .second, .val (.long Pw), .second, .unset, .unset]) rfl ?_
      show Steps p.tables e below (T3.setTop (mkF m 28 #[.val (.long q1), .second, .val (.int p2), .val (.int p3), .val (.int M), .val (.int (Int32.ofNat f)), .val (.long Wh), .second, .val (.long Pw), .second, .unset, .unset] [])) _
      refine XS.iload X3.here hx rfl (hb hby at_28) rfl ?_
      show Steps p.tables e below (T3.setTop (mkF m 30 #[.val (.long q1), .second, .val (.int p2), .val (.int p3), .val (.int M), .val (.int (Int32.ofNat f)), .val (.long Wh), .second, .val (.long Pw), .second, .unset, .unset] [(.int M)])) _
      refine XS.ifNo X3.here hx rfl (hb hby at_30) rfl ((if0 _ _).trans (teq m0).2) ?_
      show Steps p.tables e below (T3.setTop (mkF m 33 #[.val (.long q1), .second, .val (.int p2), .val (.int p3), .val (.int M), .val (.int (Int32.ofNat f)), .val (.long Wh), .second, .val (.long Pw), .second, .unset, .unset] [])) _
      refine XS.lload X3.here hx rfl (hb hby at_33) rfl ?_
      show Steps p.tables e below (T3.setTop (mkF m 35 #[.val (.long q1), .second, .val (.int p2), .val (.int p3), .val (.int M), .val (.int (Int32.ofNat f)), .val (.long Wh), .second, .val (.long Pw), .second, .unset, .unset] [(.long Wh)])) _
      refine XS.lstore X3.here hx rfl (hb hby at_35) rfl (l' := #[.val (.long q1), .second, .val (.int p2), .val (.int p3), .val (.int M), .val (.int (Int32.ofNat f)), .val (.long Wh), .second, .val (.long Pw), .second, .val (.long Wh), .second]) rfl ?_
      show Steps p.tables e below (T3.setTop (mkF m 37 #[.val (.long q1), .second, .val (.int p2), .val (.int p3), .val (.int M), .val (.int (Int32.ofNat f)), .val (.long Wh), .second, .val (.long Pw), .second, .val (.long Wh), .second] [])) _
      refine XS.goto X3.here hx rfl (pc0 := 37) (pc' := 78) rfl (hb hby at_37) (by decide) (by decide) ?_
      show Steps p.tables e below (T3.setTop (mkF m 78 #[.val (.long q1), .second, .val (.int p2), .val (.int p3), .val (.int M), .val (.int (Int32.ofNat f)), .val (.long Wh), .second, .val (.long Pw), .second, .val (.long Wh), .second] [])) _
      refine XS.lload X3.here hx rfl (hb hby at_78) rfl ?_
      show Steps p.tables e below (T3.setTop (mkF m 80 #[.val (.long q1), .second, .val (.int p2), .val (.int p3), .val (.int M), .val (.int (Int32.ofNat f)), .val (.long Wh), .second, .val (.long Pw), .second, .val (.long Wh), .second] [(.long Wh)])) _
      refine st5 _ ?_
      show Steps p.tables e below (T5.setTop (mkF m 83 #[.val (.long q1), .second, .val (.int p2), .val (.int p3), .val (.int M), .val (.int (Int32.ofNat f)), .val (.long Wh), .second, .val (.long Pw), .second, .val (.long Wh), .second] [(.int ((1 : Int32) + Int32.ofNat (own_dig 19 (N / 10))))])) _
      refine XS.lload X5.here hx rfl (hb hby at_83) rfl ?_
      show Steps p.tables e below (T5.setTop (mkF m 85 #[.val (.long q1), .second, .val (.int p2), .val (.int p3), .val (.int M), .val (.int (Int32.ofNat f)), .val (.long Wh), .second, .val (.long Pw), .second, .val (.long Wh), .second] [(.long Wh), (.int ((1 : Int32) + Int32.ofNat (own_dig 19 (N / 10))))])) _
      refine st6 _ ?_
      show Steps p.tables e below (T6.setTop (mkF m 88 #[.val (.long q1), .second, .val (.int p2), .val (.int p3), .val (.int M), .val (.int (Int32.ofNat f)), .val (.long Wh), .second, .val (.long Pw), .second, .val (.long Wh), .second] [(.int (own_F4 Wh)), (.int ((1 : Int32) + Int32.ofNat (own_dig 19 (N / 10))))])) _
      refine XS.icmpNo X6.here hx rfl (hb hby at_88) rfl (teq (own_dlen hN)).2 ?_
      show Steps p.tables e below (T6.setTop (mkF m 91 #[.val (.long q1), .second, .val (.int p2), .val (.int p3), .val (.int M), .val (.int (Int32.ofNat f)), .val (.long Wh), .second, .val (.long Pw), .second, .val (.long Wh), .second] [])) _
      refine XS.iconst X6.here hx rfl (hb hby at_91) ?_
      show Steps p.tables e below (T6.setTop (mkF m 92 #[.val (.long q1), .second, .val (.int p2), .val (.int p3), .val (.int M), .val (.int (Int32.ofNat f)), .val (.long Wh), .second, .val (.long Pw), .second, .val (.long Wh), .second] [(.int (1 : Int32))])) _
      refine XS.goto X6.here hx rfl (pc0 := 92) (pc' := 96) rfl (hb hby at_92) (by decide) (by decide) ?_
      show Steps p.tables e below (T6.setTop (mkF m 96 #[.val (.long q1), .second, .val (.int p2), .val (.int p3), .val (.int M), .val (.int (Int32.ofNat f)), .val (.long Wh), .second, .val (.long Pw), .second, .val (.long Wh), .second] [(.int (1 : Int32))])) _
      exact retN X6 hx (t := .boolean) Bd.returns (by simp) (hb hby at_96) hr
    · show Q0 Z q1 p2 p3 h0 n0 _ T6.heap _
      exact ⟨rfl, N6⟩
  · by_cases m1 : M = (1 : Int32)
    · have e1 : (1 : Int64).toInt = 1 := by decide
      have hs : (Pw - (1 : Int64)).toInt = Pw.toInt - 1 := by rw [Jvm.Kit.i64_sub (by rw [e1]; omega) (by rw [e1]; omega), e1]
      obtain ⟨N, hN⟩ : ∃ N : Nat, (Pw - (1 : Int64)).toInt = N := ⟨(Pw - (1 : Int64)).toInt.toNat, by omega⟩
      obtain ⟨_, _, ⟨T5, L5, k5, n5⟩, -, X5, ⟨Lc5, hQ5, l5, y5, z5⟩, st5⟩ := Jvm.LawKit.callS X3 hx (y := (⟨"com/example/tailwire/tailwire/http/Response", "decimalLength", "(J)I"⟩ : MethodName)) hown (mvT hZ (hw _ (List.mem_of_getElem? (i := 25) rfl))) (mvT hZ (hw _ (List.mem_of_getElem? (i := 26) rfl))) (mvT hZ (hw _ (List.mem_of_getElem? (i := 27) rfl))) (mvT hZ (hw _ (List.mem_of_getElem? (i := 28) rfl))) (by decide) (backOf (W := 0) (rm3 l Z a0 hw [] (Pw - (1 : Int64)) N T3.heap n0 ZH hN) hZ (hw _ (List.mem_of_getElem? (i := 28) rfl)) (hw _ (List.mem_of_getElem? (i := 27) rfl)) (by decide) (by decide)) (g := (mkF m 80 #[.val (.long q1), .second, .val (.int p2), .val (.int p3), .val (.int M), .val (.int (Int32.ofNat f)), .val (.long Wh), .second, .val (.long Pw), .second, .val (.long (Pw - (1 : Int64))), .second] [(.long (Pw - (1 : Int64)))])) rfl (by rw [hml]; rfl) (argsL := [(.long (Pw - (1 : Int64)))]) (rest := []) (lenOf pd_0_1 rfl) rfl (by show 2 * 0 + _ ≤ _; exact Nat.le_of_eq rfl) (hb hby at_80) (fun _ _ => ⟨rfl, rfl, (by decide : 1 + 0 ≤ _), (by decide : 19 + 0 ≤ _)⟩)
      dsimp only [Pt.U, Pt.locs, Pt.cells, Pt.slots] at X5 l5 y5 z5 st5 hQ5
      subst l5 y5 z5
      obtain ⟨rfl, N5q, q5⟩ := hQ5
      have N5 := Fr.app N3 N5q
      obtain ⟨_, _, ⟨T6, L6, k6, n6⟩, -, X6, ⟨Lc6, hQ6, l6, y6, z6⟩, st6⟩ := Jvm.LawKit.callS X5 hx (y := (⟨"com/example/tailwire/tailwire/http/ResponseDecimalLengthPinLaw", "digits", "(J)I"⟩ : MethodName)) hown (mvT hZ (hw _ (List.mem_of_getElem? (i := 30) rfl))) (mvT hZ (hw _ (List.mem_of_getElem? (i := 31) rfl))) (mvT hZ (hw _ (List.mem_of_getElem? (i := 4) rfl))) (mvT hZ (hw _ (List.mem_of_getElem? (i := 32) rfl))) (by decide) (backOf (W := 1) (rm4 l Z a0 hw [] (Pw - (1 : Int64)) T3.heap n0 ZH) hZ (hw _ (List.mem_of_getElem? (i := 32) rfl)) (hw _ (List.mem_of_getElem? (i := 4) rfl)) (by decide) (by decide)) (g := (mkF m 85 #[.val (.long q1), .second, .val (.int p2), .val (.int p3), .val (.int M), .val (.int (Int32.ofNat f)), .val (.long Wh), .second, .val (.long Pw), .second, .val (.long (Pw - (1 : Int64))), .second] [(.long (Pw - (1 : Int64))), (.int ((1 : Int32) + Int32.ofNat (own_dig 19 (N / 10))))])) rfl (by rw [hml]; rfl) (argsL := [(.long (Pw - (1 : Int64)))]) (rest := [(.int ((1 : Int32) + Int32.ofNat (own_dig 19 (N / 10))))]) (lenOf pd_0_1 rfl) rfl (by show 2 * 0 + _ ≤ _; exact Nat.le_of_eq rfl) (hb hby at_85) (fun _ _ => ⟨rfl, q5, (by decide : 1 + 0 ≤ _), (by decide : 19 + 0 ≤ _)⟩)
      dsimp only [Pt.U, Pt.locs, Pt.cells, Pt.slots] at X6 l6 y6 z6 st6 hQ6
      subst l6 y6 z6
      obtain ⟨rfl, N6q, q6⟩ := hQ6
      have N6 := Fr.app N5 N6q
      obtain ⟨fs, hr, hrun, hended, hW, hsame⟩ := X6.leave (v := some (.int (1 : Int32))) (fun h => by rw [Bd.returns] at h; cases h)
      refine ⟨_, _, pre0 _ ?_, hrun, hended, _, _, rfl, ?_, ⟨_, rfl⟩, hW, hsame.mono (by decide) (by decide)⟩
      · show Steps p.tables e below (s₁.setTop (mkF m 0 #[.val (.long q1), .second, .val (.int p2), .val (.int p3), .unset, .unset, .unset, .unset, .unset, .unset, .unset, .unset] [])) _
        refine XS.iloadN X0.here hx rfl (hb hby at_0) rfl ?_
        show Steps p.tables e below (s₁.setTop (mkF m 1 #[.val (.long q1), .second, .val (.int p2), .val (.int p3), .unset, .unset, .unset, .unset, .unset, .unset, .unset, .unset] [(.int p3)])) _
        refine XS.iconst X0.here hx rfl (hb hby at_1) ?_
        show Steps p.tables e below (s₁.setTop (mkF m 2 #[.val (.long q1), .second, .val (.int p2), .val (.int p3), .unset, .unset, .unset, .unset, .unset, .unset, .unset, .unset] [(.int (3 : Int32)), (.int p3)])) _
        refine XS.iand X0.here hx rfl (hb hby at_2) rfl ?_
        show Steps p.tables e below (s₁.setTop (mkF m 3 #[.val (.long q1), .second, .val (.int p2), .val (.int p3), .unset, .unset, .unset, .unset, .unset, .unset, .unset, .unset] [(.int (p3 &&& (3 : Int32)))])) _
        refine XS.istore X0.here hx rfl (hb hby at_3) rfl (l' := #[.val (.long q1), .second, .val (.int p2), .val (.int p3), .val (.int (p3 &&& (3 : Int32))), .unset, .unset, .unset, .unset, .unset, .unset, .unset]) rfl ?_
        show Steps p.tables e below (s₁.setTop (mkF m 5 #[.val (.long q1), .second, .val (.int p2), .val (.int p3), .val (.int (p3 &&& (3 : Int32))), .unset, .unset, .unset, .unset, .unset, .unset, .unset] [])) _
        rw [← hM]
        show Steps p.tables e below (s₁.setTop (mkF m 5 #[.val (.long q1), .second, .val (.int p2), .val (.int p3), .val (.int M), .unset, .unset, .unset, .unset, .unset, .unset, .unset] [])) _
        refine XS.iloadN X0.here hx rfl (hb hby at_5) rfl ?_
        show Steps p.tables e below (s₁.setTop (mkF m 6 #[.val (.long q1), .second, .val (.int p2), .val (.int p3), .val (.int M), .unset, .unset, .unset, .unset, .unset, .unset, .unset] [(.int p2)])) _
        refine X0.ldcInt hx hown (mvT hZ (hw _ (List.mem_of_getElem? (i := 0) rfl))) (g := (mkF m 6 #[.val (.long q1), .second, .val (.int p2), .val (.int p3), .val (.int M), .unset, .unset, .unset, .unset, .unset, .unset, .unset] [(.int p2)])) rfl (hb hby at_6) _ ?_
        show Steps p.tables e below (s₁.setTop (mkF m 8 #[.val (.long q1), .second, .val (.int p2), .val (.int p3), .val (.int M), .unset, .unset, .unset, .unset, .unset, .unset, .unset] [(.int (2147483647 : Int32)), (.int p2)])) _
        refine XS.iand X0.here hx rfl (hb hby at_8) rfl ?_
        show Steps p.tables e below (s₁.setTop (mkF m 9 #[.val (.long q1), .second, .val (.int p2), .val (.int p3), .val (.int M), .unset, .unset, .unset, .unset, .unset, .unset, .unset] [(.int (p2 &&& (2147483647 : Int32)))])) _
        refine XS.bipush X0.here hx rfl (hb hby at_9) ?_
        show Steps p.tables e below (s₁.setTop (mkF m 11 #[.val (.long q1), .second, .val (.int p2), .val (.int p3), .val (.int M), .unset, .unset, .unset, .unset, .unset, .unset, .unset] [(.int (19 : Int32)), (.int (p2 &&& (2147483647 : Int32)))])) _
        refine XS.irem X0.here hx rfl (hb hby at_11) rfl (by decide) ?_
        show Steps p.tables e below (s₁.setTop (mkF m 12 #[.val (.long q1), .second, .val (.int p2), .val (.int p3), .val (.int M), .unset, .unset, .unset, .unset, .unset, .unset, .unset] [(.int ((p2 &&& (2147483647 : Int32)) - ((p2 &&& (2147483647 : Int32)) / (19 : Int32)) * (19 : Int32)))])) _
        refine XS.istore X0.here hx rfl (hb hby at_12) rfl (l' := #[.val (.long q1), .second, .val (.int p2), .val (.int p3), .val (.int M), .val (.int ((p2 &&& (2147483647 : Int32)) - ((p2 &&& (2147483647 : Int32)) / (19 : Int32)) * (19 : Int32))), .unset, .unset, .unset, .unset, .unset, .unset]) rfl ?_
        show Steps p.tables e below (s₁.setTop (mkF m 14 #[.val (.long q1), .second, .val (.int p2), .val (.int p3), .val (.int M), .val (.int ((p2 &&& (2147483647 : Int32)) - ((p2 &&& (2147483647 : Int32)) / (19 : Int32)) * (19 : Int32))), .unset, .unset, .unset, .unset, .unset, .unset] [])) _
        rw [ef]
        show Steps p.tables e below (s₁.setTop (mkF m 14 #[.val (.long q1), .second, .val (.int p2), .val (.int p3), .val (.int M), .val (.int (Int32.ofNat f)), .unset, .unset, .unset, .unset, .unset, .unset] [])) _
        refine XS.lloadN X0.here hx rfl (hb hby at_14) rfl ?_
        show Steps p.tables e below (s₁.setTop (mkF m 15 #[.val (.long q1), .second, .val (.int p2), .val (.int p3), .val (.int M), .val (.int (Int32.ofNat f)), .unset, .unset, .unset, .unset, .unset, .unset] [(.long q1)])) _
        refine X0.ldc2Long hx hown (mvT hZ (hw _ (List.mem_of_getElem? (i := 1) rfl))) (g := (mkF m 15 #[.val (.long q1), .second, .val (.int p2), .val (.int p3), .val (.int M), .val (.int (Int32.ofNat f)), .unset, .unset, .unset, .unset, .unset, .unset] [(.long q1)])) rfl (hb hby at_15) _ ?_
        show Steps p.tables e below (s₁.setTop (mkF m 18 #[.val (.long q1), .second, .val (.int p2), .val (.int p3), .val (.int M), .val (.int (Int32.ofNat f)), .unset, .unset, .unset, .unset, .unset, .unset] [(.long (9223372036854775807 : Int64)), (.long q1)])) _
        refine XS.land X0.here hx rfl (hb hby at_18) rfl ?_
        show Steps p.tables e below (s₁.setTop (mkF m 19 #[.val (.long q1), .second, .val (.int p2), .val (.int p3), .val (.int M), .val (.int (Int32.ofNat f)), .unset, .unset, .unset, .unset, .unset, .unset] [(.long (q1 &&& (9223372036854775807 : Int64)))])) _
        refine XS.lstore X0.here hx rfl (hb hby at_19) rfl (l' := #[.val (.long q1), .second, .val (.int p2), .val (.int p3), .val (.int M), .val (.int (Int32.ofNat f)), .val (.long (q1 &&& (9223372036854775807 : Int64))), .second, .unset, .unset, .unset, .unset]) rfl ?_
        show Steps p.tables e below (s₁.setTop (mkF m 21 #[.val (.long q1), .second, .val (.int p2), .val (.int p3), .val (.int M), .val (.int (Int32.ofNat f)), .val (.long (q1 &&& (9223372036854775807 : Int64))), .second, .unset, .unset, .unset, .unset] [])) _
        rw [← hWh]
        show Steps p.tables e below (s₁.setTop (mkF m 21 #[.val (.long q1), .second, .val (.int p2), .val (.int p3), .val (.int M), .val (.int (Int32.ofNat f)), .val (.long Wh), .second, .unset, .unset, .unset, .unset] [])) _
        refine XS.iload X0.here hx rfl (hb hby at_21) rfl ?_
        show Steps p.tables e below (s₁.setTop (mkF m 23 #[.val (.long q1), .second, .val (.int p2), .val (.int p3), .val (.int M), .val (.int (Int32.ofNat f)), .val (.long Wh), .second, .unset, .unset, .unset, .unset] [(.int (Int32.ofNat f))])) _
        refine st3 _ ?_
        show Steps p.tables e below (T3.setTop (mkF m 26 #[.val (.long q1), .second, .val (.int p2), .val (.int p3), .val (.int M), .val (.int (Int32.ofNat f)), .val (.long Wh), .second, .unset, .unset, .unset, .unset] [(.long Pw)])) _
        refine XS.lstore X3.here hx rfl (hb hby at_26) rfl (l' := #[.val (.long q1), .second, .val (.int p2), .val (.int p3), .val (.int M), .val (.int (Int32.ofNat f)), .val (.long Wh), .second, .val (.long Pw), .second, .unset, .unset]) rfl ?_
        show Steps p.tables e below (T3.setTop (mkF m 28 #[.val (.long q1), .second, .val (.int p2), .val (.int p3), .val (.int M), .val (.int (Int32.ofNat f)), .val (.long Wh), .second, .val (.long Pw), .second, .unset, .unset] [])) _
        refine XS.iload X3.here hx rfl (hb hby at_28) rfl ?_
        show Steps p.tables e below (T3.setTop (mkF m 30 #[.val (.long q1), .second, .val (.int p2), .val (.int p3), .val (.int M), .val (.int (Int32.ofNat f)), .val (.long Wh), .second, .val (.long Pw), .second, .unset, .unset] [(.int M)])) _
        refine XS.ifYes X3.here hx rfl (pc0 := 30) (pc' := 40) rfl (hb hby at_30) rfl ((if0 _ _).trans (feq m0).2) (by decide) (by decide) ?_
        show Steps p.tables e below (T3.setTop (mkF m 40 #[.val (.long q1), .second, .val (.int p2), .val (.int p3), .val (.int M), .val (.int (Int32.ofNat f)), .val (.long Wh), .second, .val (.long Pw), .second, .unset, .unset] [])) _
        refine XS.iload X3.here hx rfl (hb hby at_40) rfl ?_
        show Steps p.tables e below (T3.setTop (mkF m 42 #[.val (.long q1), .second, .val (.int p2), .val (.int p3), .val (.int M), .val (.int (Int32.ofNat f)), .val (.long Wh), .second, .val (.long Pw), .second, .unset, .unset] [(.int M)])) _
        refine XS.iconst X3.here hx rfl (hb hby at_42) ?_
        show Steps p.tables e below (T3.setTop (mkF m 43 #[.val (.long q1), .second, .val (.int p2), .val (.int p3), .val (.int M), .val (.int (Int32.ofNat f)), .val (.long Wh), .second, .val (.long Pw), .second, .unset, .unset] [(.int (1 : Int32)), (.int M)])) _
        refine XS.icmpNo X3.here hx rfl (hb hby at_43) rfl (teq m1).2 ?_
        show Steps p.tables e below (T3.setTop (mkF m 46 #[.val (.long q1), .second, .val (.int p2), .val (.int p3), .val (.int M), .val (.int (Int32.ofNat f)), .val (.long Wh), .second, .val (.long Pw), .second, .unset, .unset] [])) _
        refine XS.lload X3.here hx rfl (hb hby at_46) rfl ?_
        show Steps p.tables e below (T3.setTop (mkF m 48 #[.val (.long q1), .second, .val (.int p2), .val (.int p3), .val (.int M), .val (.int (Int32.ofNat f)), .val (.long Wh), .second, .val (.long Pw), .second, .unset, .unset] [(.long Pw)])) _
        refine XS.lconst X3.here hx rfl (hb hby at_48) ?_
        show Steps p.tables e below (T3.setTop (mkF m 49 #[.val (.long q1), .second, .val (.int p2), .val (.int p3), .val (.int M), .val (.int (Int32.ofNat f)), .val (.long Wh), .second, .val (.long Pw), .second, .unset, .unset] [(.long (1 : Int64)), (.long Pw)])) _
        refine XS.lsub X3.here hx rfl (hb hby at_49) rfl ?_
        show Steps p.tables e below (T3.setTop (mkF m 50 #[.val (.long q1), .second, .val (.int p2), .val (.int p3), .val (.int M), .val (.int (Int32.ofNat f)), .val (.long Wh), .second, .val (.long Pw), .second, .unset, .unset] [(.long (Pw - (1 : Int64)))])) _
        refine XS.lstore X3.here hx rfl (hb hby at_50) rfl (l' := #[.val (.long q1), .second, .val (.int p2), .val (.int p3), .val (.int M), .val (.int (Int32.ofNat f)), .val (.long Wh), .second, .val (.long Pw), .second, .val (.long (Pw - (1 : Int64))), .second]) rfl ?_
        show Steps p.tables e below (T3.setTop (mkF m 52 #[.val (.long q1), .second, .val (.int p2), .val (.int p3), .val (.int M), .val (.int (Int32.ofNat f)), .val (.long Wh), .second, .val (.long Pw), .second, .val (.long (Pw - (1 : Int64))), .second] [])) _
        refine XS.goto X3.here hx rfl (pc0 := 52) (pc' := 78) rfl (hb hby at_52) (by decide) (by decide) ?_
        show Steps p.tables e below (T3.setTop (mkF m 78 #[.val (.long q1), .second, .val (.int p2), .val (.int p3), .val (.int M), .val (.int (Int32.ofNat f)), .val (.long Wh), .second, .val (.long Pw), .second, .val (.long (Pw - (1 : Int64))), .second] [])) _
        refine XS.lload X3.here hx rfl (hb hby at_78) rfl ?_
        show Steps p.tables e below (T3.setTop (mkF m 80 #[.val (.long q1), .second, .val (.int p2), .val (.int p3), .val (.int M), .val (.int (Int32.ofNat f)), .val (.long Wh), .second, .val (.long Pw), .second, .val (.long (Pw - (1 : Int64))), .second] [(.long (Pw - (1 : Int64)))])) _
        refine st5 _ ?_
        show Steps p.tables e below (T5.setTop (mkF m 83 #[.val (.long q1), .second, .val (.int p2), .val (.int p3), .val (.int M), .val (.int (Int32.ofNat f)), .val (.long Wh), .second, .val (.long Pw), .second, .val (.long (Pw - (1 : Int64))), .second] [(.int ((1 : Int32) + Int32.ofNat (own_dig 19 (N / 10))))])) _
        refine XS.lload X5.here hx rfl (hb hby at_83) rfl ?_
        show Steps p.tables e below (T5.setTop (mkF m 85 #[.val (.long q1), .second, .val (.int p2), .val (.int p3), .val (.int M), .val (.int (Int32.ofNat f)), .val (.long Wh), .second, .val (.long Pw), .second, .val (.long (Pw - (1 : Int64))), .second] [(.long (Pw - (1 : Int64))), (.int ((1 : Int32) + Int32.ofNat (own_dig 19 (N / 10))))])) _
        refine st6 _ ?_
        show Steps p.tables e below (T6.setTop (mkF m 88 #[.val (.long q1), .second, .val (.int p2), .val (.int p3), .val (.int M), .val (.int (Int32.ofNat f)), .val (.long Wh), .second, .val (.long Pw), .second, .val (.long (Pw - (1 : Int64))), .second] [(.int (own_F4 (Pw - (1 : Int64)))), (.int ((1 : Int32) + Int32.ofNat (own_dig 19 (N / 10))))])) _
        refine XS.icmpNo X6.here hx rfl (hb hby at_88) rfl (teq (own_dlen hN)).2 ?_
        show Steps p.tables e below (T6.setTop (mkF m 91 #[.val (.long q1), .second, .val (.int p2), .val (.int p3), .val (.int M), .val (.int (Int32.ofNat f)), .val (.long Wh), .second, .val (.long Pw), .second, .val (.long (Pw - (1 : Int64))), .second] [])) _
        refine XS.iconst X6.here hx rfl (hb hby at_91) ?_
        show Steps p.tables e below (T6.setTop (mkF m 92 #[.val (.long q1), .second, .val (.int p2), .val (.int p3), .val (.int M), .val (.int (Int32.ofNat f)), .val (.long Wh), .second, .val (.long Pw), .second, .val (.long (Pw - (1 : Int64))), .second] [(.int (1 : Int32))])) _
        refine XS.goto X6.here hx rfl (pc0 := 92) (pc' := 96) rfl (hb hby at_92) (by decide) (by decide) ?_
        show Steps p.tables e below (T6.setTop (mkF m 96 #[.val (.long q1), .second, .val (.int p2), .val (.int p3), .val (.int M), .val (.int (Int32.ofNat f)), .val (.long Wh), .second, .val (.long Pw), .second, .val (.long (Pw - (1 : Int64))), .second] [(.int (1 : Int32))])) _
        exact retN X6 hx (t := .boolean) Bd.returns (by simp) (hb hby at_96) hr
      · show Q0 Z q1 p2 p3 h0 n0 _ T6.heap _
        exact ⟨rfl, N6⟩
    · by_cases m2 : M = (2 : Int32)
      · have hz : 0 ≤ Pw.toInt := by omega
        obtain ⟨N, hN⟩ : ∃ N : Nat, Pw.toInt = N := ⟨Pw.toInt.toNat, by omega⟩
        obtain ⟨_, _, ⟨T5, L5, k5, n5⟩, -, X5, ⟨Lc5, hQ5, l5, y5, z5⟩, st5⟩ := Jvm.LawKit.callS X3 hx (y := (⟨"com/example/tailwire/tailwire/http/Response", "decimalLength", "(J)I"⟩ : MethodName)) hown (mvT hZ (hw _ (List.mem_of_getElem? (i := 25) rfl))) (mvT hZ (hw _ (List.mem_of_getElem? (i := 26) rfl))) (mvT hZ (hw _ (List.mem_of_getElem? (i := 27) rfl))) (mvT hZ (hw _ (List.mem_of_getElem? (i := 28) rfl))) (by decide) (backOf (W := 0) (rm3 l Z a0 hw [] Pw N T3.heap n0 ZH hN) hZ (hw _ (List.mem_of_getElem? (i := 28) rfl)) (hw _ (List.mem_of_getElem? (i := 27) rfl)) (by decide) (by decide)) (g := (mkF m 80 #[.val (.long q1), .second, .val (.int p2), .val (.int p3), .val (.int M), .val (.int (Int32.ofNat f)), .val (.long Wh), .second, .val (.long Pw), .second, .val (.long Pw), .second] [(.long Pw)])) rfl (by rw [hml]; rfl) (argsL := [(.long Pw)]) (rest := []) (lenOf pd_0_1 rfl) rfl (by show 2 * 0 + _ ≤ _; exact Nat.le_of_eq rfl) (hb hby at_80) (fun _ _ => ⟨rfl, rfl, (by decide : 1 + 0 ≤ _), (by decide : 19 + 0 ≤ _)⟩)
        dsimp only [Pt.U, Pt.locs, Pt.cells, Pt.slots] at X5 l5 y5 z5 st5 hQ5
        subst l5 y5 z5
        obtain ⟨rfl, N5q, q5⟩ := hQ5
        have N5 := Fr.app N3 N5q
        obtain ⟨_, _, ⟨T6, L6, k6, n6⟩, -, X6, ⟨Lc6, hQ6, l6, y6, z6⟩, st6⟩ := Jvm.LawKit.callS X5 hx (y := (⟨"com/example/tailwire/tailwire/http/ResponseDecimalLengthPinLaw", "digits", "(J)I"⟩ : MethodName)) hown (mvT hZ (hw _ (List.mem_of_getElem? (i := 30) rfl))) (mvT hZ (hw _ (List.mem_of_getElem? (i := 31) rfl))) (mvT hZ (hw _ (List.mem_of_getElem? (i := 4) rfl))) (mvT hZ (hw _ (List.mem_of_getElem? (i := 32) rfl))) (by decide) (backOf (W := 1) (rm4 l Z a0 hw [] Pw T3.heap n0 ZH) hZ (hw _ (List.mem_of_getElem? (i := 32) rfl)) (hw _ (List.mem_of_getElem? (i := 4) rfl)) (by decide) (by decide)) (g := (mkF m 85 #[.val (.long q1), .second, .val (.int p2), .val (.int p3), .val (.int M), .val (.int (Int32.ofNat f)), .val (.long Wh), .second, .val (.long Pw), .second, .val (.long Pw), .second] [(.long Pw), (.int ((1 : Int32) + Int32.ofNat (own_dig 19 (N / 10))))])) rfl (by rw [hml]; rfl) (argsL := [(.long Pw)]) (rest := [(.int ((1 : Int32) + Int32.ofNat (own_dig 19 (N / 10))))]) (lenOf pd_0_1 rfl) rfl (by show 2 * 0 + _ ≤ _; exact Nat.le_of_eq rfl) (hb hby at_85) (fun _ _ => ⟨rfl, q5, (by decide : 1 + 0 ≤ _), (by decide : 19 + 0 ≤ _)⟩)
        dsimp only [Pt.U, Pt.locs, Pt.cells, Pt.slots] at X6 l6 y6 z6 st6 hQ6
        subst l6 y6 z6
        obtain ⟨rfl, N6q, q6⟩ := hQ6
        have N6 := Fr.app N5 N6q
        obtain ⟨fs, hr, hrun, hended, hW, hsame⟩ := X6.leave (v := some (.int (1 : Int32))) (fun h => by rw [Bd.returns] at h; cases h)
        refine ⟨_, _, pre0 _ ?_, hrun, hended, _, _, rfl, ?_, ⟨_, rfl⟩, hW, hsame.mono (by decide) (by decide)⟩
        · show Steps p.tables e below (s₁.setTop (mkF m 0 #[.val (.long q1), .second, .val (.int p2), .val (.int p3), .unset, .unset, .unset, .unset, .unset, .unset, .unset, .unset] [])) _
          refine XS.iloadN X0.here hx rfl (hb hby at_0) rfl ?_
          show Steps p.tables e below (s₁.setTop (mkF m 1 #[.val (.long q1), .second, .val (.int p2), .val (.int p3), .unset, .unset, .unset, .unset, .unset, .unset, .unset, .unset] [(.int p3)])) _
          refine XS.iconst X0.here hx rfl (hb hby at_1) ?_
          show Steps p.tables e below (s₁.setTop (mkF m 2 #[.val (.long q1), .second, .val (.int p2), .val (.int p3), .unset, .unset, .unset, .unset, .unset, .unset, .unset, .unset] [(.int (3 : Int32)), (.int p3)])) _
          refine XS.iand X0.here hx rfl (hb hby at_2) rfl ?_
          show Steps p.tables e below (s₁.setTop (mkF m 3 #[.val (.long q1), .second, .val (.int p2), .val (.int p3), .unset, .unset, .unset, .unset, .unset, .unset, .unset, .unset] [(.int (p3 &&& (3 : Int32)))])) _
          refine XS.istore X0.here hx rfl (hb hby at_3) rfl (l' := #[.val (.long q1), .second, .val (.int p2), .val (.int p3), .val (.int (p3 &&& (3 : Int32))), .unset, .unset, .unset, .unset, .unset, .unset, .unset]) rfl ?_
          show Steps p.tables e below (s₁.setTop (mkF m 5 #[.val (.long q1), .second, .val (.int p2), .val (.int p3), .val (.int (p3 &&& (3 : Int32))), .unset, .unset, .unset, .unset, .unset, .unset, .unset] [])) _
          rw [← hM]
          show Steps p.tables e below (s₁.setTop (mkF m 5 #[.val (.long q1), .second, .val (.int p2), .val (.int p3), .val (.int M), .unset, .unset, .unset, .unset, .unset, .unset, .unset] [])) _
          refine XS.iloadN X0.here hx rfl (hb hby at_5) rfl ?_
          show Steps p.tables e below (s₁.setTop (mkF m 6 #[.val (.long q1), .second, .val (.int p2), .val (.int p3), .val (.int M), .unset, .unset, .unset, .unset, .unset, .unset, .unset] [(.int p2)])) _
          refine X0.ldcInt hx hown (mvT hZ (hw _ (List.mem_of_getElem? (i := 0) rfl))) (g := (mkF m 6 #[.val (.long q1), .second, .val (.int p2), .val (.int p3), .val (.int M), .unset, .unset, .unset, .unset, .unset, .unset, .unset] [(.int p2)])) rfl (hb hby at_6) _ ?_
          show Steps p.tables e below (s₁.setTop (mkF m 8 #[.val (.long q1), .second, .val (.int p2), .val (.int p3), .val (.int M), .unset, .unset, .unset, .unset, .unset, .unset, .unset] [(.int (2147483647 : Int32)), (.int p2)])) _
          refine XS.iand X0.here hx rfl (hb hby at_8) rfl ?_
          show Steps p.tables e below (s₁.setTop (mkF m 9 #[.val (.long q1), .second, .val (.int p2), .val (.int p3), .val (.int M), .unset, .unset, .unset, .unset, .unset, .unset, .unset] [(.int (p2 &&& (2147483647 : Int32)))])) _
          refine XS.bipush X0.here hx rfl (hb hby at_9) ?_
          show Steps p.tables e below (s₁.setTop (mkF m 11 #[.val (.long q1), .second, .val (.int p2), .val (.int p3), .val (.int M), .unset, .unset, .unset, .unset, .unset, .unset, .unset] [(.int (19 : Int32)), (.int (p2 &&& (2147483647 : Int32)))])) _
          refine XS.irem X0.here hx rfl (hb hby at_11) rfl (by decide) ?_
          show Steps p.tables e below (s₁.setTop (mkF m 12 #[.val (.long q1), .second, .val (.int p2), .val (.int p3), .val (.int M), .unset, .unset, .unset, .unset, .unset, .unset, .unset] [(.int ((p2 &&& (2147483647 : Int32)) - ((p2 &&& (2147483647 : Int32)) / (19 : Int32)) * (19 : Int32)))])) _
          refine XS.istore X0.here hx rfl (hb hby at_12) rfl (l' := #[.val (.long q1), .second, .val (.int p2), .val (.int p3), .val (.int M), .val (.int ((p2 &&& (2147483647 : Int32)) - ((p2 &&& (2147483647 : Int32)) / (19 : Int32)) * (19 : Int32))), .unset, .unset, .unset, .unset, .unset, .unset]) rfl ?_
          show Steps p.tables e below (s₁.setTop (mkF m 14 #[.val (.long q1), .second, .val (.int p2), .val (.int p3), .val (.int M), .val (.int ((p2 &&& (2147483647 : Int32)) - ((p2 &&& (2147483647 : Int32)) / (19 : Int32)) * (19 : Int32))), .unset, .unset, .unset, .unset, .unset, .unset] [])) _
          rw [ef]
          show Steps p.tables e below (s₁.setTop (mkF m 14 #[.val (.long q1), .second, .val (.int p2), .val (.int p3), .val (.int M), .val (.int (Int32.ofNat f)), .unset, .unset, .unset, .unset, .unset, .unset] [])) _
          refine XS.lloadN X0.here hx rfl (hb hby at_14) rfl ?_
          show Steps p.tables e below (s₁.setTop (mkF m 15 #[.val (.long q1), .second, .val (.int p2), .val (.int p3), .val (.int M), .val (.int (Int32.ofNat f)), .unset, .unset, .unset, .unset, .unset, .unset] [(.long q1)])) _
          refine X0.ldc2Long hx hown (mvT hZ (hw _ (List.mem_of_getElem? (i := 1) rfl))) (g := (mkF m 15 #[.val (.long q1), .second, .val (.int p2), .val (.int p3), .val (.int M), .val (.int (Int32.ofNat f)), .unset, .unset, .unset, .unset, .unset, .unset] [(.long q1)])) rfl (hb hby at_15) _ ?_
          show Steps p.tables e below (s₁.setTop (mkF m 18 #[.val (.long q1), .second, .val (.int p2), .val (.int p3), .val (.int M), .val (.int (Int32.ofNat f)), .unset, .unset, .unset, .unset, .unset, .unset] [(.long (9223372036854775807 : Int64)), (.long q1)])) _
          refine XS.land X0.here hx rfl (hb hby at_18) rfl ?_
          show Steps p.tables e below (s₁.setTop (mkF m 19 #[.val (.long q1), .second, .val (.int p2), .val (.int p3), .val (.int M), .val (.int (Int32.ofNat f)), .unset, .unset, .unset, .unset, .unset, .unset] [(.long (q1 &&& (9223372036854775807 : Int64)))])) _
          refine XS.lstore X0.here hx rfl (hb hby at_19) rfl (l' := #[.val (.long q1), .second, .val (.int p2), .val (.int p3), .val (.int M), .val (.int (Int32.ofNat f)), .val (.long (q1 &&& (9223372036854775807 : Int64))), .second, .unset, .unset, .unset, .unset]) rfl ?_
          show Steps p.tables e below (s₁.setTop (mkF m 21 #[.val (.long q1), .second, .val (.int p2), .val (.int p3), .val (.int M), .val (.int (Int32.ofNat f)), .val (.long (q1 &&& (9223372036854775807 : Int64))), .second, .unset, .unset, .unset, .unset] [])) _
          rw [← hWh]
          show Steps p.tables e below (s₁.setTop (mkF m 21 #[.val (.long q1), .second, .val (.int p2), .val (.int p3), .val (.int M), .val (.int (Int32.ofNat f)), .val (.long Wh), .second, .unset, .unset, .unset, .unset] [])) _
          refine XS.iload X0.here hx rfl (hb hby at_21) rfl ?_
          show Steps p.tables e below (s₁.setTop (mkF m 23 #[.val (.long q1), .second, .val (.int p2), .val (.int p3), .val (.int M), .val (.int (Int32.ofNat f)), .val (.long Wh), .second, .unset, .unset, .unset, .unset] [(.int (Int32.ofNat f))])) _
          refine st3 _ ?_
          show Steps p.tables e below (T3.setTop (mkF m 26 #[.val (.long q1), .second, .val (.int p2), .val (.int p3), .val (.int M), .val (.int (Int32.ofNat f)), .val (.long Wh), .second, .unset, .unset, .unset, .unset] [(.long Pw)])) _
          refine XS.lstore X3.here hx rfl (hb hby at_26) rfl (l' := #[.val (.long q1), .second, .val (.int p2), .val (.int p3), .val (.int M), .val (.int (Int32.ofNat f)), .val (.long Wh), .second, .val (.long Pw), .second, .unset, .unset]) rfl ?_
          show Steps p.tables e below (T3.setTop (mkF m 28 #[.val (.long q1), .second, .val (.int p2), .val (.int p3), .val (.int M), .val (.int (Int32.ofNat f)), .val (.long Wh), .second, .val (.long Pw), .second, .unset, .unset] [])) _
          refine XS.iload X3.here hx rfl (hb hby at_28) rfl ?_
          show Steps p.tables e below (T3.setTop (mkF m 30 #[.val (.long q1), .second, .val (.int p2), .val (.int p3), .val (.int M), .val (.int (Int32.ofNat f)), .val (.long Wh), .second, .val (.long Pw), .second, .unset, .unset] [(.int M)])) _
          refine XS.ifYes X3.here hx rfl (pc0 := 30) (pc' := 40) rfl (hb hby at_30) rfl ((if0 _ _).trans (feq m0).2) (by decide) (by decide) ?_
          show Steps p.tables e below (T3.setTop (mkF m 40 #[.val (.long q1), .second, .val (.int p2), .val (.int p3), .val (.int M), .val (.int (Int32.ofNat f)), .val (.long Wh), .second, .val (.long Pw), .second, .unset, .unset] [])) _
          refine XS.iload X3.here hx rfl (hb hby at_40) rfl ?_
          show Steps p.tables e below (T3.setTop (mkF m 42 #[.val (.long q1), .second, .val (.int p2), .val (.int p3), .val (.int M), .val (.int (Int32.ofNat f)), .val (.long Wh), .second, .val (.long Pw), .second, .unset, .unset] [(.int M)])) _
          refine XS.iconst X3.here hx rfl (hb hby at_42) ?_
          show Steps p.tables e below (T3.setTop (mkF m 43 #[.val (.long q1), .second, .val (.int p2), .val (.int p3), .val (.int M), .val (.int (Int32.ofNat f)), .val (.long Wh), .second, .val (.long Pw), .second, .unset, .unset] [(.int (1 : Int32)), (.int M)])) _
          refine XS.icmpYes X3.here hx rfl (pc0 := 43) (pc' := 55) rfl (hb hby at_43) rfl (feq m1).2 (by decide) (by decide) ?_
          show Steps p.tables e below (T3.setTop (mkF m 55 #[.val (.long q1), .second, .val (.int p2), .val (.int p3), .val (.int M), .val (.int (Int32.ofNat f)), .val (.long Wh), .second, .val (.long Pw), .second, .unset, .unset] [])) _
          refine XS.iload X3.here hx rfl (hb hby at_55) rfl ?_
          show Steps p.tables e below (T3.setTop (mkF m 57 #[.val (.long q1), .second, .val (.int p2), .val (.int p3), .val (.int M), .val (.int (Int32.ofNat f)), .val (.long Wh), .second, .val (.long Pw), .second, .unset, .unset] [(.int M)])) _
          refine XS.iconst X3.here hx rfl (hb hby at_57) ?_
          show Steps p.tables e below (T3.setTop (mkF m 58 #[.val (.long q1), .second, .val (.int p2), .val (.int p3), .val (.int M), .val (.int (Int32.ofNat f)), .val (.long Wh), .second, .val (.long Pw), .second, .unset, .unset] [(.int (2 : Int32)), (.int M)])) _
          refine XS.icmpNo X3.here hx rfl (hb hby at_58) rfl (teq m2).2 ?_
          show Steps p.tables e below (T3.setTop (mkF m 61 #[.val (.long q1), .second, .val (.int p2), .val (.int p3), .val (.int M), .val (.int (Int32.ofNat f)), .val (.long Wh), .second, .val (.long Pw), .second, .unset, .unset] [])) _
          refine XS.lload X3.here hx rfl (hb hby at_61) rfl ?_
          show Steps p.tables e below (T3.setTop (mkF m 63 #[.val (.long q1), .second, .val (.int p2), .val (.int p3), .val (.int M), .val (.int (Int32.ofNat f)), .val (.long Wh), .second, .val (.long Pw), .second, .unset, .unset] [(.long Pw)])) _
          refine XS.lstore X3.here hx rfl (hb hby at_63) rfl (l' := #[.val (.long q1), .second, .val (.int p2), .val (.int p3), .val (.int M), .val (.int (Int32.ofNat f)), .val (.long Wh), .second, .val (.long Pw), .second, .val (.long Pw), .second]) rfl ?_
          show Steps p.tables e below (T3.setTop (mkF m 65 #[.val (.long q1), .second, .val (.int p2), .val (.int p3), .val (.int M), .val (.int (Int32.ofNat f)), .val (.long Wh), .second, .val (.long Pw), .second, .val (.long Pw), .second] [])) _
          refine XS.goto X3.here hx rfl (pc0 := 65) (pc' := 78) rfl (hb hby at_65) (by decide) (by decide) ?_
          show Steps p.tables e below (T3.setTop (mkF m 78 #[.val (.long q1), .second, .val (.int p2), .val (.int p3), .val (.int M), .val (.int (Int32.ofNat f)), .val (.long Wh), .second, .val (.long Pw), .second, .val (.long Pw), .second] [])) _
          refine XS.lload X3.here hx rfl (hb hby at_78) rfl ?_
          show Steps p.tables e below (T3.setTop (mkF m 80 #[.val (.long q1), .second, .val (.int p2), .val (.int p3), .val (.int M), .val (.int (Int32.ofNat f)), .val (.long Wh), .second, .val (.long Pw), .second, .val (.long Pw), .second] [(.long Pw)])) _
          refine st5 _ ?_
          show Steps p.tables e below (T5.setTop (mkF m 83 #[.val (.long q1), .second, .val (.int p2), .val (.int p3), .val (.int M), .val (.int (Int32.ofNat f)), .val (.long Wh), .second, .val (.long Pw), .second, .val (.long Pw), .second] [(.int ((1 : Int32) + Int32.ofNat (own_dig 19 (N / 10))))])) _
          refine XS.lload X5.here hx rfl (hb hby at_83) rfl ?_
          show Steps p.tables e below (T5.setTop (mkF m 85 #[.val (.long q1), .second, .val (.int p2), .val (.int p3), .val (.int M), .val (.int (Int32.ofNat f)), .val (.long Wh), .second, .val (.long Pw), .second, .val (.long Pw), .second] [(.long Pw), (.int ((1 : Int32) + Int32.ofNat (own_dig 19 (N / 10))))])) _
          refine st6 _ ?_
          show Steps p.tables e below (T6.setTop (mkF m 88 #[.val (.long q1), .second, .val (.int p2), .val (.int p3), .val (.int M), .val (.int (Int32.ofNat f)), .val (.long Wh), .second, .val (.long Pw), .second, .val (.long Pw), .second] [(.int (own_F4 Pw)), (.int ((1 : Int32) + Int32.ofNat (own_dig 19 (N / 10))))])) _
          refine XS.icmpNo X6.here hx rfl (hb hby at_88) rfl (teq (own_dlen hN)).2 ?_
          show Steps p.tables e below (T6.setTop (mkF m 91 #[.val (.long q1), .second, .val (.int p2), .val (.int p3), .val (.int M), .val (.int (Int32.ofNat f)), .val (.long Wh), .second, .val (.long Pw), .second, .val (.long Pw), .second] [])) _
          refine XS.iconst X6.here hx rfl (hb hby at_91) ?_
          show Steps p.tables e below (T6.setTop (mkF m 92 #[.val (.long q1), .second, .val (.int p2), .val (.int p3), .val (.int M), .val (.int (Int32.ofNat f)), .val (.long Wh), .second, .val (.long Pw), .second, .val (.long Pw), .second] [(.int (1 : Int32))])) _
          refine XS.goto X6.here hx rfl (pc0 := 92) (pc' := 96) rfl (hb hby at_92) (by decide) (by decide) ?_
          show Steps p.tables e below (T6.setTop (mkF m 96 #[.val (.long q1), .second, .val (.int p2), .val (.int p3), .val (.int M), .val (.int (Int32.ofNat f)), .val (.long Wh), .second, .val (.long Pw), .second, .val (.long Pw), .second] [(.int (1 : Int32))])) _
          exact retN X6 hx (t := .boolean) Bd.returns (by simp) (hb hby at_96) hr
        · show Q0 Z q1 p2 p3 h0 n0 _ T6.heap _
          exact ⟨rfl, N6⟩
      · have hnz74 : Pw ≠ 0 := fun q => by rw [q] at hP; exact absurd hP.1 (by decide)
        have hm : (Wh - (Wh / Pw) * Pw).toInt = Wh.toInt % Pw.toInt := Jvm.Kit.i64_rem_nonneg hW0
        have hm1 := Int.emod_nonneg Wh.toInt (show Pw.toInt ≠ 0 by omega)
        have hm2 := Int.emod_lt_of_pos Wh.toInt (show 0 < Pw.toInt by omega)
        have hs : (Pw + (Wh - (Wh / Pw) * Pw)).toInt = Pw.toInt + Wh.toInt % Pw.toInt := by rw [Jvm.Kit.i64_add (by rw [hm]; omega) (by rw [hm]; omega), hm]
        obtain ⟨N, hN⟩ : ∃ N : Nat, (Pw + (Wh - (Wh / Pw) * Pw)).toInt = N := ⟨(Pw + (Wh - (Wh / Pw) * Pw)).toInt.toNat, by omega⟩
        obtain ⟨_, _, ⟨T5, L5, k5, n5⟩, -, X5, ⟨Lc5, hQ5, l5, y5, z5⟩, st5⟩ := Jvm.LawKit.callS X3 hx (y := (⟨"com/example/tailwire/tailwire/http/Response", "decimalLength", "(J)I"⟩ : MethodName)) hown (mvT hZ (hw _ (List.mem_of_getElem? (i := 25) rfl))) (mvT hZ (hw _ (List.mem_of_getElem? (i := 26) rfl))) (mvT hZ (hw _ (List.mem_of_getElem? (i := 27) rfl))) (mvT hZ (hw _ (List.mem_of_getElem? (i := 28) rfl))) (by decide) (backOf (W := 0) (rm3 l Z a0 hw [] (Pw + (Wh - (Wh / Pw) * Pw)) N T3.heap n0 ZH hN) hZ (hw _ (List.mem_of_getElem? (i := 28) rfl)) (hw _ (List.mem_of_getElem? (i := 27) rfl)) (by decide) (by decide)) (g := (mkF m 80 #[.val (.long q1), .second, .val (.int p2), .val (.int p3), .val (.int M), .val (.int (Int32.ofNat f)), .val (.long Wh), .second, .val (.long Pw), .second, .val (.long (Pw + (Wh - (Wh / Pw) * Pw))), .second] [(.long (Pw + (Wh - (Wh / Pw) * Pw)))])) rfl (by rw [hml]; rfl) (argsL := [(.long (Pw + (Wh - (Wh / Pw) * Pw)))]) (rest := []) (lenOf pd_0_1 rfl) rfl (by show 2 * 0 + _ ≤ _; exact Nat.le_of_eq rfl) (hb hby at_80) (fun _ _ => ⟨rfl, rfl, (by decide : 1 + 0 ≤ _), (by decide : 19 + 0 ≤ _)⟩)
        dsimp only [Pt.U, Pt.locs, Pt.cells, Pt.slots] at X5 l5 y5 z5 st5 hQ5
        subst l5 y5 z5
        obtain ⟨rfl, N5q, q5⟩ := hQ5
        have N5 := Fr.app N3 N5q
        obtain ⟨_, _, ⟨T6, L6, k6, n6⟩, -, X6, ⟨Lc6, hQ6, l6, y6, z6⟩, st6⟩ := Jvm.LawKit.callS X5 hx (y := (⟨"com/example/tailwire/tailwire/http/ResponseDecimalLengthPinLaw", "digits", "(J)I"⟩ : MethodName)) hown (mvT hZ (hw _ (List.mem_of_getElem? (i := 30) rfl))) (mvT hZ (hw _ (List.mem_of_getElem? (i := 31) rfl))) (mvT hZ (hw _ (List.mem_of_getElem? (i := 4) rfl))) (mvT hZ (hw _ (List.mem_of_getElem? (i := 32) rfl))) (by decide) (backOf (W := 1) (rm4 l Z a0 hw [] (Pw + (Wh - (Wh / Pw) * Pw)) T3.heap n0 ZH) hZ (hw _ (List.mem_of_getElem? (i := 32) rfl)) (hw _ (List.mem_of_getElem? (i := 4) rfl)) (by decide) (by decide)) (g := (mkF m 85 #[.val (.long q1), .second, .val (.int p2), .val (.int p3), .val (.int M), .val (.int (Int32.ofNat f)), .val (.long Wh), .second, .val (.long Pw), .second, .val (.long (Pw + (Wh - (Wh / Pw) * Pw))), .second] [(.long (Pw + (Wh - (Wh / Pw) * Pw))), (.int ((1 : Int32) + Int32.ofNat (own_dig 19 (N / 10))))])) rfl (by rw [hml]; rfl) (argsL := [(.long (Pw + (Wh - (Wh / Pw) * Pw)))]) (rest := [(.int ((1 : Int32) + Int32.ofNat (own_dig 19 (N / 10))))]) (lenOf pd_0_1 rfl) rfl (by show 2 * 0 + _ ≤ _; exact Nat.le_of_eq rfl) (hb hby at_85) (fun _ _ => ⟨rfl, q5, (by decide : 1 + 0 ≤ _), (by decide : 19 + 0 ≤ _)⟩)
        dsimp only [Pt.U, Pt.locs, Pt.cells, Pt.slots] at X6 l6 y6 z6 st6 hQ6
        subst l6 y6 z6
        obtain ⟨rfl, N6q, q6⟩ := hQ6
        have N6 := Fr.app N5 N6q
        obtain ⟨fs, hr, hrun, hended, hW, hsame⟩ := X6.leave (v := some (.int (1 : Int32))) (fun h => by rw [Bd.returns] at h; cases h)
        refine ⟨_, _, pre0 _ ?_, hrun, hended, _, _, rfl, ?_, ⟨_, rfl⟩, hW, hsame.mono (by decide) (by decide)⟩
        · show Steps p.tables e below (s₁.setTop (mkF m 0 #[.val (.long q1), .second, .val (.int p2), .val (.int p3), .unset, .unset, .unset, .unset, .unset, .unset, .unset, .unset] [])) _
          refine XS.iloadN X0.here hx rfl (hb hby at_0) rfl ?_
          show Steps p.tables e below (s₁.setTop (mkF m 1 #[.val (.long q1), .second, .val (.int p2), .val (.int p3), .unset, .unset, .unset, .unset, .unset, .unset, .unset, .unset] [(.int p3)])) _
          refine XS.iconst X0.here hx rfl (hb hby at_1) ?_
          show Steps p.tables e below (s₁.setTop (mkF m 2 #[.val (.long q1), .second, .val (.int p2), .val (.int p3), .unset, .unset, .unset, .unset, .unset, .unset, .unset, .unset] [(.int (3 : Int32)), (.int p3)])) _
          refine XS.iand X0.here hx rfl (hb hby at_2) rfl ?_
          show Steps p.tables e below (s₁.setTop (mkF m 3 #[.val (.long q1), .second, .val (.int p2), .val (.int p3), .unset, .unset, .unset, .unset, .unset, .unset, .unset, .unset] [(.int (p3 &&& (3 : Int32)))])) _
          refine XS.istore X0.here hx rfl (hb hby at_3) rfl (l' := #[.val (.long q1), .second, .val (.int p2), .val (.int p3), .val (.int (p3 &&& (3 : Int32))), .unset, .unset, .unset, .unset, .unset, .unset, .unset]) rfl ?_
          show Steps p.tables e below (s₁.setTop (mkF m 5 #[.val (.long q1), .second, .val (.int p2), .val (.int p3), .val (.int (p3 &&& (3 : Int32))), .unset, .unset, .unset, .unset, .unset, .unset, .unset] [])) _
          rw [← hM]
          show Steps p.tables e below (s₁.setTop (mkF m 5 #[.val (.long q1), .second, .val (.int p2), .val (.int p3), .val (.int M), .unset, .unset, .unset, .unset, .unset, .unset, .unset] [])) _
          refine XS.iloadN X0.here hx rfl (hb hby at_5) rfl ?_
          show Steps p.tables e below (s₁.setTop (mkF m 6 #[.val (.long q1), .second, .val (.int p2), .val (.int p3), .val (.int M), .unset, .unset, .unset, .unset, .unset, .unset, .unset] [(.int p2)])) _
          refine X0.ldcInt hx hown (mvT hZ (hw _ (List.mem_of_getElem? (i := 0) rfl))) (g := (mkF m 6 #[.val (.long q1), .second, .val (.int p2), .val (.int p3), .val (.int M), .unset, .unset, .unset, .unset, .unset, .unset, .unset] [(.int p2)])) rfl (hb hby at_6) _ ?_
          show Steps p.tables e below (s₁.setTop (mkF m 8 #[.val (.long q1), .second, .val (.int p2), .val (.int p3), .val (.int M), .unset, .unset, .unset, .unset, .unset, .unset, .unset] [(.int (2147483647 : Int32)), (.int p2)])) _
          refine XS.iand X0.here hx rfl (hb hby at_8) rfl ?_
          show Steps p.tables e below (s₁.setTop (mkF m 9 #[.val (.long q1), .second, .val (.int p2), .val (.int p3), .val (.int M), .unset, .unset, .unset, .unset, .unset, .unset, .unset] [(.int (p2 &&& (2147483647 : Int32)))])) _
          refine XS.bipush X0.here hx rfl (hb hby at_9) ?_
          show Steps p.tables e below (s₁.setTop (mkF m 11 #[.val (.long q1), .second, .val (.int p2), .val (.int p3), .val (.int M), .unset, .unset, .unset, .unset, .unset, .unset, .unset] [(.int (19 : Int32)), (.int (p2 &&& (2147483647 : Int32)))])) _
          refine XS.irem X0.here hx rfl (hb hby at_11) rfl (by decide) ?_
          show Steps p.tables e below (s₁.setTop (mkF m 12 #[.val (.long q1), .second, .val (.int p2), .val (.int p3), .val (.int M), .unset, .unset, .unset, .unset, .unset, .unset, .unset] [(.int ((p2 &&& (2147483647 : Int32)) - ((p2 &&& (2147483647 : Int32)) / (19 : Int32)) * (19 : Int32)))])) _
          refine XS.istore X0.here hx rfl (hb hby at_12) rfl (l' := #[.val (.long q1), .second, .val (.int p2), .val (.int p3), .val (.int M), .val (.int ((p2 &&& (2147483647 : Int32)) - ((p2 &&& (2147483647 : Int32)) / (19 : Int32)) * (19 : Int32))), .unset, .unset, .unset, .unset, .unset, .unset]) rfl ?_
          show Steps p.tables e below (s₁.setTop (mkF m 14 #[.val (.long q1), .second, .val (.int p2), .val (.int p3), .val (.int M), .val (.int ((p2 &&& (2147483647 : Int32)) - ((p2 &&& (2147483647 : Int32)) / (19 : Int32)) * (19 : Int32))), .unset, .unset, .unset, .unset, .unset, .unset] [])) _
          rw [ef]
          show Steps p.tables e below (s₁.setTop (mkF m 14 #[.val (.long q1), .second, .val (.int p2), .val (.int p3), .val (.int M), .val (.int (Int32.ofNat f)), .unset, .unset, .unset, .unset, .unset, .unset] [])) _
          refine XS.lloadN X0.here hx rfl (hb hby at_14) rfl ?_
          show Steps p.tables e below (s₁.setTop (mkF m 15 #[.val (.long q1), .second, .val (.int p2), .val (.int p3), .val (.int M), .val (.int (Int32.ofNat f)), .unset, .unset, .unset, .unset, .unset, .unset] [(.long q1)])) _
          refine X0.ldc2Long hx hown (mvT hZ (hw _ (List.mem_of_getElem? (i := 1) rfl))) (g := (mkF m 15 #[.val (.long q1), .second, .val (.int p2), .val (.int p3), .val (.int M), .val (.int (Int32.ofNat f)), .unset, .unset, .unset, .unset, .unset, .unset] [(.long q1)])) rfl (hb hby at_15) _ ?_
          show Steps p.tables e below (s₁.setTop (mkF m 18 #[.val (.long q1), .second, .val (.int p2), .val (.int p3), .val (.int M), .val (.int (Int32.ofNat f)), .unset, .unset, .unset, .unset, .unset, .unset] [(.long (9223372036854775807 : Int64)), (.long q1)])) _
          refine XS.land X0.here hx rfl (hb hby at_18) rfl ?_
          show Steps p.tables e below (s₁.setTop (mkF m 19 #[.val (.long q1), .second, .val (.int p2), .val (.int p3), .val (.int M), .val (.int (Int32.ofNat f)), .unset, .unset, .unset, .unset, .unset, .unset] [(.long (q1 &&& (9223372036854775807 : Int64)))])) _
          refine XS.lstore X0.here hx rfl (hb hby at_19) rfl (l' := #[.val (.long q1), .second, .val (.int p2), .val (.int p3), .val (.int M), .val (.int (Int32.ofNat f)), .val (.long (q1 &&& (9223372036854775807 : Int64))), .second, .unset, .unset, .unset, .unset]) rfl ?_
          show Steps p.tables e below (s₁.setTop (mkF m 21 #[.val (.long q1), .second, .val (.int p2), .val (.int p3), .val (.int M), .val (.int (Int32.ofNat f)), .val (.long (q1 &&& (9223372036854775807 : Int64))), .second, .unset, .unset, .unset, .unset] [])) _
          rw [← hWh]
          show Steps p.tables e below (s₁.setTop (mkF m 21 #[.val (.long q1), .second, .val (.int p2), .val (.int p3), .val (.int M), .val (.int (Int32.ofNat f)), .val (.long Wh), .second, .unset, .unset, .unset, .unset] [])) _
          refine XS.iload X0.here hx rfl (hb hby at_21) rfl ?_
          show Steps p.tables e below (s₁.setTop (mkF m 23 #[.val (.long q1), .second, .val (.int p2), .val (.int p3), .val (.int M), .val (.int (Int32.ofNat f)), .val (.long Wh), .second, .unset, .unset, .unset, .unset] [(.int (Int32.ofNat f))])) _
          refine st3 _ ?_
          show Steps p.tables e below (T3.setTop (mkF m 26 #[.val (.long q1), .second, .val (.int p2), .val (.int p3), .val (.int M), .val (.int (Int32.ofNat f)), .val (.long Wh), .second, .unset, .unset, .unset, .unset] [(.long Pw)])) _
          refine XS.lstore X3.here hx rfl (hb hby at_26) rfl (l' := #[.val (.long q1), .second, .val (.int p2), .val (.int p3), .val (.int M), .val (.int (Int32.ofNat f)), .val (.long Wh), .second, .val (.long Pw), .second, .unset, .unset]) rfl ?_
          show Steps p.tables e below (T3.setTop (mkF m 28 #[.val (.long q1), .second, .val (.int p2), .val (.int p3), .val (.int M), .val (.int (Int32.ofNat f)), .val (.long Wh), .second, .val (.long Pw), .second, .unset, .unset] [])) _
          refine XS.iload X3.here hx rfl (hb hby at_28) rfl ?_
          show Steps p.tables e below (T3.setTop (mkF m 30 #[.val (.long q1), .second, .val (.int p2), .val (.int p3), .val (.int M), .val (.int (Int32.ofNat f)), .val (.long Wh), .second, .val (.long Pw), .second, .unset, .unset] [(.int M)])) _
          refine XS.ifYes X3.here hx rfl (pc0 := 30) (pc' := 40) rfl (hb hby at_30) rfl ((if0 _ _).trans (feq m0).2) (by decide) (by decide) ?_
          show Steps p.tables e below (T3.setTop (mkF m 40 #[.val (.long q1), .second, .val (.int p2), .val (.int p3), .val (.int M), .val (.int (Int32.ofNat f)), .val (.long Wh), .second, .val (.long Pw), .second, .unset, .unset] [])) _
          refine XS.iload X3.here hx rfl (hb hby at_40) rfl ?_
          show Steps p.tables e below (T3.setTop (mkF m 42 #[.val (.long q1), .second, .val (.int p2), .val (.int p3), .val (.int M), .val (.int (Int32.ofNat f)), .val (.long Wh), .second, .val (.long Pw), .second, .unset, .unset] [(.int M)])) _
          refine XS.iconst X3.here hx rfl (hb hby at_42) ?_
          show Steps p.tables e below (T3.setTop (mkF m 43 #[.val (.long q1), .second, .val (.int p2), .val (.int p3), .val (.int M), .val (.int (Int32.ofNat f)), .val (.long Wh), .second, .val (.long Pw), .second, .unset, .unset] [(.int (1 : Int32)), (.int M)])) _
          refine XS.icmpYes X3.here hx rfl (pc0 := 43) (pc' := 55) rfl (hb hby at_43) rfl (feq m1).2 (by decide) (by decide) ?_
          show Steps p.tables e below (T3.setTop (mkF m 55 #[.val (.long q1), .second, .val (.int p2), .val (.int p3), .val (.int M), .val (.int (Int32.ofNat f)), .val (.long Wh), .second, .val (.long Pw), .second, .unset, .unset] [])) _
          refine XS.iload X3.here hx rfl (hb hby at_55) rfl ?_
          show Steps p.tables e below (T3.setTop (mkF m 57 #[.val (.long q1), .second, .val (.int p2), .val (.int p3), .val (.int M), .val (.int (Int32.ofNat f)), .val (.long Wh), .second, .val (.long Pw), .second, .unset, .unset] [(.int M)])) _
          refine XS.iconst X3.here hx rfl (hb hby at_57) ?_
          show Steps p.tables e below (T3.setTop (mkF m 58 #[.val (.long q1), .second, .val (.int p2), .val (.int p3), .val (.int M), .val (.int (Int32.ofNat f)), .val (.long Wh), .second, .val (.long Pw), .second, .unset, .unset] [(.int (2 : Int32)), (.int M)])) _
          refine XS.icmpYes X3.here hx rfl (pc0 := 58) (pc' := 68) rfl (hb hby at_58) rfl (feq m2).2 (by decide) (by decide) ?_
          show Steps p.tables e below (T3.setTop (mkF m 68 #[.val (.long q1), .second, .val (.int p2), .val (.int p3), .val (.int M), .val (.int (Int32.ofNat f)), .val (.long Wh), .second, .val (.long Pw), .second, .unset, .unset] [])) _
          refine XS.lload X3.here hx rfl (hb hby at_68) rfl ?_
          show Steps p.tables e below (T3.setTop (mkF m 70 #[.val (.long q1), .second, .val (.int p2), .val (.int p3), .val (.int M), .val (.int (Int32.ofNat f)), .val (.long Wh), .second, .val (.long Pw), .second, .unset, .unset] [(.long Pw)])) _
          refine XS.lload X3.here hx rfl (hb hby at_70) rfl ?_
          show Steps p.tables e below (T3.setTop (mkF m 72 #[.val (.long q1), .second, .val (.int p2), .val (.int p3), .val (.int M), .val (.int (Int32.ofNat f)), .val (.long Wh), .second, .val (.long Pw), .second, .unset, .unset] [(.long Wh), (.long Pw)])) _
          refine XS.lload X3.here hx rfl (hb hby at_72) rfl ?_
          show Steps p.tables e below (T3.setTop (mkF m 74 #[.val (.long q1), .second, .val (.int p2), .val (.int p3), .val (.int M), .val (.int (Int32.ofNat f)), .val (.long Wh), .second, .val (.long Pw), .second, .unset, .unset] [(.long Pw), (.long Wh), (.long Pw)])) _
          refine XS.lrem X3.here hx rfl (hb hby at_74) rfl hnz74 ?_
          show Steps p.tables e below (T3.setTop (mkF m 75 #[.val (.long q1), .second, .val (.int p2), .val (.int p3), .val (.int M), .val (.int (Int32.ofNat f)), .val (.long Wh), .second, .val (.long Pw), .second, .unset, .unset] [(.long (Wh - (Wh / Pw) * Pw)), (.long Pw)])) _
          refine XS.ladd X3.here hx rfl (hb hby at_75) rfl ?_
          show Steps p.tables e below (T3.setTop (mkF m 76 #[.val (.long q1), .second, .val (.int p2), .val (.int p3), .val (.int M), .val (.int (Int32.ofNat f)), .val (.long Wh), .second, .val (.long Pw), .second, .unset, .unset] [(.long (Pw + (Wh - (Wh / Pw) * Pw)))])) _
          refine XS.lstore X3.here hx rfl (hb hby at_76) rfl (l' := #[.val (.long q1), .second, .val (.int p2), .val (.int p3), .val (.int M), .val (.int (Int32.ofNat f)), .val (.long Wh), .second, .val (.long Pw), .second, .val (.long (Pw + (Wh - (Wh / Pw) * Pw))), .second]) rfl ?_
          show Steps p.tables e below (T3.setTop (mkF m 78 #[.val (.long q1), .second, .val (.int p2), .val (.int p3), .val (.int M), .val (.int (Int32.ofNat f)), .val (.long Wh), .second, .val (.long Pw), .second, .val (.long (Pw + (Wh - (Wh / Pw) * Pw))), .second] [])) _
          refine XS.lload X3.here hx rfl (hb hby at_78) rfl ?_
          show Steps p.tables e below (T3.setTop (mkF m 80 #[.val (.long q1), .second, .val (.int p2), .val (.int p3), .val (.int M), .val (.int (Int32.ofNat f)), .val (.long Wh), .second, .val (.long Pw), .second, .val (.long (Pw + (Wh - (Wh / Pw) * Pw))), .second] [(.long (Pw + (Wh - (Wh / Pw) * Pw)))])) _
          refine st5 _ ?_
          show Steps p.tables e below (T5.setTop (mkF m 83 #[.val (.long q1), .second, .val (.int p2), .val (.int p3), .val (.int M), .val (.int (Int32.ofNat f)), .val (.long Wh), .second, .val (.long Pw), .second, .val (.long (Pw + (Wh - (Wh / Pw) * Pw))), .second] [(.int ((1 : Int32) + Int32.ofNat (own_dig 19 (N / 10))))])) _
          refine XS.lload X5.here hx rfl (hb hby at_83) rfl ?_
          show Steps p.tables e below (T5.setTop (mkF m 85 #[.val (.long q1), .second, .val (.int p2), .val (.int p3), .val (.int M), .val (.int (Int32.ofNat f)), .val (.long Wh), .second, .val (.long Pw), .second, .val (.long (Pw + (Wh - (Wh / Pw) * Pw))), .second] [(.long (Pw + (Wh - (Wh / Pw) * Pw))), (.int ((1 : Int32) + Int32.ofNat (own_dig 19 (N / 10))))])) _
          refine st6 _ ?_
          show Steps p.tables e below (T6.setTop (mkF m 88 #[.val (.long q1), .second, .val (.int p2), .val (.int p3), .val (.int M), .val (.int (Int32.ofNat f)), .val (.long Wh), .second, .val (.long Pw), .second, .val (.long (Pw + (Wh - (Wh / Pw) * Pw))), .second] [(.int (own_F4 (Pw + (Wh - (Wh / Pw) * Pw)))), (.int ((1 : Int32) + Int32.ofNat (own_dig 19 (N / 10))))])) _
          refine XS.icmpNo X6.here hx rfl (hb hby at_88) rfl (teq (own_dlen hN)).2 ?_
          show Steps p.tables e below (T6.setTop (mkF m 91 #[.val (.long q1), .second, .val (.int p2), .val (.int p3), .val (.int M), .val (.int (Int32.ofNat f)), .val (.long Wh), .second, .val (.long Pw), .second, .val (.long (Pw + (Wh - (Wh / Pw) * Pw))), .second] [])) _
          refine XS.iconst X6.here hx rfl (hb hby at_91) ?_
          show Steps p.tables e below (T6.setTop (mkF m 92 #[.val (.long q1), .second, .val (.int p2), .val (.int p3), .val (.int M), .val (.int (Int32.ofNat f)), .val (.long Wh), .second, .val (.long Pw), .second, .val (.long (Pw + (Wh - (Wh / Pw) * Pw))), .second] [(.int (1 : Int32))])) _
          refine XS.goto X6.here hx rfl (pc0 := 92) (pc' := 96) rfl (hb hby at_92) (by decide) (by decide) ?_
          show Steps p.tables e below (T6.setTop (mkF m 96 #[.val (.long q1), .second, .val (.int p2), .val (.int p3), .val (.int M), .val (.int (Int32.ofNat f)), .val (.long Wh), .second, .val (.long Pw), .second, .val (.long (Pw + (Wh - (Wh / Pw) * Pw))), .second] [(.int (1 : Int32))])) _
          exact retN X6 hx (t := .boolean) Bd.returns (by simp) (hb hby at_96) hr
        · show Q0 Z q1 p2 p3 h0 n0 _ T6.heap _
          exact ⟨rfl, N6⟩
set_option maxRecDepth 65536 in
set_option maxHeartbeats 40000000 in
theorem comes_1 {Post : Tables → Env → Array Value → State → Outcome → State → Prop} (hpost : ∀ tb e args s v u, (limb_1_1.after args s (.returned v) u = true ∧ limb_1_2.after args s (.returned v) u = true ∧ True) → FrameEnd s (.returned v) u (Jvm.fieldLocs frame_1_writes args s ++ Jvm.arrayLocs frame_1_arrays args s ++ Jvm.staticLocs frame_1_statics s) 16 128 → Post tb e args s (.returned v) u) :
    ArmFor flags0 classFile x code maxLocals ret World_1 tables_1 room_1 Calls_1 rest_1 Pre_1 Post := by
  intro l hfl _ _ p e ha hc hk s m args below hf hA hF happ hP
  obtain ⟨hcalls, hrest, hpre⟩ := hP
  obtain ⟨-, -, -, hnamed, -, -, -, hat⟩ := (Spec.applies_iff hf).mp happ
  obtain ⟨hg, hn⟩ := and_e (Cond.before_iff.mp (show (Jvm.Cond.and given_1 narrow_1).before args s = true from hpre))
  obtain ⟨gc, r0⟩ := and_e hg
  obtain ⟨k0, r1⟩ := and_e r0
  obtain ⟨k1, r2⟩ := and_e r1
  obtain ⟨w0, w1, w2, rfl⟩ : ∃ w0 w1 w2 : Value, args = #[w0, w1, w2] := by
    have hs : args.size = 3 := by simpa [Cond.value, given_1] using gc
    obtain ⟨L⟩ := args
    match L, hs with
    | [w0, w1, w2], _ => exact ⟨w0, w1, w2, rfl⟩
  have hw := fun d (hd : d ∈ tables_1) => atoms_spec (ws := Jvm.Cond.code x code maxLocals ret :: tables_1) hat d (List.mem_cons_of_mem _ hd)
  obtain ⟨i0, ei0⟩ := isL_v k0
  obtain rfl : w0 = (.long i0) := Option.some.inj ei0
  obtain ⟨i1, ei1⟩ := is_v k1
  obtain rfl : w1 = (.int i1) := Option.some.inj ei1
  obtain ⟨i2, ei2⟩ := is_v r2
  obtain rfl : w2 = (.int i2) := Option.some.inj ei2
  obtain ⟨n, o, h1, h2, h3, _, L, rfl, ⟨rfl, N⟩, hq⟩ := rm0 l s _ hw tables_1 i0 i1 i2 s.heap s.heap.size (Nat.le_refl _) p e ha hc hk s m _ below hf ((Spec.applies_iff_loose hf).mp happ).1 ⟨rfl, State.Warmed39.refl s, rfl⟩ trivial
  refine ⟨n, _, h1, h2, h3, hpost _ _ _ _ _ _ ⟨Cond.after_iff.mpr rfl, Cond.after_iff.mpr (eq_i res_at (Term.int_eval (1)) rfl), trivial⟩ ⟨hq.1, hq.2.1, (hq.2.2.sift fun y hy => Or.inr (N y hy)).mono (by decide) (by decide)⟩⟩
theorem main_1_1 : Claimed_1_1 := comes_1 fun _ _ _ _ _ _ h hF => ⟨h.1, hF⟩
theorem main_1_2 : Claimed_1_2 := comes_1 fun _ _ _ _ _ _ h hF => ⟨h.2.1, hF⟩
end Jvm.Pilot.@@N@@
namespace Jvm.Pilot.@@N@@
open Jvm Jvm.ClassFile Sem Op Lib Jvm.Free Jvm.Stand Jvm.Pilot.@@N@@.Jvm.D
/-! MADE BY PROGRAM (witnessworld.py) out of the Statement's table words and the real class files: 12 classes; the members and pool entries that the words name. The judged class is class 1, her method 3. -/
namespace start1
open Jvm.ClassFile
def u (s : String) : CpInfo := .utf8 (stringToUtf16 s)
/-- a pool by its gaps: so many unusable entries, then the entry; so many at the end -/
def gap : Nat → List CpInfo → List CpInfo
  | 0, r => r
  | n + 1, r => .unusable :: gap n r
def poolList (es : List (Nat × CpInfo)) (last : Nat) : List CpInfo := es.foldr (fun e r => gap e.1 (e.2 :: r)) (gap last [])
def pool (es : List (Nat × CpInfo)) (last : Nat) : Array CpInfo := ⟨poolList es last⟩
def fileOf (pool : Array CpInfo) (this : Nat) (attrs : Array Attribute := #[]) (ms : Array MethodInfo := #[]) (fl : Nat := 33) (sup : Nat := 0) (ifs : Array Nat := #[]) (fds : Array FieldInfo := #[]) : ClassFile where
  minorVersion := 0
  majorVersion := 65
  constantPool := pool
  accessFlags := fl
  thisClass := this
  superClass := sup
  interfaces := ifs
  fields := fds
  methods := ms
  attributes := attrs
def plain (name : String) (sup : Option ClassId) : Class where
  name := name
  kind := .ordinary
  loader := none
  accessFlags := 33
  super := sup
  interfaces := #[]
  cf := none
  fields := #[]
  methods := #[]
  instanceTypes := #[]
  staticTypes := #[]
  resolved := #[]
  callSites := []
  init := .initialized
  statics := none
  mirror := none

def pool0 : Array CpInfo := pool [(5, u "<init>"), (0, u "()V"), (1, .class_ 10), (1, u "java/lang/Object")] 113

def k0m0 : Method := { name := "<init>", desc := "()V", sig := { parameters := [], returnType := none }, accessFlags := 1, code := none }
/-- java/lang/Object -/
def k0 : Class := { plain "java/lang/Object" none with
  accessFlags := 33
  interfaces := #[]
  cf := some (fileOf pool0 8 #[] #[{ accessFlags := 1, nameIndex := 5, descriptorIndex := 6, attributes := #[] }] 33 0 #[] #[])
  fields := #[]
  methods := #[k0m0]
  instanceTypes := #[]
  staticTypes := #[]
  resolved := Array.replicate 124 none
  statics := none }

def pool1 : Array CpInfo := pool [(2, .class_ 4), (1, u "java/lang/Object"), (0, u "<init>"), (0, u "()V"), (0, .long 10), (1, .long 100), (1, .long 1000), (1, .long 10000), (1, .long 100000), (1, .long 1000000), (1, .long 10000000), (1, .long 100000000), (1, .long 1000000000), (1, .long 10000000000), (1, .long 100000000000), (1, .long 1000000000000), (1, .long 10000000000000), (1, .long 100000000000000), (1, .long 1000000000000000), (1, .long 10000000000000000), (1, .long 100000000000000000), (1, .long 1000000000000000000), (1, .integer 2147483647), (2, .long 9223372036854775807), (1, .methodref 49 50), (0, .class_ 51), (0, .nameAndType 52 53), (0, u "com/example/tailwire/tailwire/http/ResponseDecimalLengthPinLaw"), (0, u "pow"), (0, u "(I)J"), (0, .methodref 55 56), (0, .class_ 57), (0, .nameAndType 58 59), (0, u "com/example/tailwire/tailwire/http/Response"), (0, u "decimalLength"), (0, u "(J)I"), (0, .methodref 49 61), (0, .nameAndType 62 59), (0, u "digits"), (3, u "law"), (0, u "(JII)Z")] 2

def k1m0 : Method := { name := "<init>", desc := "()V", sig := { parameters := [], returnType := none }, accessFlags := 2, code := none }
def k1c1 : Code := { maxStack := 5, maxLocals := 2, code := method_2_code, exceptionTable := #[], attributes := #[] }
def k1m1 : Method := { name := "pow", desc := "(I)J", sig := { parameters := [.int], returnType := some .long }, accessFlags := 10, code := some k1c1 }
def k1c2 : Code := { maxStack := 4, maxLocals := 2, code := method_3_code, exceptionTable := #[], attributes := #[] }
def k1m2 : Method := { name := "digits", desc := "(J)I", sig := { parameters := [.long], returnType := some .int }, accessFlags := 10, code := some k1c2 }
def k1c3 : Code := { maxStack := 6, maxLocals := 12, code := code, exceptionTable := #[], attributes := #[] }
def k1m3 : Method := { name := "law", desc := "(JII)Z", sig := { parameters := [.long, .int, .int], returnType := some .boolean }, accessFlags := 9, code := some k1c3 }
/-- com/example/tailwire/tailwire/http/ResponseDecimalLengthPinLaw -/
def k1 : Class := { plain "com/example/tailwire/tailwire/http/ResponseDecimalLengthPinLaw" (some 0) with
  accessFlags := 49
  interfaces := #[]
  cf := some (fileOf pool1 49 #[] #[{ accessFlags := 2, nameIndex := 5, descriptorIndex := 6, attributes := #[] }, { accessFlags := 10, nameIndex := 52, descriptorIndex := 53, attributes := #[] }, { accessFlags := 10, nameIndex := 62, descriptorIndex := 59, attributes := #[] }, { accessFlags := 9, nameIndex := 66, descriptorIndex := 67, attributes := #[] }] 49 2 #[] #[])
  fields := #[]
  methods := #[k1m0, k1m1, k1m2, k1m3]
  instanceTypes := #[]
  staticTypes := #[]
  resolved := Array.replicate 70 none
  statics := none }

def pool2 : Array CpInfo := pool [(1, .class_ 2), (0, u "com/example/tailwire/tailwire/server/ReplyBuffer$Part"), (0, .class_ 4), (0, u "java/lang/Object"), (17, .class_ 23), (0, u "com/example/tailwire/tailwire/server/ReplyBuffer")] 2

/-- com/example/tailwire/tailwire/server/ReplyBuffer$Part -/
def k2 : Class := { plain "com/example/tailwire/tailwire/server/ReplyBuffer$Part" (some 0) with
  accessFlags := 1537
  interfaces := #[]
  cf := some (fileOf pool2 1 #[.nestHost 22] #[] 1537 3 #[] #[])
  fields := #[]
  methods := #[]
  instanceTypes := #[]
  staticTypes := #[]
  resolved := Array.replicate 26 none
  statics := none }

def pool3 : Array CpInfo := pool [(2, .class_ 4), (1, u "java/lang/Object"), (2, .class_ 8), (0, u "com/example/tailwire/tailwire/http/Response"), (4, u "names"), (0, u "[Lcom/example/tailwire/tailwire/http/ResponseField;"), (2, u "values"), (0, u "[Ljava/lang/Object;"), (2, u "NO_BODY"), (0, u "[B"), (2, u "body"), (2, u "status"), (0, u "Lcom/example/tailwire/tailwire/http/Status;"), (26, u "length"), (31, u "decimalLength"), (0, u "(J)I"), (19, u "J"), (2, u "records"), (0, u "Lcom/example/tailwire/tailwire/http/RecordsBody;"), (2, u "dateField"), (2, u "connectionField"), (6, u "sendsBody"), (0, u "Z"), (8, u "LINE_END"), (2, u "fieldsLength"), (0, u "I"), (2, u "size"), (12, u "sent"), (2, u "framed"), (20, u "fieldCount"), (30, .long 10), (15, .class_ 228), (0, u "com/example/tailwire/tailwire/server/ReplyBuffer$Part"), (0, u "FIELDS_MOST"), (2, u "HELD"), (1, u "FIELDS_HELD")] 38

def k3c0 : Code := { maxStack := 4, maxLocals := 5, code := prog_97_method_19_code, exceptionTable := #[], attributes := #[] }
def k3m0 : Method := { name := "decimalLength", desc := "(J)I", sig := { parameters := [.long], returnType := some .int }, accessFlags := 8, code := some k3c0 }
/-- com/example/tailwire/tailwire/http/Response -/
def k3 : Class := { plain "com/example/tailwire/tailwire/http/Response" (some 0) with
  accessFlags := 48
  interfaces := #[2]
  cf := some (fileOf pool3 7 #[] #[{ accessFlags := 8, nameIndex := 88, descriptorIndex := 89, attributes := #[] }] 48 2 #[227] #[{ accessFlags := 26, nameIndex := 21, descriptorIndex := 22, attributes := #[] }, { accessFlags := 26, nameIndex := 136, descriptorIndex := 22, attributes := #[] }, { accessFlags := 26, nameIndex := 229, descriptorIndex := 140, attributes := #[] }, { accessFlags := 26, nameIndex := 232, descriptorIndex := 140, attributes := #[] }, { accessFlags := 26, nameIndex := 234, descriptorIndex := 140, attributes := #[] }, { accessFlags := 18, nameIndex := 28, descriptorIndex := 29, attributes := #[] }, { accessFlags := 2, nameIndex := 13, descriptorIndex := 14, attributes := #[] }, { accessFlags := 2, nameIndex := 17, descriptorIndex := 18, attributes := #[] }, { accessFlags := 2, nameIndex := 180, descriptorIndex := 140, attributes := #[] }, { accessFlags := 2, nameIndex := 139, descriptorIndex := 140, attributes := #[] }, { accessFlags := 2, nameIndex := 25, descriptorIndex := 22, attributes := #[] }, { accessFlags := 2, nameIndex := 112, descriptorIndex := 113, attributes := #[] }, { accessFlags := 2, nameIndex := 56, descriptorIndex := 109, attributes := #[] }, { accessFlags := 2, nameIndex := 116, descriptorIndex := 22, attributes := #[] }, { accessFlags := 2, nameIndex := 119, descriptorIndex := 22, attributes := #[] }, { accessFlags := 2, nameIndex := 126, descriptorIndex := 127, attributes := #[] }, { accessFlags := 2, nameIndex := 143, descriptorIndex := 140, attributes := #[] }, { accessFlags := 2, nameIndex := 159, descriptorIndex := 22, attributes := #[] }, { accessFlags := 2, nameIndex := 156, descriptorIndex := 140, attributes := #[] }])
  fields := #[{ name := "NO_BODY", type := (.array .byte), accessFlags := 26, slot := 0, constantValue := 0 }, { name := "LINE_END", type := (.array .byte), accessFlags := 26, slot := 1, constantValue := 0 }, { name := "FIELDS_MOST", type := .int, accessFlags := 26, slot := 2, constantValue := 0 }, { name := "HELD", type := .int, accessFlags := 26, slot := 3, constantValue := 0 }, { name := "FIELDS_HELD", type := .int, accessFlags := 26, slot := 4, constantValue := 0 }, { name := "status", type := (.object "com/example/tailwire/tailwire/http/Status"), accessFlags := 18, slot := 0, constantValue := 0 }, { name := "names", type := (.array (.object "com/example/tailwire/tailwire/http/ResponseField")), accessFlags := 2, slot := 1, constantValue := 0 }, { name := "values", type := (.array (.object "java/lang/Object")), accessFlags := 2, slot := 2, constantValue := 0 }, { name := "fieldCount", type := .int, accessFlags := 2, slot := 3, constantValue := 0 }, { name := "fieldsLength", type := .int, accessFlags := 2, slot := 4, constantValue := 0 }, { name := "body", type := (.array .byte), accessFlags := 2, slot := 5, constantValue := 0 }, { name := "records", type := (.object "com/example/tailwire/tailwire/http/RecordsBody"), accessFlags := 2, slot := 6, constantValue := 0 }, { name := "length", type := .long, accessFlags := 2, slot := 7, constantValue := 0 }, { name := "dateField", type := (.array .byte), accessFlags := 2, slot := 8, constantValue := 0 }, { name := "connectionField", type := (.array .byte), accessFlags := 2, slot := 9, constantValue := 0 }, { name := "sendsBody", type := .boolean, accessFlags := 2, slot := 10, constantValue := 0 }, { name := "size", type := .int, accessFlags := 2, slot := 11, constantValue := 0 }, { name := "framed", type := (.array .byte), accessFlags := 2, slot := 12, constantValue := 0 }, { name := "sent", type := .int, accessFlags := 2, slot := 13, constantValue := 0 }]
  methods := #[k3m0]
  instanceTypes := #[(.object "com/example/tailwire/tailwire/http/Status"), (.array (.object "com/example/tailwire/tailwire/http/ResponseField")), (.array (.object "java/lang/Object")), .int, .int, (.array .byte), (.object "com/example/tailwire/tailwire/http/RecordsBody"), .long, (.array .byte), (.array .byte), .boolean, .int, (.array .byte), .int]
  staticTypes := #[(.array .byte), (.array .byte), .int, .int, .int]
  resolved := Array.replicate 273 none
  statics := none }

def pool4 : Array CpInfo := pool [(1, u "java/lang/Cloneable"), (0, .class_ 1), (0, u "java/lang/Object"), (0, .class_ 3)] 3

/-- java/lang/Cloneable -/
def k4 : Class := { plain "java/lang/Cloneable" (some 0) with
  accessFlags := 1537
  interfaces := #[]
  cf := some (fileOf pool4 2 #[] #[] 1537 4 #[] #[])
  fields := #[]
  methods := #[]
  instanceTypes := #[]
  staticTypes := #[]
  resolved := Array.replicate 8 none
  statics := none }

def pool5 : Array CpInfo := pool [(1, u "java/io/Serializable"), (0, .class_ 1), (0, u "java/lang/Object"), (0, .class_ 3)] 3

/-- java/io/Serializable -/
def k5 : Class := { plain "java/io/Serializable" (some 0) with
  accessFlags := 1537
  interfaces := #[]
  cf := some (fileOf pool5 2 #[] #[] 1537 4 #[] #[])
  fields := #[]
  methods := #[]
  instanceTypes := #[]
  staticTypes := #[]
  resolved := Array.replicate 8 none
  statics := none }

/-- the primitive byte -/
def k6 : Class := { plain "byte" none with kind := .primitive 'B', accessFlags := 0x411 }
/-- [B -/
def k7 : Class := { plain "[B" (some 0) with kind := .array 6 .byte, interfaces := #[4, 5], accessFlags := 1041 }

/-- the primitive int -/
def k8 : Class := { plain "int" none with kind := .primitive 'I', accessFlags := 0x411 }
/-- [I -/
def k9 : Class := { plain "[I" (some 0) with kind := .array 8 .int, interfaces := #[4, 5], accessFlags := 1041 }

/-- the primitive long -/
def k10 : Class := { plain "long" none with kind := .primitive 'J', accessFlags := 0x411 }
/-- [J -/
def k11 : Class := { plain "[J" (some 0) with kind := .array 10 .long, interfaces := #[4, 5], accessFlags := 1041 }

def heap : Heap := #[]
def classes : Array Class := #[k0, k1, k2, k3, k4, k5, k6, k7, k8, k9, k10, k11]
def interned : List (Array UInt16 × Addr) := []
def slotsUsed : Nat := 0
def theMethod : MethodId := ⟨1, 3⟩
def args0 : Array Value := #[.long 12345, .int 3, .int 0]
def aboutOver (below : List Frame) : State where
  vm := { classes := classes, interned := interned.toArray }
  heap := heap
  slotsUsed := slotsUsed
  threads := #[{ frames := .invoking theMethod args0 :: below }]
def below0 : List Frame := [.native { method := ⟨0, 0⟩, args := #[] }]
def about1 : State := aboutOver below0
def p0 : Program := .bare "" "" ""
def e0 : Env := launch0.env 0 0 0
theorem w_frames : about1.frames = Frame.invoking theMethod args0 :: below0 := rfl
set_option maxRecDepth 65536 in
theorem w_args : argsFit about1.vm theMethod args0 = true := by decide +kernel
set_option maxRecDepth 65536 in
theorem w_heap : heapFits about1 = true := by decide +kernel
set_option maxRecDepth 65536 in
theorem w_runnable : about1.curStatus? = some .runnable := by decide +kernel
set_option maxRecDepth 65536 in
theorem w_alone : about1.alone = true := by decide +kernel
set_option maxRecDepth 65536 in
theorem w_named : about1.methodNamed? x = some theMethod := by decide +kernel
set_option maxRecDepth 65536 in
theorem w_hears : about1.hears theMethod below0 = true := by decide +kernel
set_option maxRecDepth 65536 in
theorem w_ripe : about1.ripe theMethod args0 below0 = true := by decide +kernel
theorem w_running : about1.status = .running := rfl
set_option maxRecDepth 65536 in
theorem w_room : about1.hasRoom e0.platform room_1 = true :=
  launch0.hasRoom_least _ room_1 (by decide +kernel) (by decide +kernel) (by decide +kernel) (by decide +kernel) (by decide +kernel) (by decide +kernel)
theorem allAtoms_all (ts : List Jvm.Cond) (a : Array Jvm.Value) (st : Jvm.State) : (allAtoms ts).before a st = ts.all (fun c => c.before a st) := by
  induction ts with
  | nil => rfl
  | cons c t ih =>
    show (Jvm.Cond.and c (allAtoms t)).before a st = _
    rw [Jvm.Cond.before_and, ih, List.all_cons]
def words1 : List Jvm.Cond := Jvm.Cond.code x code maxLocals ret :: tables_1
/-- a 'code' word, met by the world's own term for the bytes: nothing is compared byte by byte -/
theorem code_word {y : MethodName} {bytes : ByteArray} {mx : Nat} {rt : Option FieldType} {a : Array Value} {s : State} {m : MethodId} {meth : Method} {c : Code} (h1 : s.methodNamed? y = some m) (h2 : s.vm.method? m = some meth) (h3 : meth.code = some c) (h4 : c.code = bytes)
    (h5 : (c.maxLocals == mx && c.exceptionTable.isEmpty && decide (c.maxStack ≤ mostOperands) && decide (meth.sig.returnType = rt) && !meth.locks && decide (parseMethodDescriptor y.desc = some meth.sig)) = true) : (Jvm.Cond.code y bytes mx rt).before a s = true := by
  simp only [Bool.and_eq_true, beq_iff_eq, Bool.not_eq_true', decide_eq_true_eq] at h5
  obtain ⟨⟨⟨⟨⟨g1, g2⟩, g3⟩, g4⟩, g5⟩, g6⟩ := h5
  simp [Cond.before, Cond.holds, Cond.value, h1, h2, h3, h4, g1, g2, g3, g4, g5, g6]
def isCode : Jvm.Cond → Bool
  | .code _ _ _ _ => true
  | _ => false
theorem all_split {L : List Jvm.Cond} {P : Jvm.Cond → Bool} (h1 : L.all (fun c => isCode c || P c) = true) (h2 : ∀ c ∈ L.filter isCode, P c = true) : L.all P = true := by
  refine List.all_eq_true.mpr fun c hc => ?_
  have h := List.all_eq_true.mp h1 c hc
  rcases Bool.eq_false_or_eq_true (isCode c) with hi | hi
  · exact h2 c (List.mem_filter.mpr ⟨hc, hi⟩)
  · simpa [hi] using h
set_option maxRecDepth 65536 in
theorem w_c0 : (Jvm.Cond.code x code maxLocals ret).before args0 about1 = true := code_word (m := ⟨1, 3⟩) (meth := k1m3) (c := k1c3) (by decide +kernel) rfl rfl rfl (by decide +kernel)
set_option maxRecDepth 65536 in
theorem w_c1 : (Jvm.Cond.code ({ cls := "com/example/tailwire/tailwire/http/ResponseDecimalLengthPinLaw", name := "pow", desc := "(I)J" } : Jvm.MethodName) method_2_code (2 : Nat) (Option.some Jvm.ClassFile.FieldType.long)).before args0 about1 = true := code_word (m := ⟨1, 1⟩) (meth := k1m1) (c := k1c1) (by decide +kernel) rfl rfl rfl (by decide +kernel)
set_option maxRecDepth 65536 in
theorem w_c2 : (Jvm.Cond.code ({ cls := "com/example/tailwire/tailwire/http/Response", name := "decimalLength", desc := "(J)I" } : Jvm.MethodName) prog_97_method_19_code (5 : Nat) (Option.some Jvm.ClassFile.FieldType.int)).before args0 about1 = true := code_word (m := ⟨3, 0⟩) (meth := k3m0) (c := k3c0) (by decide +kernel) rfl rfl rfl (by decide +kernel)
set_option maxRecDepth 65536 in
theorem w_c3 : (Jvm.Cond.code ({ cls := "com/example/tailwire/tailwire/http/ResponseDecimalLengthPinLaw", name := "digits", desc := "(J)I" } : Jvm.MethodName) method_3_code (2 : Nat) (Option.some Jvm.ClassFile.FieldType.int)).before args0 about1 = true := code_word (m := ⟨1, 2⟩) (meth := k1m2) (c := k1c2) (by decide +kernel) rfl rfl rfl (by decide +kernel)
def codes1 : List Jvm.Cond := [Jvm.Cond.code x code maxLocals ret, Jvm.Cond.code ({ cls := "com/example/tailwire/tailwire/http/ResponseDecimalLengthPinLaw", name := "pow", desc := "(I)J" } : Jvm.MethodName) method_2_code (2 : Nat) (Option.some Jvm.ClassFile.FieldType.long), Jvm.Cond.code ({ cls := "com/example/tailwire/tailwire/http/Response", name := "decimalLength", desc := "(J)I" } : Jvm.MethodName) prog_97_method_19_code (5 : Nat) (Option.some Jvm.ClassFile.FieldType.int), Jvm.Cond.code ({ cls := "com/example/tailwire/tailwire/http/ResponseDecimalLengthPinLaw", name := "digits", desc := "(J)I" } : Jvm.MethodName) method_3_code (2 : Nat) (Option.some Jvm.ClassFile.FieldType.int)]
set_option maxRecDepth 65536 in
theorem codes_eq : words1.filter isCode = codes1 := rfl
theorem w_codes : ∀ c ∈ words1.filter isCode, c.before args0 about1 = true := by
  rw [codes_eq]
  intro c hc
  simp only [codes1, List.mem_cons, List.not_mem_nil, or_false] at hc
  rcases hc with rfl | rfl | rfl | rfl
  · exact w_c0
  · exact w_c1
  · exact w_c2
  · exact w_c3
set_option maxRecDepth 65536 in
theorem w_t1 : (words1.take 24).all (fun c => isCode c || c.before args0 about1) = true := by decide +kernel
set_option maxRecDepth 65536 in
theorem w_t2 : (words1.drop 24).all (fun c => isCode c || c.before args0 about1) = true := by decide +kernel
theorem w_tables : (allAtoms (Jvm.Cond.code x code maxLocals ret :: tables_1)).before args0 about1 = true := by
  rw [allAtoms_all]
  show words1.all (fun c => c.before args0 about1) = true
  refine all_split ?_ w_codes
  rw [← List.take_append_drop 24 words1, List.all_append, w_t1, w_t2]
  rfl
set_option maxRecDepth 65536 in
theorem w_case : (Jvm.Cond.and given_1 narrow_1).before args0 about1 = true := by decide +kernel
theorem w_applies : (headSpec (Jvm.Cond.code x code maxLocals ret :: tables_1) room_1).applies x e0.platform about1 = true :=
  (Spec.applies_iff w_frames).mpr ⟨w_running, w_runnable, w_alone, w_named, w_hears, w_ripe, w_room, w_tables⟩
theorem atStart : AtStart classFile x code maxLocals ret World_1 tables_1 room_1 Calls_1 rest_1 Pre_1 launch0 p0 e0 about1 theMethod args0 below0 :=
  ⟨lists_1, trivial, launch0.admits_env _ _ _, launch0.least_env, fairChoices_fair.cas, fairChoices_fair.clock, w_frames, w_args, w_heap, w_applies, trivial, trivial, w_case⟩
end start1
theorem witness_1 : WitnessClaimed_1 := ⟨start1.p0, start1.e0, start1.about1, start1.theMethod, start1.args0, start1.below0, start1.atStart⟩
end Jvm.Pilot.@@N@@
