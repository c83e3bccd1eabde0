import JvmDerived
import JvmDerived.Pilot.@@N@@Statement
import JvmDerived.Pilot.@@N@@Code
set_option linter.unusedVariables false
set_option linter.unusedSimpArgs false
namespace Jvm.RoadKit
open Sem ClassFile Op Lib Jvm.Stand Jvm.Free Jvm.LawKit
section New
variable {p : Program} {l : Launch} {e : Env} {R : Room} {s : State} {m : MethodId} {args : Array Value} {below : List Frame} {meth : Method} {c : Code} {T : State} {locs : List Loc} {cells slots : Nat}
theorem retI (X : Stand p l e R s m args below meth c T locs cells slots) (hx : p.tables.exec = Jvm.exec) {pc : Nat} {Ls : Array Slot} {z : Int32} {rest : List Value} (hret : meth.sig.returnType = some .int) (hd : decode c.code pc = .ok (.ireturn, 1)) {fs : List Frame}
    (hl : ∀ (f : JFrame) (acts : List Action), f.method = m → f.locked = none → f.entered = [] → (doReturn e (T.setTop f) acts (some (.int z))).1 = T.setFrames fs) : Steps p.tables e below (T.setTop (mkF m pc Ls (.int z :: rest))) (T.setFrames fs) := by
  have hm' : T.vm.method? m = some meth := X.method'
  have hn : narrow .int (.int z) = .int z := rfl
  show Steps p.tables e below (T.setTop { method := m, pc := pc, locals := Ls, stack := _ :: rest, locked := none }) _
  jvm_step X.here [X.here.top, hx, hd, hm', hret, hn]
  first | (intro acts; rw [hl _ acts rfl rfl rfl]) | rw [hl _ _ rfl rfl rfl]
  exact Steps.refl _
end New
end Jvm.RoadKit
namespace Jvm.Pilot.@@N@@
open Jvm Jvm.ClassFile Sem Op Lib Jvm.Free Jvm.Stand Jvm.LawKit Jvm.RoadKit Bundle Jvm.Pilot.@@N@@.Jvm.D
def own_f2 (x : Int32) : Int32 := if x = (44 : Int32) ∨ x = (91 : Int32) ∨ x = (93 : Int32) ∨ x = (123 : Int32) ∨ x = (125 : Int32) then 1 else 0
/-- a place of an array of ints holds an int -/
theorem own_at {Z : State} {h : Heap} {a : Addr} {c : Cell} {vs : List Value} {d : Value} {j : Int32} (H : Has c vs d) (G : ∀ i, i < c.slots.size → fits .int (vs.getD i d) = true) (q : ¬ (j < 0 ∨ c.slots.size ≤ j.toNatClampNeg)) : ∃ w, c.slots[j.toNatClampNeg]? = some (.int w) := by
  have hlt : j.toNatClampNeg < c.slots.size := Nat.lt_of_not_le fun y => q (Or.inr y)
  have g := G _ hlt
  have e := H _ hlt
  obtain ⟨w, hw⟩ := fit_I g (by simp)
  exact ⟨w, by rw [e, hw]⟩
theorem own_nn (k : Int32) : ¬ ((k &&& (31 : Int32)) < (0 : Int32)) := by
  have e := (c_and k 31 (by decide)).1
  have k0 : (0 : Int32).toInt = 0 := by decide
  rw [Int32.lt_iff_toInt_lt, k0]
  omega
theorem d1_0 : decode method_3_code 0 = .ok (.bipush 28, 2) := by decide +kernel
theorem d1_2 : decode method_3_code 2 = .ok (.newarray .int, 2) := by decide +kernel
theorem d1_4 : decode method_3_code 4 = .ok (.dup, 1) := by decide +kernel
theorem d1_5 : decode method_3_code 5 = .ok (.iconst 0, 1) := by decide +kernel
theorem d1_6 : decode method_3_code 6 = .ok (.bipush 44, 2) := by decide +kernel
theorem d1_8 : decode method_3_code 8 = .ok (.iastore, 1) := by decide +kernel
theorem d1_9 : decode method_3_code 9 = .ok (.dup, 1) := by decide +kernel
theorem d1_10 : decode method_3_code 10 = .ok (.iconst 1, 1) := by decide +kernel
theorem d1_11 : decode method_3_code 11 = .ok (.bipush 43, 2) := by decide +kernel
theorem d1_13 : decode method_3_code 13 = .ok (.iastore, 1) := by decide +kernel
theorem d1_14 : decode method_3_code 14 = .ok (.dup, 1) := by decide +kernel
theorem d1_15 : decode method_3_code 15 = .ok (.iconst 2, 1) := by decide +kernel
theorem d1_16 : decode method_3_code 16 = .ok (.bipush 45, 2) := by decide +kernel
theorem d1_18 : decode method_3_code 18 = .ok (.iastore, 1) := by decide +kernel
theorem d1_19 : decode method_3_code 19 = .ok (.dup, 1) := by decide +kernel
theorem d1_20 : decode method_3_code 20 = .ok (.iconst 3, 1) := by decide +kernel
theorem d1_21 : decode method_3_code 21 = .ok (.bipush 91, 2) := by decide +kernel
theorem d1_23 : decode method_3_code 23 = .ok (.iastore, 1) := by decide +kernel
theorem d1_24 : decode method_3_code 24 = .ok (.dup, 1) := by decide +kernel
theorem d1_25 : decode method_3_code 25 = .ok (.iconst 4, 1) := by decide +kernel
theorem d1_26 : decode method_3_code 26 = .ok (.bipush 90, 2) := by decide +kernel
theorem d1_28 : decode method_3_code 28 = .ok (.iastore, 1) := by decide +kernel
theorem d1_29 : decode method_3_code 29 = .ok (.dup, 1) := by decide +kernel
theorem d1_30 : decode method_3_code 30 = .ok (.iconst 5, 1) := by decide +kernel
theorem d1_31 : decode method_3_code 31 = .ok (.bipush 92, 2) := by decide +kernel
theorem d1_33 : decode method_3_code 33 = .ok (.iastore, 1) := by decide +kernel
theorem d1_34 : decode method_3_code 34 = .ok (.dup, 1) := by decide +kernel
theorem d1_35 : decode method_3_code 35 = .ok (.bipush 6, 2) := by decide +kernel
theorem d1_37 : decode method_3_code 37 = .ok (.bipush 93, 2) := by decide +kernel
theorem d1_39 : decode method_3_code 39 = .ok (.iastore, 1) := by decide +kernel
theorem d1_40 : decode method_3_code 40 = .ok (.dup, 1) := by decide +kernel
theorem d1_41 : decode method_3_code 41 = .ok (.bipush 7, 2) := by decide +kernel
theorem d1_43 : decode method_3_code 43 = .ok (.bipush 94, 2) := by decide +kernel
theorem d1_45 : decode method_3_code 45 = .ok (.iastore, 1) := by decide +kernel
theorem d1_46 : decode method_3_code 46 = .ok (.dup, 1) := by decide +kernel
theorem d1_47 : decode method_3_code 47 = .ok (.bipush 8, 2) := by decide +kernel
theorem d1_49 : decode method_3_code 49 = .ok (.bipush 123, 2) := by decide +kernel
theorem d1_51 : decode method_3_code 51 = .ok (.iastore, 1) := by decide +kernel
theorem d1_52 : decode method_3_code 52 = .ok (.dup, 1) := by decide +kernel
theorem d1_53 : decode method_3_code 53 = .ok (.bipush 9, 2) := by decide +kernel
theorem d1_55 : decode method_3_code 55 = .ok (.bipush 122, 2) := by decide +kernel
theorem d1_57 : decode method_3_code 57 = .ok (.iastore, 1) := by decide +kernel
theorem d1_58 : decode method_3_code 58 = .ok (.dup, 1) := by decide +kernel
theorem d1_59 : decode method_3_code 59 = .ok (.bipush 10, 2) := by decide +kernel
theorem d1_61 : decode method_3_code 61 = .ok (.bipush 124, 2) := by decide +kernel
theorem d1_63 : decode method_3_code 63 = .ok (.iastore, 1) := by decide +kernel
theorem d1_64 : decode method_3_code 64 = .ok (.dup, 1) := by decide +kernel
theorem d1_65 : decode method_3_code 65 = .ok (.bipush 11, 2) := by decide +kernel
theorem d1_67 : decode method_3_code 67 = .ok (.bipush 125, 2) := by decide +kernel
theorem d1_69 : decode method_3_code 69 = .ok (.iastore, 1) := by decide +kernel
theorem d1_70 : decode method_3_code 70 = .ok (.dup, 1) := by decide +kernel
theorem d1_71 : decode method_3_code 71 = .ok (.bipush 12, 2) := by decide +kernel
theorem d1_73 : decode method_3_code 73 = .ok (.bipush 126, 2) := by decide +kernel
theorem d1_75 : decode method_3_code 75 = .ok (.iastore, 1) := by decide +kernel
theorem d1_76 : decode method_3_code 76 = .ok (.dup, 1) := by decide +kernel
theorem d1_77 : decode method_3_code 77 = .ok (.bipush 13, 2) := by decide +kernel
theorem d1_79 : decode method_3_code 79 = .ok (.iconst (-1), 1) := by decide +kernel
theorem d1_80 : decode method_3_code 80 = .ok (.iastore, 1) := by decide +kernel
theorem d1_81 : decode method_3_code 81 = .ok (.dup, 1) := by decide +kernel
theorem d1_82 : decode method_3_code 82 = .ok (.bipush 14, 2) := by decide +kernel
theorem d1_84 : decode method_3_code 84 = .ok (.bipush 10, 2) := by decide +kernel
theorem d1_86 : decode method_3_code 86 = .ok (.iastore, 1) := by decide +kernel
theorem d1_87 : decode method_3_code 87 = .ok (.dup, 1) := by decide +kernel
theorem d1_88 : decode method_3_code 88 = .ok (.bipush 15, 2) := by decide +kernel
theorem d1_90 : decode method_3_code 90 = .ok (.bipush 32, 2) := by decide +kernel
theorem d1_92 : decode method_3_code 92 = .ok (.iastore, 1) := by decide +kernel
theorem d1_93 : decode method_3_code 93 = .ok (.dup, 1) := by decide +kernel
theorem d1_94 : decode method_3_code 94 = .ok (.bipush 16, 2) := by decide +kernel
theorem d1_96 : decode method_3_code 96 = .ok (.bipush 9, 2) := by decide +kernel
theorem d1_98 : decode method_3_code 98 = .ok (.iastore, 1) := by decide +kernel
theorem d1_99 : decode method_3_code 99 = .ok (.dup, 1) := by decide +kernel
theorem d1_100 : decode method_3_code 100 = .ok (.bipush 17, 2) := by decide +kernel
theorem d1_102 : decode method_3_code 102 = .ok (.bipush 58, 2) := by decide +kernel
theorem d1_104 : decode method_3_code 104 = .ok (.iastore, 1) := by decide +kernel
theorem d1_105 : decode method_3_code 105 = .ok (.dup, 1) := by decide +kernel
theorem d1_106 : decode method_3_code 106 = .ok (.bipush 18, 2) := by decide +kernel
theorem d1_108 : decode method_3_code 108 = .ok (.bipush 35, 2) := by decide +kernel
theorem d1_110 : decode method_3_code 110 = .ok (.iastore, 1) := by decide +kernel
theorem d1_111 : decode method_3_code 111 = .ok (.dup, 1) := by decide +kernel
theorem d1_112 : decode method_3_code 112 = .ok (.bipush 19, 2) := by decide +kernel
theorem d1_114 : decode method_3_code 114 = .ok (.bipush 40, 2) := by decide +kernel
theorem d1_116 : decode method_3_code 116 = .ok (.iastore, 1) := by decide +kernel
theorem d1_117 : decode method_3_code 117 = .ok (.dup, 1) := by decide +kernel
theorem d1_118 : decode method_3_code 118 = .ok (.bipush 20, 2) := by decide +kernel
theorem d1_120 : decode method_3_code 120 = .ok (.bipush 41, 2) := by decide +kernel
theorem d1_122 : decode method_3_code 122 = .ok (.iastore, 1) := by decide +kernel
theorem d1_123 : decode method_3_code 123 = .ok (.dup, 1) := by decide +kernel
theorem d1_124 : decode method_3_code 124 = .ok (.bipush 21, 2) := by decide +kernel
theorem d1_126 : decode method_3_code 126 = .ok (.bipush 60, 2) := by decide +kernel
theorem d1_128 : decode method_3_code 128 = .ok (.iastore, 1) := by decide +kernel
theorem d1_129 : decode method_3_code 129 = .ok (.dup, 1) := by decide +kernel
theorem d1_130 : decode method_3_code 130 = .ok (.bipush 22, 2) := by decide +kernel
theorem d1_132 : decode method_3_code 132 = .ok (.bipush 62, 2) := by decide +kernel
theorem d1_134 : decode method_3_code 134 = .ok (.iastore, 1) := by decide +kernel
theorem d1_135 : decode method_3_code 135 = .ok (.dup, 1) := by decide +kernel
theorem d1_136 : decode method_3_code 136 = .ok (.bipush 23, 2) := by decide +kernel
theorem d1_138 : decode method_3_code 138 = .ok (.ldc 19, 2) := by decide +kernel
theorem d1_140 : decode method_3_code 140 = .ok (.iastore, 1) := by decide +kernel
theorem d1_141 : decode method_3_code 141 = .ok (.dup, 1) := by decide +kernel
theorem d1_142 : decode method_3_code 142 = .ok (.bipush 24, 2) := by decide +kernel
theorem d1_144 : decode method_3_code 144 = .ok (.ldc 20, 2) := by decide +kernel
theorem d1_146 : decode method_3_code 146 = .ok (.iastore, 1) := by decide +kernel
theorem d1_147 : decode method_3_code 147 = .ok (.dup, 1) := by decide +kernel
theorem d1_148 : decode method_3_code 148 = .ok (.bipush 25, 2) := by decide +kernel
theorem d1_150 : decode method_3_code 150 = .ok (.ldc 21, 2) := by decide +kernel
theorem d1_152 : decode method_3_code 152 = .ok (.iastore, 1) := by decide +kernel
theorem d1_153 : decode method_3_code 153 = .ok (.dup, 1) := by decide +kernel
theorem d1_154 : decode method_3_code 154 = .ok (.bipush 26, 2) := by decide +kernel
theorem d1_156 : decode method_3_code 156 = .ok (.ldc 22, 2) := by decide +kernel
theorem d1_158 : decode method_3_code 158 = .ok (.iastore, 1) := by decide +kernel
theorem d1_159 : decode method_3_code 159 = .ok (.dup, 1) := by decide +kernel
theorem d1_160 : decode method_3_code 160 = .ok (.bipush 27, 2) := by decide +kernel
theorem d1_162 : decode method_3_code 162 = .ok (.ldc 23, 2) := by decide +kernel
theorem d1_164 : decode method_3_code 164 = .ok (.iastore, 1) := by decide +kernel
theorem d1_165 : decode method_3_code 165 = .ok (.astore_n 2, 1) := by decide +kernel
theorem d1_166 : decode method_3_code 166 = .ok (.iload_n 1, 1) := by decide +kernel
theorem d1_167 : decode method_3_code 167 = .ok (.bipush 31, 2) := by decide +kernel
theorem d1_169 : decode method_3_code 169 = .ok (.iand, 1) := by decide +kernel
theorem d1_170 : decode method_3_code 170 = .ok (.istore_n 3, 1) := by decide +kernel
theorem d1_171 : decode method_3_code 171 = .ok (.iload_n 3, 1) := by decide +kernel
theorem d1_172 : decode method_3_code 172 = .ok (.aload_n 2, 1) := by decide +kernel
theorem d1_173 : decode method_3_code 173 = .ok (.arraylength, 1) := by decide +kernel
theorem d1_174 : decode method_3_code 174 = .ok (.if_icmp .ge 7, 3) := by decide +kernel
theorem d1_177 : decode method_3_code 177 = .ok (.aload_n 2, 1) := by decide +kernel
theorem d1_178 : decode method_3_code 178 = .ok (.iload_n 3, 1) := by decide +kernel
theorem d1_179 : decode method_3_code 179 = .ok (.iaload, 1) := by decide +kernel
theorem d1_180 : decode method_3_code 180 = .ok (.ireturn, 1) := by decide +kernel
theorem pn_1 : plainName "com/example/rolecall/rolecall/sources/YamlTextIsFlowIndicatorPinLaw" = true := by first | (simp [plainName, overriddenIn]; done) | decide +kernel
theorem ef_1 (m : MethodId) (x0 : Int32) (x1 : Int32) : entryFrame m #[(.int x0), (.int x1)] 4 = mkF m 0 #[.val (.int x0), .val (.int x1), .unset, .unset] [] := by first | (simp [entryFrame, mkF, argsToLocals, Value.category]; done) | rfl
theorem d1_181 : decode method_3_code 181 = .ok (.iload_n 0, 1) := by decide +kernel
theorem d1_182 : decode method_3_code 182 = .ok (.ireturn, 1) := by decide +kernel
def Q1 (Z : State) (p1 : Int32) (p2 : Int32) (h0 : Heap) (n0 : Nat) (v : Option Value) (h : Heap) (L : List Loc) : Prop := (∃ w : Int32, v = some (.int w)) ∧ Fr n0 L ∧ Keep h0 h []
set_option maxRecDepth 65536 in
set_option maxHeartbeats 40000000 in
theorem rm1 (l : Launch) (Z : State) (a0 : Array Value) (hw : ∀ d ∈ tables_1, d.before a0 Z = true) (ws : List Jvm.Cond) (p1 : Int32) (p2 : Int32) (h0 : Heap) (n0 : Nat) (Z0 : n0 ≤ h0.size) :
    MetFree l (⟨"com/example/rolecall/rolecall/sources/YamlTextIsFlowIndicatorPinLaw", "pick", "(II)I"⟩ : MethodName) (head1 (Jvm.Cond.code (⟨"com/example/rolecall/rolecall/sources/YamlTextIsFlowIndicatorPinLaw", "pick", "(II)I"⟩ : MethodName) method_3_code 4 (some .int) :: ws) ({ frames := 0, cells := 1, slots := 28, locals := 0 } : Room)) (fun a U => a = #[(.int p1), (.int p2)] ∧ Z.Warmed39 U.vm ∧ U.heap = h0) (fun _ _ _ _ _ => True) (fun _ U o U' => ∃ v L, o = .returned v ∧ Q1 Z p1 p2 h0 n0 v U'.heap L ∧ FrameEnd U o U' L ({ frames := 0, cells := 1, slots := 28, locals := 0 } : Room).cells ({ frames := 0, cells := 1, slots := 28, locals := 0 } : Room).slots) := by
  refine MetFree.of_bodySF (plainFor_of_name pn_1) hisR ?_
  intro p e s m args below meth c s₁ Bd hml0 hP hK
  obtain ⟨rfl, hZ, hh⟩ := hP
  have hx := Bd.exec
  have hby := Bd.bytes
  have hml : c.maxLocals = 4 := hml0
  have hown : s.vm.findClass "com/example/rolecall/rolecall/sources/YamlTextIsFlowIndicatorPinLaw" = some m.cls := findClass_of_methodNamed Bd.named
  have hnm := (name_of_methodNamed Bd.named Bd.method).1
  have X0 : Stand p l e ({ frames := 0, cells := 1, slots := 28, locals := 0 } : Room) s m #[(.int p1), (.int p2)] below meth c s₁ [] 0 0 := Stand.of_body Bd
  have e0 : s₁.heap = h0 := by rw [← hh, Bd.state]; rfl
  have N0 := Fr.nil n0
  have pre0 : ∀ t, Steps p.tables e below (s₁.setTop (mkF m 0 #[.val (.int p1), .val (.int p2), .unset, .unset] [])) t → Steps p.tables e below (s₁.setTop (entryFrame m #[(.int p1), (.int p2)] 4)) t := fun t k => castTop (ef_1 m p1 p2) k
  obtain ⟨T3, h3, k3, X3, e3, E3, A3, st3⟩ := newP X0 hx hZ (hw _ (List.mem_of_getElem? (i := 4) rfl)) e0 (g := (mkF m 2 #[.val (.int p1), .val (.int p2), .unset, .unset] [(.int (28 : Int32))])) rfl (hb hby d1_2) rfl (by decide) (cap := 28) (by decide) (by decide) (by decide) (by decide)
  obtain ⟨b3, g3⟩ : ∃ z, z = h0.size := ⟨_, rfl⟩      -- the fresh array's address
  rw [← g3] at A3 st3
  have V_b3 : Arv Z h3 b3 k3 .int (28 : Int32) [(.int (0 : Int32)), (.int (0 : Int32)), (.int (0 : Int32)), (.int (0 : Int32)), (.int (0 : Int32)), (.int (0 : Int32)), (.int (0 : Int32)), (.int (0 : Int32)), (.int (0 : Int32)), (.int (0 : Int32)), (.int (0 : Int32)), (.int (0 : Int32)), (.int (0 : Int32)), (.int (0 : Int32)), (.int (0 : Int32)), (.int (0 : Int32)), (.int (0 : Int32)), (.int (0 : Int32)), (.int (0 : Int32)), (.int (0 : Int32)), (.int (0 : Int32)), (.int (0 : Int32)), (.int (0 : Int32)), (.int (0 : Int32)), (.int (0 : Int32)), (.int (0 : Int32)), (.int (0 : Int32)), (.int (0 : Int32))] (.int (0 : Int32)) := (Arv.new A3 (by decide)).pad (pad_rep [] (.int (0 : Int32)) 28)
  have g_b3 : n0 ≤ b3 := Nat.le_trans Z0 (Nat.le_of_eq g3.symm)
  have sz_b3 : h0.size ≤ b3 := (Nat.le_trans (Keep.refl h0 []).1 (Nat.le_of_eq g3.symm))
  have K3 : Keep h0 h3 [] := (Keep.refl h0 []).ext E3
  obtain ⟨cl_b3_8, Ar_b3, q_b3, S_b3, N_b3, H_b3, G_b3⟩ := V_b3      -- open the array's fact as it stands now (its cell, kind, length, elements)
  have hin8 : ¬ ((0 : Int32) < 0 ∨ cl_b3_8.slots.size ≤ ((0 : Int32)).toNatClampNeg) := inb_of S_b3 ⟨by decide, by decide⟩
  obtain ⟨T4, h4, X4, e4, W4, st4⟩ := stI X3 hx hZ e3 Ar_b3 (j := (0 : Int32)) hin8 (g := (mkF m 8 #[.val (.int p1), .val (.int p2), .unset, .unset] [(.int (44 : Int32)), (.int (0 : Int32)), (.ref b3), (.ref b3)])) rfl rfl (hb hby d1_8)
  have V_b3_4 := Arv.set Ar_b3 q_b3 S_b3 N_b3 H_b3 G_b3 rfl W4 0 rfl (Nat.le_of_ble_eq_true rfl)      -- the array as it stands now (the place must lie among its first values: Arv.pad with pad_rep lengthens them)
  have K4 : Keep h0 h4 [] := K3.wr W4 (Or.inr sz_b3)
  have N4 := Fr.snoc X4 N0 g_b3
  obtain ⟨cl_b3_13, Ar_b3, q_b3, S_b3, N_b3, H_b3, G_b3⟩ := V_b3_4      -- open the array's fact as it stands now (its cell, kind, length, elements)
  have hin13 : ¬ ((1 : Int32) < 0 ∨ cl_b3_13.slots.size ≤ ((1 : Int32)).toNatClampNeg) := inb_of S_b3 ⟨by decide, by decide⟩
  obtain ⟨T5, h5, X5, e5, W5, st5⟩ := stI X4 hx hZ e4 Ar_b3 (j := (1 : Int32)) hin13 (g := (mkF m 13 #[.val (.int p1), .val (.int p2), .unset, .unset] [(.int (43 : Int32)), (.int (1 : Int32)), (.ref b3), (.ref b3)])) rfl rfl (hb hby d1_13)
  have V_b3_5 := Arv.set Ar_b3 q_b3 S_b3 N_b3 H_b3 G_b3 rfl W5 1 rfl (Nat.le_of_ble_eq_true rfl)      -- the array as it stands now (the place must lie among its first values: Arv.pad with pad_rep lengthens them)
  have K5 : Keep h0 h5 [] := K4.wr W5 (Or.inr sz_b3)
  have N5 := Fr.snoc X5 N4 g_b3
  obtain ⟨cl_b3_18, Ar_b3, q_b3, S_b3, N_b3, H_b3, G_b3⟩ := V_b3_5      -- open the array's fact as it stands now (its cell, kind, length, elements)
  have hin18 : ¬ ((2 : Int32) < 0 ∨ cl_b3_18.slots.size ≤ ((2 : Int32)).toNatClampNeg) := inb_of S_b3 ⟨by decide, by decide⟩
  obtain ⟨T6, h6, X6, e6, W6, st6⟩ := stI X5 hx hZ e5 Ar_b3 (j := (2 : Int32)) hin18 (g := (mkF m 18 #[.val (.int p1), .val (.int p2), .unset, .unset] [(.int (45 : Int32)), (.int (2 : Int32)), (.ref b3), (.ref b3)])) rfl rfl (hb hby d1_18)
  have V_b3_6 := Arv.set Ar_b3 q_b3 S_b3 N_b3 H_b3 G_b3 rfl W6 2 rfl (Nat.le_of_ble_eq_true rfl)      -- the array as it stands now (the place must lie among its first values: Arv.pad with pad_rep lengthens them)
  have K6 : Keep h0 h6 [] := K5.wr W6 (Or.inr sz_b3)
  have N6 := Fr.snoc X6 N5 g_b3
  obtain ⟨cl_b3_23, Ar_b3, q_b3, S_b3, N_b3, H_b3, G_b3⟩ := V_b3_6      -- open the array's fact as it stands now (its cell, kind, length, elements)
  have hin23 : ¬ ((3 : Int32) < 0 ∨ cl_b3_23.slots.size ≤ ((3 : Int32)).toNatClampNeg) := inb_of S_b3 ⟨by decide, by decide⟩
  obtain ⟨T7, h7, X7, e7, W7, st7⟩ := stI X6 hx hZ e6 Ar_b3 (j := (3 : Int32)) hin23 (g := (mkF m 23 #[.val (.int p1), .val (.int p2), .unset, .unset] [(.int (91 : Int32)), (.int (3 : Int32)), (.ref b3), (.ref b3)])) rfl rfl (hb hby d1_23)
  have V_b3_7 := Arv.set Ar_b3 q_b3 S_b3 N_b3 H_b3 G_b3 rfl W7 3 rfl (Nat.le_of_ble_eq_true rfl)      -- the array as it stands now (the place must lie among its first values: Arv.pad with pad_rep lengthens them)
  have K7 : Keep h0 h7 [] := K6.wr W7 (Or.inr sz_b3)
  have N7 := Fr.snoc X7 N6 g_b3
  obtain ⟨cl_b3_28, Ar_b3, q_b3, S_b3, N_b3, H_b3, G_b3⟩ := V_b3_7      -- open the array's fact as it stands now (its cell, kind, length, elements)
  have hin28 : ¬ ((4 : Int32) < 0 ∨ cl_b3_28.slots.size ≤ ((4 : Int32)).toNatClampNeg) := inb_of S_b3 ⟨by decide, by decide⟩
  obtain ⟨T8, h8, X8, e8, W8, st8⟩ := stI X7 hx hZ e7 Ar_b3 (j := (4 : Int32)) hin28 (g := (mkF m 28 #[.val (.int p1), .val (.int p2), .unset, .unset] [(.int (90 : Int32)), (.int (4 : Int32)), (.ref b3), (.ref b3)])) rfl rfl (hb hby d1_28)
  have V_b3_8 := Arv.set Ar_b3 q_b3 S_b3 N_b3 H_b3 G_b3 rfl W8 4 rfl (Nat.le_of_ble_eq_true rfl)      -- the array as it stands now (the place must lie among its first values: Arv.pad with pad_rep lengthens them)
  have K8 : Keep h0 h8 [] := K7.wr W8 (Or.inr sz_b3)
  have N8 := Fr.snoc X8 N7 g_b3
  obtain ⟨cl_b3_33, Ar_b3, q_b3, S_b3, N_b3, H_b3, G_b3⟩ := V_b3_8      -- open the array's fact as it stands now (its cell, kind, length, elements)
  have hin33 : ¬ ((5 : Int32) < 0 ∨ cl_b3_33.slots.size ≤ ((5 : Int32)).toNatClampNeg) := inb_of S_b3 ⟨by decide, by decide⟩
  obtain ⟨T9, h9, X9, e9, W9, st9⟩ := stI X8 hx hZ e8 Ar_b3 (j := (5 : Int32)) hin33 (g := (mkF m 33 #[.val (.int p1), .val (.int p2), .unset, .unset] [(.int (92 : Int32)), (.int (5 : Int32)), (.ref b3), (.ref b3)])) rfl rfl (hb hby d1_33)
  have V_b3_9 := Arv.set Ar_b3 q_b3 S_b3 N_b3 H_b3 G_b3 rfl W9 5 rfl (Nat.le_of_ble_eq_true rfl)      -- the array as it stands now (the place must lie among its first values: Arv.pad with pad_rep lengthens them)
  have K9 : Keep h0 h9 [] := K8.wr W9 (Or.inr sz_b3)
  have N9 := Fr.snoc X9 N8 g_b3
  obtain ⟨cl_b3_39, Ar_b3, q_b3, S_b3, N_b3, H_b3, G_b3⟩ := V_b3_9      -- open the array's fact as it stands now (its cell, kind, length, elements)
  have hin39 : ¬ ((6 : Int32) < 0 ∨ cl_b3_39.slots.size ≤ ((6 : Int32)).toNatClampNeg) := inb_of S_b3 ⟨by decide, by decide⟩
  obtain ⟨T10, h10, X10, e10, W10, st10⟩ := stI X9 hx hZ e9 Ar_b3 (j := (6 : Int32)) hin39 (g := (mkF m 39 #[.val (.int p1), .val (.int p2), .unset, .unset] [(.int (93 : Int32)), (.int (6 : Int32)), (.ref b3), (.ref b3)])) rfl rfl (hb hby d1_39)
  have V_b3_10 := Arv.set Ar_b3 q_b3 S_b3 N_b3 H_b3 G_b3 rfl W10 6 rfl (Nat.le_of_ble_eq_true rfl)      -- the array as it stands now (the place must lie among its first values: Arv.pad with pad_rep lengthens them)
  have K10 : Keep h0 h10 [] := K9.wr W10 (Or.inr sz_b3)
  have N10 := Fr.snoc X10 N9 g_b3
  obtain ⟨cl_b3_45, Ar_b3, q_b3, S_b3, N_b3, H_b3, G_b3⟩ := V_b3_10      -- open the array's fact as it stands now (its cell, kind, length, elements)
  have hin45 : ¬ ((7 : Int32) < 0 ∨ cl_b3_45.slots.size ≤ ((7 : Int32)).toNatClampNeg) := inb_of S_b3 ⟨by decide, by decide⟩
  obtain ⟨T11, h11, X11, e11, W11, st11⟩ := stI X10 hx hZ e10 Ar_b3 (j := (7 : Int32)) hin45 (g := (mkF m 45 #[.val (.int p1), .val (.int p2), .unset, .unset] [(.int (94 : Int32)), (.int (7 : Int32)), (.ref b3), (.ref b3)])) rfl rfl (hb hby d1_45)
  have V_b3_11 := Arv.set Ar_b3 q_b3 S_b3 N_b3 H_b3 G_b3 rfl W11 7 rfl (Nat.le_of_ble_eq_true rfl)      -- the array as it stands now (the place must lie among its first values: Arv.pad with pad_rep lengthens them)
  have K11 : Keep h0 h11 [] := K10.wr W11 (Or.inr sz_b3)
  have N11 := Fr.snoc X11 N10 g_b3
  obtain ⟨cl_b3_51, Ar_b3, q_b3, S_b3, N_b3, H_b3, G_b3⟩ := V_b3_11      -- open the array's fact as it stands now (its cell, kind, length, elements)
  have hin51 : ¬ ((8 : Int32) < 0 ∨ cl_b3_51.slots.size ≤ ((8 : Int32)).toNatClampNeg) := inb_of S_b3 ⟨by decide, by decide⟩
  obtain ⟨T12, h12, X12, e12, W12, st12⟩ := stI X11 hx hZ e11 Ar_b3 (j := (8 : Int32)) hin51 (g := (mkF m 51 #[.val (.int p1), .val (.int p2), .unset, .unset] [(.int (123 : Int32)), (.int (8 : Int32)), (.ref b3), (.ref b3)])) rfl rfl (hb hby d1_51)
  have V_b3_12 := Arv.set Ar_b3 q_b3 S_b3 N_b3 H_b3 G_b3 rfl W12 8 rfl (Nat.le_of_ble_eq_true rfl)      -- the array as it stands now (the place must lie among its first values: Arv.pad with pad_rep lengthens them)
  have K12 : Keep h0 h12 [] := K11.wr W12 (Or.inr sz_b3)
  have N12 := Fr.snoc X12 N11 g_b3
  obtain ⟨cl_b3_57, Ar_b3, q_b3, S_b3, N_b3, H_b3, G_b3⟩ := V_b3_12      -- open the array's fact as it stands now (its cell, kind, length, elements)
  have hin57 : ¬ ((9 : Int32) < 0 ∨ cl_b3_57.slots.size ≤ ((9 : Int32)).toNatClampNeg) := inb_of S_b3 ⟨by decide, by decide⟩
  obtain ⟨T13, h13, X13, e13, W13, st13⟩ := stI X12 hx hZ e12 Ar_b3 (j := (9 : Int32)) hin57 (g := (mkF m 57 #[.val (.int p1), .val (.int p2), .unset, .unset] [(.int (122 : Int32)), (.int (9 : Int32)), (.ref b3), (.ref b3)])) rfl rfl (hb hby d1_57)
  have V_b3_13 := Arv.set Ar_b3 q_b3 S_b3 N_b3 H_b3 G_b3 rfl W13 9 rfl (Nat.le_of_ble_eq_true rfl)      -- the array as it stands now (the place must lie among its first values: Arv.pad with pad_rep lengthens them)
  have K13 : Keep h0 h13 [] := K12.wr W13 (Or.inr sz_b3)
  have N13 := Fr.snoc X13 N12 g_b3
  obtain ⟨cl_b3_63, Ar_b3, q_b3, S_b3, N_b3, H_b3, G_b3⟩ := V_b3_13      -- open the array's fact as it stands now (its cell, kind, length, elements)
  have hin63 : ¬ ((10 : Int32) < 0 ∨ cl_b3_63.slots.size ≤ ((10 : Int32)).toNatClampNeg) := inb_of S_b3 ⟨by decide, by decide⟩
  obtain ⟨T14, h14, X14, e14, W14, st14⟩ := stI X13 hx hZ e13 Ar_b3 (j := (10 : Int32)) hin63 (g := (mkF m 63 #[.val (.int p1), .val (.int p2), .unset, .unset] [(.int (124 : Int32)), (.int (10 : Int32)), (.ref b3), (.ref b3)])) rfl rfl (hb hby d1_63)
  have V_b3_14 := Arv.set Ar_b3 q_b3 S_b3 N_b3 H_b3 G_b3 rfl W14 10 rfl (Nat.le_of_ble_eq_true rfl)      -- the array as it stands now (the place must lie among its first values: Arv.pad with pad_rep lengthens them)
  have K14 : Keep h0 h14 [] := K13.wr W14 (Or.inr sz_b3)
  have N14 := Fr.snoc X14 N13 g_b3
  obtain ⟨cl_b3_69, Ar_b3, q_b3, S_b3, N_b3, H_b3, G_b3⟩ := V_b3_14      -- open the array's fact as it stands now (its cell, kind, length, elements)
  have hin69 : ¬ ((11 : Int32) < 0 ∨ cl_b3_69.slots.size ≤ ((11 : Int32)).toNatClampNeg) := inb_of S_b3 ⟨by decide, by decide⟩
  obtain ⟨T15, h15, X15, e15, W15, st15⟩ := stI X14 hx hZ e14 Ar_b3 (j := (11 : Int32)) hin69 (g := (mkF m 69 #[.val (.int p1), .val (.int p2), .unset, .unset] [(.int (125 : Int32)), (.int (11 : Int32)), (.ref b3), (.ref b3)])) rfl rfl (hb hby d1_69)
  have V_b3_15 := Arv.set Ar_b3 q_b3 S_b3 N_b3 H_b3 G_b3 rfl W15 11 rfl (Nat.le_of_ble_eq_true rfl)      -- the array as it stands now (the place must lie among its first values: Arv.pad with pad_rep lengthens them)
  have K15 : Keep h0 h15 [] := K14.wr W15 (Or.inr sz_b3)
  have N15 := Fr.snoc X15 N14 g_b3
  obtain ⟨cl_b3_75, Ar_b3, q_b3, S_b3, N_b3, H_b3, G_b3⟩ := V_b3_15      -- open the array's fact as it stands now (its cell, kind, length, elements)
  have hin75 : ¬ ((12 : Int32) < 0 ∨ cl_b3_75.slots.size ≤ ((12 : Int32)).toNatClampNeg) := inb_of S_b3 ⟨by decide, by decide⟩
  obtain ⟨T16, h16, X16, e16, W16, st16⟩ := stI X15 hx hZ e15 Ar_b3 (j := (12 : Int32)) hin75 (g := (mkF m 75 #[.val (.int p1), .val (.int p2), .unset, .unset] [(.int (126 : Int32)), (.int (12 : Int32)), (.ref b3), (.ref b3)])) rfl rfl (hb hby d1_75)
  have V_b3_16 := Arv.set Ar_b3 q_b3 S_b3 N_b3 H_b3 G_b3 rfl W16 12 rfl (Nat.le_of_ble_eq_true rfl)      -- the array as it stands now (the place must lie among its first values: Arv.pad with pad_rep lengthens them)
  have K16 : Keep h0 h16 [] := K15.wr W16 (Or.inr sz_b3)
  have N16 := Fr.snoc X16 N15 g_b3
  obtain ⟨cl_b3_80, Ar_b3, q_b3, S_b3, N_b3, H_b3, G_b3⟩ := V_b3_16      -- open the array's fact as it stands now (its cell, kind, length, elements)
  have hin80 : ¬ ((13 : Int32) < 0 ∨ cl_b3_80.slots.size ≤ ((13 : Int32)).toNatClampNeg) := inb_of S_b3 ⟨by decide, by decide⟩
  obtain ⟨T17, h17, X17, e17, W17, st17⟩ := stI X16 hx hZ e16 Ar_b3 (j := (13 : Int32)) hin80 (g := (mkF m 80 #[.val (.int p1), .val (.int p2), .unset, .unset] [(.int (-1 : Int32)), (.int (13 : Int32)), (.ref b3), (.ref b3)])) rfl rfl (hb hby d1_80)
  have V_b3_17 := Arv.set Ar_b3 q_b3 S_b3 N_b3 H_b3 G_b3 rfl W17 13 rfl (Nat.le_of_ble_eq_true rfl)      -- the array as it stands now (the place must lie among its first values: Arv.pad with pad_rep lengthens them)
  have K17 : Keep h0 h17 [] := K16.wr W17 (Or.inr sz_b3)
  have N17 := Fr.snoc X17 N16 g_b3
  obtain ⟨cl_b3_86, Ar_b3, q_b3, S_b3, N_b3, H_b3, G_b3⟩ := V_b3_17      -- open the array's fact as it stands now (its cell, kind, length, elements)
  have hin86 : ¬ ((14 : Int32) < 0 ∨ cl_b3_86.slots.size ≤ ((14 : Int32)).toNatClampNeg) := inb_of S_b3 ⟨by decide, by decide⟩
  obtain ⟨T18, h18, X18, e18, W18, st18⟩ := stI X17 hx hZ e17 Ar_b3 (j := (14 : Int32)) hin86 (g := (mkF m 86 #[.val (.int p1), .val (.int p2), .unset, .unset] [(.int (10 : Int32)), (.int (14 : Int32)), (.ref b3), (.ref b3)])) rfl rfl (hb hby d1_86)
  have V_b3_18 := Arv.set Ar_b3 q_b3 S_b3 N_b3 H_b3 G_b3 rfl W18 14 rfl (Nat.le_of_ble_eq_true rfl)      -- the array as it stands now (the place must lie among its first values: Arv.pad with pad_rep lengthens them)
  have K18 : Keep h0 h18 [] := K17.wr W18 (Or.inr sz_b3)
  have N18 := Fr.snoc X18 N17 g_b3
  obtain ⟨cl_b3_92, Ar_b3, q_b3, S_b3, N_b3, H_b3, G_b3⟩ := V_b3_18      -- open the array's fact as it stands now (its cell, kind, length, elements)
  have hin92 : ¬ ((15 : Int32) < 0 ∨ cl_b3_92.slots.size ≤ ((15 : Int32)).toNatClampNeg) := inb_of S_b3 ⟨by decide, by decide⟩
  obtain ⟨T19, h19, X19, e19, W19, st19⟩ := stI X18 hx hZ e18 Ar_b3 (j := (15 : Int32)) hin92 (g := (mkF m 92 #[.val (.int p1), .val (.int p2), .unset, .unset] [(.int (32 : Int32)), (.int (15 : Int32)), (.ref b3), (.ref b3)])) rfl rfl (hb hby d1_92)
  have V_b3_19 := Arv.set Ar_b3 q_b3 S_b3 N_b3 H_b3 G_b3 rfl W19 15 rfl (Nat.le_of_ble_eq_true rfl)      -- the array as it stands now (the place must lie among its first values: Arv.pad with pad_rep lengthens them)
  have K19 : Keep h0 h19 [] := K18.wr W19 (Or.inr sz_b3)
  have N19 := Fr.snoc X19 N18 g_b3
  obtain ⟨cl_b3_98, Ar_b3, q_b3, S_b3, N_b3, H_b3, G_b3⟩ := V_b3_19      -- open the array's fact as it stands now (its cell, kind, length, elements)
  have hin98 : ¬ ((16 : Int32) < 0 ∨ cl_b3_98.slots.size ≤ ((16 : Int32)).toNatClampNeg) := inb_of S_b3 ⟨by decide, by decide⟩
  obtain ⟨T20, h20, X20, e20, W20, st20⟩ := stI X19 hx hZ e19 Ar_b3 (j := (16 : Int32)) hin98 (g := (mkF m 98 #[.val (.int p1), .val (.int p2), .unset, .unset] [(.int (9 : Int32)), (.int (16 : Int32)), (.ref b3), (.ref b3)])) rfl rfl (hb hby d1_98)
  have V_b3_20 := Arv.set Ar_b3 q_b3 S_b3 N_b3 H_b3 G_b3 rfl W20 16 rfl (Nat.le_of_ble_eq_true rfl)      -- the array as it stands now (the place must lie among its first values: Arv.pad with pad_rep lengthens them)
  have K20 : Keep h0 h20 [] := K19.wr W20 (Or.inr sz_b3)
  have N20 := Fr.snoc X20 N19 g_b3
  obtain ⟨cl_b3_104, Ar_b3, q_b3, S_b3, N_b3, H_b3, G_b3⟩ := V_b3_20      -- open the array's fact as it stands now (its cell, kind, length, elements)
  have hin104 : ¬ ((17 : Int32) < 0 ∨ cl_b3_104.slots.size ≤ ((17 : Int32)).toNatClampNeg) := inb_of S_b3 ⟨by decide, by decide⟩
  obtain ⟨T21, h21, X21, e21, W21, st21⟩ := stI X20 hx hZ e20 Ar_b3 (j := (17 : Int32)) hin104 (g := (mkF m 104 #[.val (.int p1), .val (.int p2), .unset, .unset] [(.int (58 : Int32)), (.int (17 : Int32)), (.ref b3), (.ref b3)])) rfl rfl (hb hby d1_104)
  have V_b3_21 := Arv.set Ar_b3 q_b3 S_b3 N_b3 H_b3 G_b3 rfl W21 17 rfl (Nat.le_of_ble_eq_true rfl)      -- the array as it stands now (the place must lie among its first values: Arv.pad with pad_rep lengthens them)
  have K21 : Keep h0 h21 [] := K20.wr W21 (Or.inr sz_b3)
  have N21 := Fr.snoc X21 N20 g_b3
  obtain ⟨cl_b3_110, Ar_b3, q_b3, S_b3, N_b3, H_b3, G_b3⟩ := V_b3_21      -- open the array's fact as it stands now (its cell, kind, length, elements)
  have hin110 : ¬ ((18 : Int32) < 0 ∨ cl_b3_110.slots.size ≤ ((18 : Int32)).toNatClampNeg) := inb_of S_b3 ⟨by decide, by decide⟩
  obtain ⟨T22, h22, X22, e22, W22, st22⟩ := stI X21 hx hZ e21 Ar_b3 (j := (18 : Int32)) hin110 (g := (mkF m 110 #[.val (.int p1), .val (.int p2), .unset, .unset] [(.int (35 : Int32)), (.int (18 : Int32)), (.ref b3), (.ref b3)])) rfl rfl (hb hby d1_110)
  have V_b3_22 := Arv.set Ar_b3 q_b3 S_b3 N_b3 H_b3 G_b3 rfl W22 18 rfl (Nat.le_of_ble_eq_true rfl)      -- the array as it stands now (the place must lie among its first values: Arv.pad with pad_rep lengthens them)
  have K22 : Keep h0 h22 [] := K21.wr W22 (Or.inr sz_b3)
  have N22 := Fr.snoc X22 N21 g_b3
  obtain ⟨cl_b3_116, Ar_b3, q_b3, S_b3, N_b3, H_b3, G_b3⟩ := V_b3_22      -- open the array's fact as it stands now (its cell, kind, length, elements)
  have hin116 : ¬ ((19 : Int32) < 0 ∨ cl_b3_116.slots.size ≤ ((19 : Int32)).toNatClampNeg) := inb_of S_b3 ⟨by decide, by decide⟩
  obtain ⟨T23, h23, X23, e23, W23, st23⟩ := stI X22 hx hZ e22 Ar_b3 (j := (19 : Int32)) hin116 (g := (mkF m 116 #[.val (.int p1), .val (.int p2), .unset, .unset] [(.int (40 : Int32)), (.int (19 : Int32)), (.ref b3), (.ref b3)])) rfl rfl (hb hby d1_116)
  have V_b3_23 := Arv.set Ar_b3 q_b3 S_b3 N_b3 H_b3 G_b3 rfl W23 19 rfl (Nat.le_of_ble_eq_true rfl)      -- the array as it stands now (the place must lie among its first values: Arv.pad with pad_rep lengthens them)
  have K23 : Keep h0 h23 [] := K22.wr W23 (Or.inr sz_b3)
  have N23 := Fr.snoc X23 N22 g_b3
  obtain ⟨cl_b3_122, Ar_b3, q_b3, S_b3, N_b3, H_b3, G_b3⟩ := V_b3_23      -- open the array's fact as it stands now (its cell, kind, length, elements)
  have hin122 : ¬ ((20 : Int32) < 0 ∨ cl_b3_122.slots.size ≤ ((20 : Int32)).toNatClampNeg) := inb_of S_b3 ⟨by decide, by decide⟩
  obtain ⟨T24, h24, X24, e24, W24, st24⟩ := stI X23 hx hZ e23 Ar_b3 (j := (20 : Int32)) hin122 (g := (mkF m 122 #[.val (.int p1), .val (.int p2), .unset, .unset] [(.int (41 : Int32)), (.int (20 : Int32)), (.ref b3), (.ref b3)])) rfl rfl (hb hby d1_122)
  have V_b3_24 := Arv.set Ar_b3 q_b3 S_b3 N_b3 H_b3 G_b3 rfl W24 20 rfl (Nat.le_of_ble_eq_true rfl)      -- the array as it stands now (the place must lie among its first values: Arv.pad with pad_rep lengthens them)
  have K24 : Keep h0 h24 [] := K23.wr W24 (Or.inr sz_b3)
  have N24 := Fr.snoc X24 N23 g_b3
  obtain ⟨cl_b3_128, Ar_b3, q_b3, S_b3, N_b3, H_b3, G_b3⟩ := V_b3_24      -- open the array's fact as it stands now (its cell, kind, length, elements)
  have hin128 : ¬ ((21 : Int32) < 0 ∨ cl_b3_128.slots.size ≤ ((21 : Int32)).toNatClampNeg) := inb_of S_b3 ⟨by decide, by decide⟩
  obtain ⟨T25, h25, X25, e25, W25, st25⟩ := stI X24 hx hZ e24 Ar_b3 (j := (21 : Int32)) hin128 (g := (mkF m 128 #[.val (.int p1), .val (.int p2), .unset, .unset] [(.int (60 : Int32)), (.int (21 : Int32)), (.ref b3), (.ref b3)])) rfl rfl (hb hby d1_128)
  have V_b3_25 := Arv.set Ar_b3 q_b3 S_b3 N_b3 H_b3 G_b3 rfl W25 21 rfl (Nat.le_of_ble_eq_true rfl)      -- the array as it stands now (the place must lie among its first values: Arv.pad with pad_rep lengthens them)
  have K25 : Keep h0 h25 [] := K24.wr W25 (Or.inr sz_b3)
  have N25 := Fr.snoc X25 N24 g_b3
  obtain ⟨cl_b3_134, Ar_b3, q_b3, S_b3, N_b3, H_b3, G_b3⟩ := V_b3_25      -- open the array's fact as it stands now (its cell, kind, length, elements)
  have hin134 : ¬ ((22 : Int32) < 0 ∨ cl_b3_134.slots.size ≤ ((22 : Int32)).toNatClampNeg) := inb_of S_b3 ⟨by decide, by decide⟩
  obtain ⟨T26, h26, X26, e26, W26, st26⟩ := stI X25 hx hZ e25 Ar_b3 (j := (22 : Int32)) hin134 (g := (mkF m 134 #[.val (.int p1), .val (.int p2), .unset, .unset] [(.int (62 : Int32)), (.int (22 : Int32)), (.ref b3), (.ref b3)])) rfl rfl (hb hby d1_134)
  have V_b3_26 := Arv.set Ar_b3 q_b3 S_b3 N_b3 H_b3 G_b3 rfl W26 22 rfl (Nat.le_of_ble_eq_true rfl)      -- the array as it stands now (the place must lie among its first values: Arv.pad with pad_rep lengthens them)
  have K26 : Keep h0 h26 [] := K25.wr W26 (Or.inr sz_b3)
  have N26 := Fr.snoc X26 N25 g_b3
  obtain ⟨cl_b3_140, Ar_b3, q_b3, S_b3, N_b3, H_b3, G_b3⟩ := V_b3_26      -- open the array's fact as it stands now (its cell, kind, length, elements)
  have hin140 : ¬ ((23 : Int32) < 0 ∨ cl_b3_140.slots.size ≤ ((23 : Int32)).toNatClampNeg) := inb_of S_b3 ⟨by decide, by decide⟩
  obtain ⟨T27, h27, X27, e27, W27, st27⟩ := stI X26 hx hZ e26 Ar_b3 (j := (23 : Int32)) hin140 (g := (mkF m 140 #[.val (.int p1), .val (.int p2), .unset, .unset] [(.int (65580 : Int32)), (.int (23 : Int32)), (.ref b3), (.ref b3)])) rfl rfl (hb hby d1_140)
  have V_b3_27 := Arv.set Ar_b3 q_b3 S_b3 N_b3 H_b3 G_b3 rfl W27 23 rfl (Nat.le_of_ble_eq_true rfl)      -- the array as it stands now (the place must lie among its first values: Arv.pad with pad_rep lengthens them)
  have K27 : Keep h0 h27 [] := K26.wr W27 (Or.inr sz_b3)
  have N27 := Fr.snoc X27 N26 g_b3
  obtain ⟨cl_b3_146, Ar_b3, q_b3, S_b3, N_b3, H_b3, G_b3⟩ := V_b3_27      -- open the array's fact as it stands now (its cell, kind, length, elements)
  have hin146 : ¬ ((24 : Int32) < 0 ∨ cl_b3_146.slots.size ≤ ((24 : Int32)).toNatClampNeg) := inb_of S_b3 ⟨by decide, by decide⟩
  obtain ⟨T28, h28, X28, e28, W28, st28⟩ := stI X27 hx hZ e27 Ar_b3 (j := (24 : Int32)) hin146 (g := (mkF m 146 #[.val (.int p1), .val (.int p2), .unset, .unset] [(.int (65627 : Int32)), (.int (24 : Int32)), (.ref b3), (.ref b3)])) rfl rfl (hb hby d1_146)
  have V_b3_28 := Arv.set Ar_b3 q_b3 S_b3 N_b3 H_b3 G_b3 rfl W28 24 rfl (Nat.le_of_ble_eq_true rfl)      -- the array as it stands now (the place must lie among its first values: Arv.pad with pad_rep lengthens them)
  have K28 : Keep h0 h28 [] := K27.wr W28 (Or.inr sz_b3)
  have N28 := Fr.snoc X28 N27 g_b3
  obtain ⟨cl_b3_152, Ar_b3, q_b3, S_b3, N_b3, H_b3, G_b3⟩ := V_b3_28      -- open the array's fact as it stands now (its cell, kind, length, elements)
  have hin152 : ¬ ((25 : Int32) < 0 ∨ cl_b3_152.slots.size ≤ ((25 : Int32)).toNatClampNeg) := inb_of S_b3 ⟨by decide, by decide⟩
  obtain ⟨T29, h29, X29, e29, W29, st29⟩ := stI X28 hx hZ e28 Ar_b3 (j := (25 : Int32)) hin152 (g := (mkF m 152 #[.val (.int p1), .val (.int p2), .unset, .unset] [(.int (65629 : Int32)), (.int (25 : Int32)), (.ref b3), (.ref b3)])) rfl rfl (hb hby d1_152)
  have V_b3_29 := Arv.set Ar_b3 q_b3 S_b3 N_b3 H_b3 G_b3 rfl W29 25 rfl (Nat.le_of_ble_eq_true rfl)      -- the array as it stands now (the place must lie among its first values: Arv.pad with pad_rep lengthens them)
  have K29 : Keep h0 h29 [] := K28.wr W29 (Or.inr sz_b3)
  have N29 := Fr.snoc X29 N28 g_b3
  obtain ⟨cl_b3_158, Ar_b3, q_b3, S_b3, N_b3, H_b3, G_b3⟩ := V_b3_29      -- open the array's fact as it stands now (its cell, kind, length, elements)
  have hin158 : ¬ ((26 : Int32) < 0 ∨ cl_b3_158.slots.size ≤ ((26 : Int32)).toNatClampNeg) := inb_of S_b3 ⟨by decide, by decide⟩
  obtain ⟨T30, h30, X30, e30, W30, st30⟩ := stI X29 hx hZ e29 Ar_b3 (j := (26 : Int32)) hin158 (g := (mkF m 158 #[.val (.int p1), .val (.int p2), .unset, .unset] [(.int (65659 : Int32)), (.int (26 : Int32)), (.ref b3), (.ref b3)])) rfl rfl (hb hby d1_158)
  have V_b3_30 := Arv.set Ar_b3 q_b3 S_b3 N_b3 H_b3 G_b3 rfl W30 26 rfl (Nat.le_of_ble_eq_true rfl)      -- the array as it stands now (the place must lie among its first values: Arv.pad with pad_rep lengthens them)
  have K30 : Keep h0 h30 [] := K29.wr W30 (Or.inr sz_b3)
  have N30 := Fr.snoc X30 N29 g_b3
  obtain ⟨cl_b3_164, Ar_b3, q_b3, S_b3, N_b3, H_b3, G_b3⟩ := V_b3_30      -- open the array's fact as it stands now (its cell, kind, length, elements)
  have hin164 : ¬ ((27 : Int32) < 0 ∨ cl_b3_164.slots.size ≤ ((27 : Int32)).toNatClampNeg) := inb_of S_b3 ⟨by decide, by decide⟩
  obtain ⟨T31, h31, X31, e31, W31, st31⟩ := stI X30 hx hZ e30 Ar_b3 (j := (27 : Int32)) hin164 (g := (mkF m 164 #[.val (.int p1), .val (.int p2), .unset, .unset] [(.int (65661 : Int32)), (.int (27 : Int32)), (.ref b3), (.ref b3)])) rfl rfl (hb hby d1_164)
  have V_b3_31 := Arv.set Ar_b3 q_b3 S_b3 N_b3 H_b3 G_b3 rfl W31 27 rfl (Nat.le_of_ble_eq_true rfl)      -- the array as it stands now (the place must lie among its first values: Arv.pad with pad_rep lengthens them)
  have K31 : Keep h0 h31 [] := K30.wr W31 (Or.inr sz_b3)
  have N31 := Fr.snoc X31 N30 g_b3
  obtain ⟨cl_b3_173, Ar_b3, -, S_b3, N_b3, H_b3, G_b3⟩ := V_b3_31
  by_cases hc174 : (p2 &&& (31 : Int32)) < (28 : Int32)
  · have hin179 := inb_of S_b3 ⟨own_nn p2, hc174⟩
    obtain ⟨w32, hat179⟩ := own_at (Z := Z) (h := h0) (a := b3) H_b3 G_b3 hin179
    obtain ⟨fs, hr, hrun, hended, hW, hsame⟩ := X31.leave (v := some (.int w32)) (fun h => by rw [Bd.returns] at h; cases h)
    refine ⟨_, _, pre0 _ ?_, hrun, hended, _, _, rfl, ?_, ⟨_, rfl⟩, hW, hsame.mono (by decide) (by decide)⟩
    · show Steps p.tables e below (s₁.setTop (mkF m 0 #[.val (.int p1), .val (.int p2), .unset, .unset] [])) _
      refine XS.bipush X0.here hx rfl (hb hby d1_0) ?_
      show Steps p.tables e below (s₁.setTop (mkF m 2 #[.val (.int p1), .val (.int p2), .unset, .unset] [(.int (28 : Int32))])) _
      refine st3 _ ?_
      show Steps p.tables e below (T3.setTop (mkF m 4 #[.val (.int p1), .val (.int p2), .unset, .unset] [(.ref b3)])) _
      refine XS.dup X3.here hx rfl (hb hby d1_4) rfl rfl ?_
      show Steps p.tables e below (T3.setTop (mkF m 5 #[.val (.int p1), .val (.int p2), .unset, .unset] [(.ref b3), (.ref b3)])) _
      refine XS.iconst X3.here hx rfl (hb hby d1_5) ?_
      show Steps p.tables e below (T3.setTop (mkF m 6 #[.val (.int p1), .val (.int p2), .unset, .unset] [(.int (0 : Int32)), (.ref b3), (.ref b3)])) _
      refine XS.bipush X3.here hx rfl (hb hby d1_6) ?_
      show Steps p.tables e below (T3.setTop (mkF m 8 #[.val (.int p1), .val (.int p2), .unset, .unset] [(.int (44 : Int32)), (.int (0 : Int32)), (.ref b3), (.ref b3)])) _
      refine st4 _ ?_
      show Steps p.tables e below (T4.setTop (mkF m 9 #[.val (.int p1), .val (.int p2), .unset, .unset] [(.ref b3)])) _
      refine XS.dup X4.here hx rfl (hb hby d1_9) rfl rfl ?_
      show Steps p.tables e below (T4.setTop (mkF m 10 #[.val (.int p1), .val (.int p2), .unset, .unset] [(.ref b3), (.ref b3)])) _
      refine XS.iconst X4.here hx rfl (hb hby d1_10) ?_
      show Steps p.tables e below (T4.setTop (mkF m 11 #[.val (.int p1), .val (.int p2), .unset, .unset] [(.int (1 : Int32)), (.ref b3), (.ref b3)])) _
      refine XS.bipush X4.here hx rfl (hb hby d1_11) ?_
      show Steps p.tables e below (T4.setTop (mkF m 13 #[.val (.int p1), .val (.int p2), .unset, .unset] [(.int (43 : Int32)), (.int (1 : Int32)), (.ref b3), (.ref b3)])) _
      refine st5 _ ?_
      show Steps p.tables e below (T5.setTop (mkF m 14 #[.val (.int p1), .val (.int p2), .unset, .unset] [(.ref b3)])) _
      refine XS.dup X5.here hx rfl (hb hby d1_14) rfl rfl ?_
      show Steps p.tables e below (T5.setTop (mkF m 15 #[.val (.int p1), .val (.int p2), .unset, .unset] [(.ref b3), (.ref b3)])) _
      refine XS.iconst X5.here hx rfl (hb hby d1_15) ?_
      show Steps p.tables e below (T5.setTop (mkF m 16 #[.val (.int p1), .val (.int p2), .unset, .unset] [(.int (2 : Int32)), (.ref b3), (.ref b3)])) _
      refine XS.bipush X5.here hx rfl (hb hby d1_16) ?_
      show Steps p.tables e below (T5.setTop (mkF m 18 #[.val (.int p1), .val (.int p2), .unset, .unset] [(.int (45 : Int32)), (.int (2 : Int32)), (.ref b3), (.ref b3)])) _
      refine st6 _ ?_
      show Steps p.tables e below (T6.setTop (mkF m 19 #[.val (.int p1), .val (.int p2), .unset, .unset] [(.ref b3)])) _
      refine XS.dup X6.here hx rfl (hb hby d1_19) rfl rfl ?_
      show Steps p.tables e below (T6.setTop (mkF m 20 #[.val (.int p1), .val (.int p2), .unset, .unset] [(.ref b3), (.ref b3)])) _
      refine XS.iconst X6.here hx rfl (hb hby d1_20) ?_
      show Steps p.tables e below (T6.setTop (mkF m 21 #[.val (.int p1), .val (.int p2), .unset, .unset] [(.int (3 : Int32)), (.ref b3), (.ref b3)])) _
      refine XS.bipush X6.here hx rfl (hb hby d1_21) ?_
      show Steps p.tables e below (T6.setTop (mkF m 23 #[.val (.int p1), .val (.int p2), .unset, .unset] [(.int (91 : Int32)), (.int (3 : Int32)), (.ref b3), (.ref b3)])) _
      refine st7 _ ?_
      show Steps p.tables e below (T7.setTop (mkF m 24 #[.val (.int p1), .val (.int p2), .unset, .unset] [(.ref b3)])) _
      refine XS.dup X7.here hx rfl (hb hby d1_24) rfl rfl ?_
      show Steps p.tables e below (T7.setTop (mkF m 25 #[.val (.int p1), .val (.int p2), .unset, .unset] [(.ref b3), (.ref b3)])) _
      refine XS.iconst X7.here hx rfl (hb hby d1_25) ?_
      show Steps p.tables e below (T7.setTop (mkF m 26 #[.val (.int p1), .val (.int p2), .unset, .unset] [(.int (4 : Int32)), (.ref b3), (.ref b3)])) _
      refine XS.bipush X7.here hx rfl (hb hby d1_26) ?_
      show Steps p.tables e below (T7.setTop (mkF m 28 #[.val (.int p1), .val (.int p2), .unset, .unset] [(.int (90 : Int32)), (.int (4 : Int32)), (.ref b3), (.ref b3)])) _
      refine st8 _ ?_
      show Steps p.tables e below (T8.setTop (mkF m 29 #[.val (.int p1), .val (.int p2), .unset, .unset] [(.ref b3)])) _
      refine XS.dup X8.here hx rfl (hb hby d1_29) rfl rfl ?_
      show Steps p.tables e below (T8.setTop (mkF m 30 #[.val (.int p1), .val (.int p2), .unset, .unset] [(.ref b3), (.ref b3)])) _
      refine XS.iconst X8.here hx rfl (hb hby d1_30) ?_
      show Steps p.tables e below (T8.setTop (mkF m 31 #[.val (.int p1), .val (.int p2), .unset, .unset] [(.int (5 : Int32)), (.ref b3), (.ref b3)])) _
      refine XS.bipush X8.here hx rfl (hb hby d1_31) ?_
      show Steps p.tables e below (T8.setTop (mkF m 33 #[.val (.int p1), .val (.int p2), .unset, .unset] [(.int (92 : Int32)), (.int (5 : Int32)), (.ref b3), (.ref b3)])) _
      refine st9 _ ?_
      show Steps p.tables e below (T9.setTop (mkF m 34 #[.val (.int p1), .val (.int p2), .unset, .unset] [(.ref b3)])) _
      refine XS.dup X9.here hx rfl (hb hby d1_34) rfl rfl ?_
      show Steps p.tables e below (T9.setTop (mkF m 35 #[.val (.int p1), .val (.int p2), .unset, .unset] [(.ref b3), (.ref b3)])) _
      refine XS.bipush X9.here hx rfl (hb hby d1_35) ?_
      show Steps p.tables e below (T9.setTop (mkF m 37 #[.val (.int p1), .val (.int p2), .unset, .unset] [(.int (6 : Int32)), (.ref b3), (.ref b3)])) _
      refine XS.bipush X9.here hx rfl (hb hby d1_37) ?_
      show Steps p.tables e below (T9.setTop (mkF m 39 #[.val (.int p1), .val (.int p2), .unset, .unset] [(.int (93 : Int32)), (.int (6 : Int32)), (.ref b3), (.ref b3)])) _
      refine st10 _ ?_
      show Steps p.tables e below (T10.setTop (mkF m 40 #[.val (.int p1), .val (.int p2), .unset, .unset] [(.ref b3)])) _
      refine XS.dup X10.here hx rfl (hb hby d1_40) rfl rfl ?_
      show Steps p.tables e below (T10.setTop (mkF m 41 #[.val (.int p1), .val (.int p2), .unset, .unset] [(.ref b3), (.ref b3)])) _
      refine XS.bipush X10.here hx rfl (hb hby d1_41) ?_
      show Steps p.tables e below (T10.setTop (mkF m 43 #[.val (.int p1), .val (.int p2), .unset, .unset] [(.int (7 : Int32)), (.ref b3), (.ref b3)])) _
      refine XS.bipush X10.here hx rfl (hb hby d1_43) ?_
      show Steps p.tables e below (T10.setTop (mkF m 45 #[.val (.int p1), .val (.int p2), .unset, .unset] [(.int (94 : Int32)), (.int (7 : Int32)), (.ref b3), (.ref b3)])) _
      refine st11 _ ?_
      show Steps p.tables e below (T11.setTop (mkF m 46 #[.val (.int p1), .val (.int p2), .unset, .unset] [(.ref b3)])) _
      refine XS.dup X11.here hx rfl (hb hby d1_46) rfl rfl ?_
      show Steps p.tables e below (T11.setTop (mkF m 47 #[.val (.int p1), .val (.int p2), .unset, .unset] [(.ref b3), (.ref b3)])) _
      refine XS.bipush X11.here hx rfl (hb hby d1_47) ?_
      show Steps p.tables e below (T11.setTop (mkF m 49 #[.val (.int p1), .val (.int p2), .unset, .unset] [(.int (8 : Int32)), (.ref b3), (.ref b3)])) _
      refine XS.bipush X11.here hx rfl (hb hby d1_49) ?_
      show Steps p.tables e below (T11.setTop (mkF m 51 #[.val (.int p1), .val (.int p2), .unset, .unset] [(.int (123 : Int32)), (.int (8 : Int32)), (.ref b3), (.ref b3)])) _
      refine st12 _ ?_
      show Steps p.tables e below (T12.setTop (mkF m 52 #[.val (.int p1), .val (.int p2), .unset, .unset] [(.ref b3)])) _
      refine XS.dup X12.here hx rfl (hb hby d1_52) rfl rfl ?_
      show Steps p.tables e below (T12.setTop (mkF m 53 #[.val (.int p1), .val (.int p2), .unset, .unset] [(.ref b3), (.ref b3)])) _
      refine XS.bipush X12.here hx rfl (hb hby d1_53) ?_
      show Steps p.tables e below (T12.setTop (mkF m 55 #[.val (.int p1), .val (.int p2), .unset, .unset] [(.int (9 : Int32)), (.ref b3), (.ref b3)])) _
      refine XS.bipush X12.here hx rfl (hb hby d1_55) ?_
      show Steps p.tables e below (T12.setTop (mkF m 57 #[.val (.int p1), .val (.int p2), .unset, .unset] [(.int (122 : Int32)), (.int (9 : Int32)), (.ref b3), (.ref b3)])) _
      refine st13 _ ?_
      show Steps p.tables e below (T13.setTop (mkF m 58 #[.val (.int p1), .val (.int p2), .unset, .unset] [(.ref b3)])) _
      refine XS.dup X13.here hx rfl (hb hby d1_58) rfl rfl ?_
      show Steps p.tables e below (T13.setTop (mkF m 59 #[.val (.int p1), .val (.int p2), .unset, .unset] [(.ref b3), (.ref b3)])) _
      refine XS.bipush X13.here hx rfl (hb hby d1_59) ?_
      show Steps p.tables e below (T13.setTop (mkF m 61 #[.val (.int p1), .val (.int p2), .unset, .unset] [(.int (10 : Int32)), (.ref b3), (.ref b3)])) _
      refine XS.bipush X13.here hx rfl (hb hby d1_61) ?_
      show Steps p.tables e below (T13.setTop (mkF m 63 #[.val (.int p1), .val (.int p2), .unset, .unset] [(.int (124 : Int32)), (.int (10 : Int32)), (.ref b3), (.ref b3)])) _
      refine st14 _ ?_
      show Steps p.tables e below (T14.setTop (mkF m 64 #[.val (.int p1), .val (.int p2), .unset, .unset] [(.ref b3)])) _
      refine XS.dup X14.here hx rfl (hb hby d1_64) rfl rfl ?_
      show Steps p.tables e below (T14.setTop (mkF m 65 #[.val (.int p1), .val (.int p2), .unset, .unset] [(.ref b3), (.ref b3)])) _
      refine XS.bipush X14.here hx rfl (hb hby d1_65) ?_
      show Steps p.tables e below (T14.setTop (mkF m 67 #[.val (.int p1), .val (.int p2), .unset, .unset] [(.int (11 : Int32)), (.ref b3), (.ref b3)])) _
      refine XS.bipush X14.here hx rfl (hb hby d1_67) ?_
      show Steps p.tables e below (T14.setTop (mkF m 69 #[.val (.int p1), .val (.int p2), .unset, .unset] [(.int (125 : Int32)), (.int (11 : Int32)), (.ref b3), (.ref b3)])) _
      refine st15 _ ?_
      show Steps p.tables e below (T15.setTop (mkF m 70 #[.val (.int p1), .val (.int p2), .unset, .unset] [(.ref b3)])) _
      refine XS.dup X15.here hx rfl (hb hby d1_70) rfl rfl ?_
      show Steps p.tables e below (T15.setTop (mkF m 71 #[.val (.int p1), .val (.int p2), .unset, .unset] [(.ref b3), (.ref b3)])) _
      refine XS.bipush X15.here hx rfl (hb hby d1_71) ?_
      show Steps p.tables e below (T15.setTop (mkF m 73 #[.val (.int p1), .val (.int p2), .unset, .unset] [(.int (12 : Int32)), (.ref b3), (.ref b3)])) _
      refine XS.bipush X15.here hx rfl (hb hby d1_73) ?_
      show Steps p.tables e below (T15.setTop (mkF m 75 #[.val (.int p1), .val (.int p2), .unset, .unset] [(.int (126 : Int32)), (.int (12 : Int32)), (.ref b3), (.ref b3)])) _
      refine st16 _ ?_
      show Steps p.tables e below (T16.setTop (mkF m 76 #[.val (.int p1), .val (.int p2), .unset, .unset] [(.ref b3)])) _
      refine XS.dup X16.here hx rfl (hb hby d1_76) rfl rfl ?_
      show Steps p.tables e below (T16.setTop (mkF m 77 #[.val (.int p1), .val (.int p2), .unset, .unset] [(.ref b3), (.ref b3)])) _
      refine XS.bipush X16.here hx rfl (hb hby d1_77) ?_
      show Steps p.tables e below (T16.setTop (mkF m 79 #[.val (.int p1), .val (.int p2), .unset, .unset] [(.int (13 : Int32)), (.ref b3), (.ref b3)])) _
      refine XS.iconst X16.here hx rfl (hb hby d1_79) ?_
      show Steps p.tables e below (T16.setTop (mkF m 80 #[.val (.int p1), .val (.int p2), .unset, .unset] [(.int (-1 : Int32)), (.int (13 : Int32)), (.ref b3), (.ref b3)])) _
      refine st17 _ ?_
      show Steps p.tables e below (T17.setTop (mkF m 81 #[.val (.int p1), .val (.int p2), .unset, .unset] [(.ref b3)])) _
      refine XS.dup X17.here hx rfl (hb hby d1_81) rfl rfl ?_
      show Steps p.tables e below (T17.setTop (mkF m 82 #[.val (.int p1), .val (.int p2), .unset, .unset] [(.ref b3), (.ref b3)])) _
      refine XS.bipush X17.here hx rfl (hb hby d1_82) ?_
      show Steps p.tables e below (T17.setTop (mkF m 84 #[.val (.int p1), .val (.int p2), .unset, .unset] [(.int (14 : Int32)), (.ref b3), (.ref b3)])) _
      refine XS.bipush X17.here hx rfl (hb hby d1_84) ?_
      show Steps p.tables e below (T17.setTop (mkF m 86 #[.val (.int p1), .val (.int p2), .unset, .unset] [(.int (10 : Int32)), (.int (14 : Int32)), (.ref b3), (.ref b3)])) _
      refine st18 _ ?_
      show Steps p.tables e below (T18.setTop (mkF m 87 #[.val (.int p1), .val (.int p2), .unset, .unset] [(.ref b3)])) _
      refine XS.dup X18.here hx rfl (hb hby d1_87) rfl rfl ?_
      show Steps p.tables e below (T18.setTop (mkF m 88 #[.val (.int p1), .val (.int p2), .unset, .unset] [(.ref b3), (.ref b3)])) _
      refine XS.bipush X18.here hx rfl (hb hby d1_88) ?_
      show Steps p.tables e below (T18.setTop (mkF m 90 #[.val (.int p1), .val (.int p2), .unset, .unset] [(.int (15 : Int32)), (.ref b3), (.ref b3)])) _
      refine XS.bipush X18.here hx rfl (hb hby d1_90) ?_
      show Steps p.tables e below (T18.setTop (mkF m 92 #[.val (.int p1), .val (.int p2), .unset, .unset] [(.int (32 : Int32)), (.int (15 : Int32)), (.ref b3), (.ref b3)])) _
      refine st19 _ ?_
      show Steps p.tables e below (T19.setTop (mkF m 93 #[.val (.int p1), .val (.int p2), .unset, .unset] [(.ref b3)])) _
      refine XS.dup X19.here hx rfl (hb hby d1_93) rfl rfl ?_
      show Steps p.tables e below (T19.setTop (mkF m 94 #[.val (.int p1), .val (.int p2), .unset, .unset] [(.ref b3), (.ref b3)])) _
      refine XS.bipush X19.here hx rfl (hb hby d1_94) ?_
      show Steps p.tables e below (T19.setTop (mkF m 96 #[.val (.int p1), .val (.int p2), .unset, .unset] [(.int (16 : Int32)), (.ref b3), (.ref b3)])) _
      refine XS.bipush X19.here hx rfl (hb hby d1_96) ?_
      show Steps p.tables e below (T19.setTop (mkF m 98 #[.val (.int p1), .val (.int p2), .unset, .unset] [(.int (9 : Int32)), (.int (16 : Int32)), (.ref b3), (.ref b3)])) _
      refine st20 _ ?_
      show Steps p.tables e below (T20.setTop (mkF m 99 #[.val (.int p1), .val (.int p2), .unset, .unset] [(.ref b3)])) _
      refine XS.dup X20.here hx rfl (hb hby d1_99) rfl rfl ?_
      show Steps p.tables e below (T20.setTop (mkF m 100 #[.val (.int p1), .val (.int p2), .unset, .unset] [(.ref b3), (.ref b3)])) _
      refine XS.bipush X20.here hx rfl (hb hby d1_100) ?_
      show Steps p.tables e below (T20.setTop (mkF m 102 #[.val (.int p1), .val (.int p2), .unset, .unset] [(.int (17 : Int32)), (.ref b3), (.ref b3)])) _
      refine XS.bipush X20.here hx rfl (hb hby d1_102) ?_
      show Steps p.tables e below (T20.setTop (mkF m 104 #[.val (.int p1), .val (.int p2), .unset, .unset] [(.int (58 : Int32)), (.int (17 : Int32)), (.ref b3), (.ref b3)])) _
      refine st21 _ ?_
      show Steps p.tables e below (T21.setTop (mkF m 105 #[.val (.int p1), .val (.int p2), .unset, .unset] [(.ref b3)])) _
      refine XS.dup X21.here hx rfl (hb hby d1_105) rfl rfl ?_
      show Steps p.tables e below (T21.setTop (mkF m 106 #[.val (.int p1), .val (.int p2), .unset, .unset] [(.ref b3), (.ref b3)])) _
      refine XS.bipush X21.here hx rfl (hb hby d1_106) ?_
      show Steps p.tables e below (T21.setTop (mkF m 108 #[.val (.int p1), .val (.int p2), .unset, .unset] [(.int (18 : Int32)), (.ref b3), (.ref b3)])) _
      refine XS.bipush X21.here hx rfl (hb hby d1_108) ?_
      show Steps p.tables e below (T21.setTop (mkF m 110 #[.val (.int p1), .val (.int p2), .unset, .unset] [(.int (35 : Int32)), (.int (18 : Int32)), (.ref b3), (.ref b3)])) _
      refine st22 _ ?_
      show Steps p.tables e below (T22.setTop (mkF m 111 #[.val (.int p1), .val (.int p2), .unset, .unset] [(.ref b3)])) _
      refine XS.dup X22.here hx rfl (hb hby d1_111) rfl rfl ?_
      show Steps p.tables e below (T22.setTop (mkF m 112 #[.val (.int p1), .val (.int p2), .unset, .unset] [(.ref b3), (.ref b3)])) _
      refine XS.bipush X22.here hx rfl (hb hby d1_112) ?_
      show Steps p.tables e below (T22.setTop (mkF m 114 #[.val (.int p1), .val (.int p2), .unset, .unset] [(.int (19 : Int32)), (.ref b3), (.ref b3)])) _
      refine XS.bipush X22.here hx rfl (hb hby d1_114) ?_
      show Steps p.tables e below (T22.setTop (mkF m 116 #[.val (.int p1), .val (.int p2), .unset, .unset] [(.int (40 : Int32)), (.int (19 : Int32)), (.ref b3), (.ref b3)])) _
      refine st23 _ ?_
      show Steps p.tables e below (T23.setTop (mkF m 117 #[.val (.int p1), .val (.int p2), .unset, .unset] [(.ref b3)])) _
      refine XS.dup X23.here hx rfl (hb hby d1_117) rfl rfl ?_
      show Steps p.tables e below (T23.setTop (mkF m 118 #[.val (.int p1), .val (.int p2), .unset, .unset] [(.ref b3), (.ref b3)])) _
      refine XS.bipush X23.here hx rfl (hb hby d1_118) ?_
      show Steps p.tables e below (T23.setTop (mkF m 120 #[.val (.int p1), .val (.int p2), .unset, .unset] [(.int (20 : Int32)), (.ref b3), (.ref b3)])) _
      refine XS.bipush X23.here hx rfl (hb hby d1_120) ?_
      show Steps p.tables e below (T23.setTop (mkF m 122 #[.val (.int p1), .val (.int p2), .unset, .unset] [(.int (41 : Int32)), (.int (20 : Int32)), (.ref b3), (.ref b3)])) _
      refine st24 _ ?_
      show Steps p.tables e below (T24.setTop (mkF m 123 #[.val (.int p1), .val (.int p2), .unset, .unset] [(.ref b3)])) _
      refine XS.dup X24.here hx rfl (hb hby d1_123) rfl rfl ?_
      show Steps p.tables e below (T24.setTop (mkF m 124 #[.val (.int p1), .val (.int p2), .unset, .unset] [(.ref b3), (.ref b3)])) _
      refine XS.bipush X24.here hx rfl (hb hby d1_124) ?_
      show Steps p.tables e below (T24.setTop (mkF m 126 #[.val (.int p1), .val (.int p2), .unset, .unset] [(.int (21 : Int32)), (.ref b3), (.ref b3)])) _
      refine XS.bipush X24.here hx rfl (hb hby d1_126) ?_
      show Steps p.tables e below (T24.setTop (mkF m 128 #[.val (.int p1), .val (.int p2), .unset, .unset] [(.int (60 : Int32)), (.int (21 : Int32)), (.ref b3), (.ref b3)])) _
      refine st25 _ ?_
      show Steps p.tables e below (T25.setTop (mkF m 129 #[.val (.int p1), .val (.int p2), .unset, .unset] [(.ref b3)])) _
      refine XS.dup X25.here hx rfl (hb hby d1_129) rfl rfl ?_
      show Steps p.tables e below (T25.setTop (mkF m 130 #[.val (.int p1), .val (.int p2), .unset, .unset] [(.ref b3), (.ref b3)])) _
      refine XS.bipush X25.here hx rfl (hb hby d1_130) ?_
      show Steps p.tables e below (T25.setTop (mkF m 132 #[.val (.int p1), .val (.int p2), .unset, .unset] [(.int (22 : Int32)), (.ref b3), (.ref b3)])) _
      refine XS.bipush X25.here hx rfl (hb hby d1_132) ?_
      show Steps p.tables e below (T25.setTop (mkF m 134 #[.val (.int p1), .val (.int p2), .unset, .unset] [(.int (62 : Int32)), (.int (22 : Int32)), (.ref b3), (.ref b3)])) _
      refine st26 _ ?_
      show Steps p.tables e below (T26.setTop (mkF m 135 #[.val (.int p1), .val (.int p2), .unset, .unset] [(.ref b3)])) _
      refine XS.dup X26.here hx rfl (hb hby d1_135) rfl rfl ?_
      show Steps p.tables e below (T26.setTop (mkF m 136 #[.val (.int p1), .val (.int p2), .unset, .unset] [(.ref b3), (.ref b3)])) _
      refine XS.bipush X26.here hx rfl (hb hby d1_136) ?_
      show Steps p.tables e below (T26.setTop (mkF m 138 #[.val (.int p1), .val (.int p2), .unset, .unset] [(.int (23 : Int32)), (.ref b3), (.ref b3)])) _
      refine X26.ldcInt hx hown (mvT hZ (hw _ (List.mem_of_getElem? (i := 5) rfl))) (g := (mkF m 138 #[.val (.int p1), .val (.int p2), .unset, .unset] [(.int (23 : Int32)), (.ref b3), (.ref b3)])) rfl (hb hby d1_138) _ ?_
      show Steps p.tables e below (T26.setTop (mkF m 140 #[.val (.int p1), .val (.int p2), .unset, .unset] [(.int (65580 : Int32)), (.int (23 : Int32)), (.ref b3), (.ref b3)])) _
      refine st27 _ ?_
      show Steps p.tables e below (T27.setTop (mkF m 141 #[.val (.int p1), .val (.int p2), .unset, .unset] [(.ref b3)])) _
      refine XS.dup X27.here hx rfl (hb hby d1_141) rfl rfl ?_
      show Steps p.tables e below (T27.setTop (mkF m 142 #[.val (.int p1), .val (.int p2), .unset, .unset] [(.ref b3), (.ref b3)])) _
      refine XS.bipush X27.here hx rfl (hb hby d1_142) ?_
      show Steps p.tables e below (T27.setTop (mkF m 144 #[.val (.int p1), .val (.int p2), .unset, .unset] [(.int (24 : Int32)), (.ref b3), (.ref b3)])) _
      refine X27.ldcInt hx hown (mvT hZ (hw _ (List.mem_of_getElem? (i := 6) rfl))) (g := (mkF m 144 #[.val (.int p1), .val (.int p2), .unset, .unset] [(.int (24 : Int32)), (.ref b3), (.ref b3)])) rfl (hb hby d1_144) _ ?_
      show Steps p.tables e below (T27.setTop (mkF m 146 #[.val (.int p1), .val (.int p2), .unset, .unset] [(.int (65627 : Int32)), (.int (24 : Int32)), (.ref b3), (.ref b3)])) _
      refine st28 _ ?_
      show Steps p.tables e below (T28.setTop (mkF m 147 #[.val (.int p1), .val (.int p2), .unset, .unset] [(.ref b3)])) _
      refine XS.dup X28.here hx rfl (hb hby d1_147) rfl rfl ?_
      show Steps p.tables e below (T28.setTop (mkF m 148 #[.val (.int p1), .val (.int p2), .unset, .unset] [(.ref b3), (.ref b3)])) _
      refine XS.bipush X28.here hx rfl (hb hby d1_148) ?_
      show Steps p.tables e below (T28.setTop (mkF m 150 #[.val (.int p1), .val (.int p2), .unset, .unset] [(.int (25 : Int32)), (.ref b3), (.ref b3)])) _
      refine X28.ldcInt hx hown (mvT hZ (hw _ (List.mem_of_getElem? (i := 7) rfl))) (g := (mkF m 150 #[.val (.int p1), .val (.int p2), .unset, .unset] [(.int (25 : Int32)), (.ref b3), (.ref b3)])) rfl (hb hby d1_150) _ ?_
      show Steps p.tables e below (T28.setTop (mkF m 152 #[.val (.int p1), .val (.int p2), .unset, .unset] [(.int (65629 : Int32)), (.int (25 : Int32)), (.ref b3), (.ref b3)])) _
      refine st29 _ ?_
      show Steps p.tables e below (T29.setTop (mkF m 153 #[.val (.int p1), .val (.int p2), .unset, .unset] [(.ref b3)])) _
      refine XS.dup X29.here hx rfl (hb hby d1_153) rfl rfl ?_
      show Steps p.tables e below (T29.setTop (mkF m 154 #[.val (.int p1), .val (.int p2), .unset, .unset] [(.ref b3), (.ref b3)])) _
      refine XS.bipush X29.here hx rfl (hb hby d1_154) ?_
      show Steps p.tables e below (T29.setTop (mkF m 156 #[.val (.int p1), .val (.int p2), .unset, .unset] [(.int (26 : Int32)), (.ref b3), (.ref b3)])) _
      refine X29.ldcInt hx hown (mvT hZ (hw _ (List.mem_of_getElem? (i := 8) rfl))) (g := (mkF m 156 #[.val (.int p1), .val (.int p2), .unset, .unset] [(.int (26 : Int32)), (.ref b3), (.ref b3)])) rfl (hb hby d1_156) _ ?_
      show Steps p.tables e below (T29.setTop (mkF m 158 #[.val (.int p1), .val (.int p2), .unset, .unset] [(.int (65659 : Int32)), (.int (26 : Int32)), (.ref b3), (.ref b3)])) _
      refine st30 _ ?_
      show Steps p.tables e below (T30.setTop (mkF m 159 #[.val (.int p1), .val (.int p2), .unset, .unset] [(.ref b3)])) _
      refine XS.dup X30.here hx rfl (hb hby d1_159) rfl rfl ?_
      show Steps p.tables e below (T30.setTop (mkF m 160 #[.val (.int p1), .val (.int p2), .unset, .unset] [(.ref b3), (.ref b3)])) _
      refine XS.bipush X30.here hx rfl (hb hby d1_160) ?_
      show Steps p.tables e below (T30.setTop (mkF m 162 #[.val (.int p1), .val (.int p2), .unset, .unset] [(.int (27 : Int32)), (.ref b3), (.ref b3)])) _
      refine X30.ldcInt hx hown (mvT hZ (hw _ (List.mem_of_getElem? (i := 9) rfl))) (g := (mkF m 162 #[.val (.int p1), .val (.int p2), .unset, .unset] [(.int (27 : Int32)), (.ref b3), (.ref b3)])) rfl (hb hby d1_162) _ ?_
      show Steps p.tables e below (T30.setTop (mkF m 164 #[.val (.int p1), .val (.int p2), .unset, .unset] [(.int (65661 : Int32)), (.int (27 : Int32)), (.ref b3), (.ref b3)])) _
      refine st31 _ ?_
      show Steps p.tables e below (T31.setTop (mkF m 165 #[.val (.int p1), .val (.int p2), .unset, .unset] [(.ref b3)])) _
      refine XS.astoreN X31.here hx rfl (hb hby d1_165) rfl rfl (l' := #[.val (.int p1), .val (.int p2), .val (.ref b3), .unset]) rfl ?_
      show Steps p.tables e below (T31.setTop (mkF m 166 #[.val (.int p1), .val (.int p2), .val (.ref b3), .unset] [])) _
      refine XS.iloadN X31.here hx rfl (hb hby d1_166) rfl ?_
      show Steps p.tables e below (T31.setTop (mkF m 167 #[.val (.int p1), .val (.int p2), .val (.ref b3), .unset] [(.int p2)])) _
      refine XS.bipush X31.here hx rfl (hb hby d1_167) ?_
      show Steps p.tables e below (T31.setTop (mkF m 169 #[.val (.int p1), .val (.int p2), .val (.ref b3), .unset] [(.int (31 : Int32)), (.int p2)])) _
      refine XS.iand X31.here hx rfl (hb hby d1_169) rfl ?_
      show Steps p.tables e below (T31.setTop (mkF m 170 #[.val (.int p1), .val (.int p2), .val (.ref b3), .unset] [(.int (p2 &&& (31 : Int32)))])) _
      refine XS.istoreN X31.here hx rfl (hb hby d1_170) rfl (l' := #[.val (.int p1), .val (.int p2), .val (.ref b3), .val (.int (p2 &&& (31 : Int32)))]) rfl ?_
      show Steps p.tables e below (T31.setTop (mkF m 171 #[.val (.int p1), .val (.int p2), .val (.ref b3), .val (.int (p2 &&& (31 : Int32)))] [])) _
      refine XS.iloadN X31.here hx rfl (hb hby d1_171) rfl ?_
      show Steps p.tables e below (T31.setTop (mkF m 172 #[.val (.int p1), .val (.int p2), .val (.ref b3), .val (.int (p2 &&& (31 : Int32)))] [(.int (p2 &&& (31 : Int32)))])) _
      refine XS.aloadN X31.here hx rfl (hb hby d1_172) rfl rfl ?_
      show Steps p.tables e below (T31.setTop (mkF m 173 #[.val (.int p1), .val (.int p2), .val (.ref b3), .val (.int (p2 &&& (31 : Int32)))] [(.ref b3), (.int (p2 &&& (31 : Int32)))])) _
      refine X31.arraylength hx (by rw [e31]; exact Ar_b3.1) (State.isArrayOf_alike hZ.alike Ar_b3.2.1) (g := (mkF m 173 #[.val (.int p1), .val (.int p2), .val (.ref b3), .val (.int (p2 &&& (31 : Int32)))] [(.ref b3), (.int (p2 &&& (31 : Int32)))])) rfl rfl (hb hby d1_173) _ ?_
      rw [len_of S_b3 N_b3]
      show Steps p.tables e below (T31.setTop (mkF m 174 #[.val (.int p1), .val (.int p2), .val (.ref b3), .val (.int (p2 &&& (31 : Int32)))] [(.int (28 : Int32)), (.int (p2 &&& (31 : Int32)))])) _
      refine XS.icmpNo X31.here hx rfl (hb hby d1_174) rfl (tlt hc174).2.1 ?_
      show Steps p.tables e below (T31.setTop (mkF m 177 #[.val (.int p1), .val (.int p2), .val (.ref b3), .val (.int (p2 &&& (31 : Int32)))] [])) _
      refine XS.aloadN X31.here hx rfl (hb hby d1_177) rfl rfl ?_
      show Steps p.tables e below (T31.setTop (mkF m 178 #[.val (.int p1), .val (.int p2), .val (.ref b3), .val (.int (p2 &&& (31 : Int32)))] [(.ref b3)])) _
      refine XS.iloadN X31.here hx rfl (hb hby d1_178) rfl ?_
      show Steps p.tables e below (T31.setTop (mkF m 179 #[.val (.int p1), .val (.int p2), .val (.ref b3), .val (.int (p2 &&& (31 : Int32)))] [(.int (p2 &&& (31 : Int32))), (.ref b3)])) _
      refine X31.iaload hx (j := (p2 &&& (31 : Int32))) (v := (.int w32)) (by rw [e31]; exact Ar_b3.1) (State.isArrayOf_alike hZ.alike Ar_b3.2.1) Ar_b3.2.2 hin179 hat179 (g := (mkF m 179 #[.val (.int p1), .val (.int p2), .val (.ref b3), .val (.int (p2 &&& (31 : Int32)))] [(.int (p2 &&& (31 : Int32))), (.ref b3)])) rfl rfl (hb hby d1_179) _ ?_
      show Steps p.tables e below (T31.setTop (mkF m 180 #[.val (.int p1), .val (.int p2), .val (.ref b3), .val (.int (p2 &&& (31 : Int32)))] [(.int w32)])) _
      exact retI X31 hx Bd.returns (hb hby d1_180) hr      -- retI stands in the head ('lawwalk <made dir>' prints it)
    · show Q1 Z p1 p2 h0 n0 _ T31.heap _
      rw [e31]
      exact ⟨⟨_, rfl⟩, N31, K31⟩
  · obtain ⟨fs, hr, hrun, hended, hW, hsame⟩ := X31.leave (v := some (.int p1)) (fun h => by rw [Bd.returns] at h; cases h)
    refine ⟨_, _, pre0 _ ?_, hrun, hended, _, _, rfl, ?_, ⟨_, rfl⟩, hW, hsame.mono (by decide) (by decide)⟩
    · show Steps p.tables e below (s₁.setTop (mkF m 0 #[.val (.int p1), .val (.int p2), .unset, .unset] [])) _
      refine XS.bipush X0.here hx rfl (hb hby d1_0) ?_
      show Steps p.tables e below (s₁.setTop (mkF m 2 #[.val (.int p1), .val (.int p2), .unset, .unset] [(.int (28 : Int32))])) _
      refine st3 _ ?_
      show Steps p.tables e below (T3.setTop (mkF m 4 #[.val (.int p1), .val (.int p2), .unset, .unset] [(.ref b3)])) _
      refine XS.dup X3.here hx rfl (hb hby d1_4) rfl rfl ?_
      show Steps p.tables e below (T3.setTop (mkF m 5 #[.val (.int p1), .val (.int p2), .unset, .unset] [(.ref b3), (.ref b3)])) _
      refine XS.iconst X3.here hx rfl (hb hby d1_5) ?_
      show Steps p.tables e below (T3.setTop (mkF m 6 #[.val (.int p1), .val (.int p2), .unset, .unset] [(.int (0 : Int32)), (.ref b3), (.ref b3)])) _
      refine XS.bipush X3.here hx rfl (hb hby d1_6) ?_
      show Steps p.tables e below (T3.setTop (mkF m 8 #[.val (.int p1), .val (.int p2), .unset, .unset] [(.int (44 : Int32)), (.int (0 : Int32)), (.ref b3), (.ref b3)])) _
      refine st4 _ ?_
      show Steps p.tables e below (T4.setTop (mkF m 9 #[.val (.int p1), .val (.int p2), .unset, .unset] [(.ref b3)])) _
      refine XS.dup X4.here hx rfl (hb hby d1_9) rfl rfl ?_
      show Steps p.tables e below (T4.setTop (mkF m 10 #[.val (.int p1), .val (.int p2), .unset, .unset] [(.ref b3), (.ref b3)])) _
      refine XS.iconst X4.here hx rfl (hb hby d1_10) ?_
      show Steps p.tables e below (T4.setTop (mkF m 11 #[.val (.int p1), .val (.int p2), .unset, .unset] [(.int (1 : Int32)), (.ref b3), (.ref b3)])) _
      refine XS.bipush X4.here hx rfl (hb hby d1_11) ?_
      show Steps p.tables e below (T4.setTop (mkF m 13 #[.val (.int p1), .val (.int p2), .unset, .unset] [(.int (43 : Int32)), (.int (1 : Int32)), (.ref b3), (.ref b3)])) _
      refine st5 _ ?_
      show Steps p.tables e below (T5.setTop (mkF m 14 #[.val (.int p1), .val (.int p2), .unset, .unset] [(.ref b3)])) _
      refine XS.dup X5.here hx rfl (hb hby d1_14) rfl rfl ?_
      show Steps p.tables e below (T5.setTop (mkF m 15 #[.val (.int p1), .val (.int p2), .unset, .unset] [(.ref b3), (.ref b3)])) _
      refine XS.iconst X5.here hx rfl (hb hby d1_15) ?_
      show Steps p.tables e below (T5.setTop (mkF m 16 #[.val (.int p1), .val (.int p2), .unset, .unset] [(.int (2 : Int32)), (.ref b3), (.ref b3)])) _
      refine XS.bipush X5.here hx rfl (hb hby d1_16) ?_
      show Steps p.tables e below (T5.setTop (mkF m 18 #[.val (.int p1), .val (.int p2), .unset, .unset] [(.int (45 : Int32)), (.int (2 : Int32)), (.ref b3), (.ref b3)])) _
      refine st6 _ ?_
      show Steps p.tables e below (T6.setTop (mkF m 19 #[.val (.int p1), .val (.int p2), .unset, .unset] [(.ref b3)])) _
      refine XS.dup X6.here hx rfl (hb hby d1_19) rfl rfl ?_
      show Steps p.tables e below (T6.setTop (mkF m 20 #[.val (.int p1), .val (.int p2), .unset, .unset] [(.ref b3), (.ref b3)])) _
      refine XS.iconst X6.here hx rfl (hb hby d1_20) ?_
      show Steps p.tables e below (T6.setTop (mkF m 21 #[.val (.int p1), .val (.int p2), .unset, .unset] [(.int (3 : Int32)), (.ref b3), (.ref b3)])) _
      refine XS.bipush X6.here hx rfl (hb hby d1_21) ?_
      show Steps p.tables e below (T6.setTop (mkF m 23 #[.val (.int p1), .val (.int p2), .unset, .unset] [(.int (91 : Int32)), (.int (3 : Int32)), (.ref b3), (.ref b3)])) _
      refine st7 _ ?_
      show Steps p.tables e below (T7.setTop (mkF m 24 #[.val (.int p1), .val (.int p2), .unset, .unset] [(.ref b3)])) _
      refine XS.dup X7.here hx rfl (hb hby d1_24) rfl rfl ?_
      show Steps p.tables e below (T7.setTop (mkF m 25 #[.val (.int p1), .val (.int p2), .unset, .unset] [(.ref b3), (.ref b3)])) _
      refine XS.iconst X7.here hx rfl (hb hby d1_25) ?_
      show Steps p.tables e below (T7.setTop (mkF m 26 #[.val (.int p1), .val (.int p2), .unset, .unset] [(.int (4 : Int32)), (.ref b3), (.ref b3)])) _
      refine XS.bipush X7.here hx rfl (hb hby d1_26) ?_
      show Steps p.tables e below (T7.setTop (mkF m 28 #[.val (.int p1), .val (.int p2), .unset, .unset] [(.int (90 : Int32)), (.int (4 : Int32)), (.ref b3), (.ref b3)])) _
      refine st8 _ ?_
      show Steps p.tables e below (T8.setTop (mkF m 29 #[.val (.int p1), .val (.int p2), .unset, .unset] [(.ref b3)])) _
      refine XS.dup X8.here hx rfl (hb hby d1_29) rfl rfl ?_
      show Steps p.tables e below (T8.setTop (mkF m 30 #[.val (.int p1), .val (.int p2), .unset, .unset] [(.ref b3), (.ref b3)])) _
      refine XS.iconst X8.here hx rfl (hb hby d1_30) ?_
      show Steps p.tables e below (T8.setTop (mkF m 31 #[.val (.int p1), .val (.int p2), .unset, .unset] [(.int (5 : Int32)), (.ref b3), (.ref b3)])) _
      refine XS.bipush X8.here hx rfl (hb hby d1_31) ?_
      show Steps p.tables e below (T8.setTop (mkF m 33 #[.val (.int p1), .val (.int p2), .unset, .unset] [(.int (92 : Int32)), (.int (5 : Int32)), (.ref b3), (.ref b3)])) _
      refine st9 _ ?_
      show Steps p.tables e below (T9.setTop (mkF m 34 #[.val (.int p1), .val (.int p2), .unset, .unset] [(.ref b3)])) _
      refine XS.dup X9.here hx rfl (hb hby d1_34) rfl rfl ?_
      show Steps p.tables e below (T9.setTop (mkF m 35 #[.val (.int p1), .val (.int p2), .unset, .unset] [(.ref b3), (.ref b3)])) _
      refine XS.bipush X9.here hx rfl (hb hby d1_35) ?_
      show Steps p.tables e below (T9.setTop (mkF m 37 #[.val (.int p1), .val (.int p2), .unset, .unset] [(.int (6 : Int32)), (.ref b3), (.ref b3)])) _
      refine XS.bipush X9.here hx rfl (hb hby d1_37) ?_
      show Steps p.tables e below (T9.setTop (mkF m 39 #[.val (.int p1), .val (.int p2), .unset, .unset] [(.int (93 : Int32)), (.int (6 : Int32)), (.ref b3), (.ref b3)])) _
      refine st10 _ ?_
      show Steps p.tables e below (T10.setTop (mkF m 40 #[.val (.int p1), .val (.int p2), .unset, .unset] [(.ref b3)])) _
      refine XS.dup X10.here hx rfl (hb hby d1_40) rfl rfl ?_
      show Steps p.tables e below (T10.setTop (mkF m 41 #[.val (.int p1), .val (.int p2), .unset, .unset] [(.ref b3), (.ref b3)])) _
      refine XS.bipush X10.here hx rfl (hb hby d1_41) ?_
      show Steps p.tables e below (T10.setTop (mkF m 43 #[.val (.int p1), .val (.int p2), .unset, .unset] [(.int (7 : Int32)), (.ref b3), (.ref b3)])) _
      refine XS.bipush X10.here hx rfl (hb hby d1_43) ?_
      show Steps p.tables e below (T10.setTop (mkF m 45 #[.val (.int p1), .val (.int p2), .unset, .unset] [(.int (94 : Int32)), (.int (7 : Int32)), (.ref b3), (.ref b3)])) _
      refine st11 _ ?_
      show Steps p.tables e below (T11.setTop (mkF m 46 #[.val (.int p1), .val (.int p2), .unset, .unset] [(.ref b3)])) _
      refine XS.dup X11.here hx rfl (hb hby d1_46) rfl rfl ?_
      show Steps p.tables e below (T11.setTop (mkF m 47 #[.val (.int p1), .val (.int p2), .unset, .unset] [(.ref b3), (.ref b3)])) _
      refine XS.bipush X11.here hx rfl (hb hby d1_47) ?_
      show Steps p.tables e below (T11.setTop (mkF m 49 #[.val (.int p1), .val (.int p2), .unset, .unset] [(.int (8 : Int32)), (.ref b3), (.ref b3)])) _
      refine XS.bipush X11.here hx rfl (hb hby d1_49) ?_
      show Steps p.tables e below (T11.setTop (mkF m 51 #[.val (.int p1), .val (.int p2), .unset, .unset] [(.int (123 : Int32)), (.int (8 : Int32)), (.ref b3), (.ref b3)])) _
      refine st12 _ ?_
      show Steps p.tables e below (T12.setTop (mkF m 52 #[.val (.int p1), .val (.int p2), .unset, .unset] [(.ref b3)])) _
      refine XS.dup X12.here hx rfl (hb hby d1_52) rfl rfl ?_
      show Steps p.tables e below (T12.setTop (mkF m 53 #[.val (.int p1), .val (.int p2), .unset, .unset] [(.ref b3), (.ref b3)])) _
      refine XS.bipush X12.here hx rfl (hb hby d1_53) ?_
      show Steps p.tables e below (T12.setTop (mkF m 55 #[.val (.int p1), .val (.int p2), .unset, .unset] [(.int (9 : Int32)), (.ref b3), (.ref b3)])) _
      refine XS.bipush X12.here hx rfl (hb hby d1_55) ?_
      show Steps p.tables e below (T12.setTop (mkF m 57 #[.val (.int p1), .val (.int p2), .unset, .unset] [(.int (122 : Int32)), (.int (9 : Int32)), (.ref b3), (.ref b3)])) _
      refine st13 _ ?_
      show Steps p.tables e below (T13.setTop (mkF m 58 #[.val (.int p1), .val (.int p2), .unset, .unset] [(.ref b3)])) _
      refine XS.dup X13.here hx rfl (hb hby d1_58) rfl rfl ?_
      show Steps p.tables e below (T13.setTop (mkF m 59 #[.val (.int p1), .val (.int p2), .unset, .unset] [(.ref b3), (.ref b3)])) _
      refine XS.bipush X13.here hx rfl (hb hby d1_59) ?_
      show Steps p.tables e below (T13.setTop (mkF m 61 #[.val (.int p1), .val (.int p2), .unset, .unset] [(.int (10 : Int32)), (.ref b3), (.ref b3)])) _
      refine XS.bipush X13.here hx rfl (hb hby d1_61) ?_
      show Steps p.tables e below (T13.setTop (mkF m 63 #[.val (.int p1), .val (.int p2), .unset, .unset] [(.int (124 : Int32)), (.int (10 : Int32)), (.ref b3), (.ref b3)])) _
      refine st14 _ ?_
      show Steps p.tables e below (T14.setTop (mkF m 64 #[.val (.int p1), .val (.int p2), .unset, .unset] [(.ref b3)])) _
      refine XS.dup X14.here hx rfl (hb hby d1_64) rfl rfl ?_
      show Steps p.tables e below (T14.setTop (mkF m 65 #[.val (.int p1), .val (.int p2), .unset, .unset] [(.ref b3), (.ref b3)])) _
      refine XS.bipush X14.here hx rfl (hb hby d1_65) ?_
      show Steps p.tables e below (T14.setTop (mkF m 67 #[.val (.int p1), .val (.int p2), .unset, .unset] [(.int (11 : Int32)), (.ref b3), (.ref b3)])) _
      refine XS.bipush X14.here hx rfl (hb hby d1_67) ?_
      show Steps p.tables e below (T14.setTop (mkF m 69 #[.val (.int p1), .val (.int p2), .unset, .unset] [(.int (125 : Int32)), (.int (11 : Int32)), (.ref b3), (.ref b3)])) _
      refine st15 _ ?_
      show Steps p.tables e below (T15.setTop (mkF m 70 #[.val (.int p1), .val (.int p2), .unset, .unset] [(.ref b3)])) _
      refine XS.dup X15.here hx rfl (hb hby d1_70) rfl rfl ?_
      show Steps p.tables e below (T15.setTop (mkF m 71 #[.val (.int p1), .val (.int p2), .unset, .unset] [(.ref b3), (.ref b3)])) _
      refine XS.bipush X15.here hx rfl (hb hby d1_71) ?_
      show Steps p.tables e below (T15.setTop (mkF m 73 #[.val (.int p1), .val (.int p2), .unset, .unset] [(.int (12 : Int32)), (.ref b3), (.ref b3)])) _
      refine XS.bipush X15.here hx rfl (hb hby d1_73) ?_
      show Steps p.tables e below (T15.setTop (mkF m 75 #[.val (.int p1), .val (.int p2), .unset, .unset] [(.int (126 : Int32)), (.int (12 : Int32)), (.ref b3), (.ref b3)])) _
      refine st16 _ ?_
      show Steps p.tables e below (T16.setTop (mkF m 76 #[.val (.int p1), .val (.int p2), .unset, .unset] [(.ref b3)])) _
      refine XS.dup X16.here hx rfl (hb hby d1_76) rfl rfl ?_
      show Steps p.tables e below (T16.setTop (mkF m 77 #[.val (.int p1), .val (.int p2), .unset, .unset] [(.ref b3), (.ref b3)])) _
      refine XS.bipush X16.here hx rfl (hb hby d1_77) ?_
      show Steps p.tables e below (T16.setTop (mkF m 79 #[.val (.int p1), .val (.int p2), .unset, .unset] [(.int (13 : Int32)), (.ref b3), (.ref b3)])) _
      refine XS.iconst X16.here hx rfl (hb hby d1_79) ?_
      show Steps p.tables e below (T16.setTop (mkF m 80 #[.val (.int p1), .val (.int p2), .unset, .unset] [(.int (-1 : Int32)), (.int (13 : Int32)), (.ref b3), (.ref b3)])) _
      refine st17 _ ?_
      show Steps p.tables e below (T17.setTop (mkF m 81 #[.val (.int p1), .val (.int p2), .unset, .unset] [(.ref b3)])) _
      refine XS.dup X17.here hx rfl (hb hby d1_81) rfl rfl ?_
      show Steps p.tables e below (T17.setTop (mkF m 82 #[.val (.int p1), .val (.int p2), .unset, .unset] [(.ref b3), (.ref b3)])) _
      refine XS.bipush X17.here hx rfl (hb hby d1_82) ?_
      show Steps p.tables e below (T17.setTop (mkF m 84 #[.val (.int p1), .val (.int p2), .unset, .unset] [(.int (14 : Int32)), (.ref b3), (.ref b3)])) _
      refine XS.bipush X17.here hx rfl (hb hby d1_84) ?_
      show Steps p.tables e below (T17.setTop (mkF m 86 #[.val (.int p1), .val (.int p2), .unset, .unset] [(.int (10 : Int32)), (.int (14 : Int32)), (.ref b3), (.ref b3)])) _
      refine st18 _ ?_
      show Steps p.tables e below (T18.setTop (mkF m 87 #[.val (.int p1), .val (.int p2), .unset, .unset] [(.ref b3)])) _
      refine XS.dup X18.here hx rfl (hb hby d1_87) rfl rfl ?_
      show Steps p.tables e below (T18.setTop (mkF m 88 #[.val (.int p1), .val (.int p2), .unset, .unset] [(.ref b3), (.ref b3)])) _
      refine XS.bipush X18.here hx rfl (hb hby d1_88) ?_
      show Steps p.tables e below (T18.setTop (mkF m 90 #[.val (.int p1), .val (.int p2), .unset, .unset] [(.int (15 : Int32)), (.ref b3), (.ref b3)])) _
      refine XS.bipush X18.here hx rfl (hb hby d1_90) ?_
      show Steps p.tables e below (T18.setTop (mkF m 92 #[.val (.int p1), .val (.int p2), .unset, .unset] [(.int (32 : Int32)), (.int (15 : Int32)), (.ref b3), (.ref b3)])) _
      refine st19 _ ?_
      show Steps p.tables e below (T19.setTop (mkF m 93 #[.val (.int p1), .val (.int p2), .unset, .unset] [(.ref b3)])) _
      refine XS.dup X19.here hx rfl (hb hby d1_93) rfl rfl ?_
      show Steps p.tables e below (T19.setTop (mkF m 94 #[.val (.int p1), .val (.int p2), .unset, .unset] [(.ref b3), (.ref b3)])) _
      refine XS.bipush X19.here hx rfl (hb hby d1_94) ?_
      show Steps p.tables e below (T19.setTop (mkF m 96 #[.val (.int p1), .val (.int p2), .unset, .unset] [(.int (16 : Int32)), (.ref b3), (.ref b3)])) _
      refine XS.bipush X19.here hx rfl (hb hby d1_96) ?_
      show Steps p.tables e below (T19.setTop (mkF m 98 #[.val (.int p1), .val (.int p2), .unset, .unset] [(.int (9 : Int32)), (.int (16 : Int32)), (.ref b3), (.ref b3)])) _
      refine st20 _ ?_
      show Steps p.tables e below (T20.setTop (mkF m 99 #[.val (.int p1), .val (.int p2), .unset, .unset] [(.ref b3)])) _
      refine XS.dup X20.here hx rfl (hb hby d1_99) rfl rfl ?_
      show Steps p.tables e below (T20.setTop (mkF m 100 #[.val (.int p1), .val (.int p2), .unset, .unset] [(.ref b3), (.ref b3)])) _
      refine XS.bipush X20.here hx rfl (hb hby d1_100) ?_
      show Steps p.tables e below (T20.setTop (mkF m 102 #[.val (.int p1), .val (.int p2), .unset, .unset] [(.int (17 : Int32)), (.ref b3), (.ref b3)])) _
      refine XS.bipush X20.here hx rfl (hb hby d1_102) ?_
      show Steps p.tables e below (T20.setTop (mkF m 104 #[.val (.int p1), .val (.int p2), .unset, .unset] [(.int (58 : Int32)), (.int (17 : Int32)), (.ref b3), (.ref b3)])) _
      refine st21 _ ?_
      show Steps p.tables e below (T21.setTop (mkF m 105 #[.val (.int p1), .val (.int p2), .unset, .unset] [(.ref b3)])) _
      refine XS.dup X21.here hx rfl (hb hby d1_105) rfl rfl ?_
      show Steps p.tables e below (T21.setTop (mkF m 106 #[.val (.int p1), .val (.int p2), .unset, .unset] [(.ref b3), (.ref b3)])) _
      refine XS.bipush X21.here hx rfl (hb hby d1_106) ?_
      show Steps p.tables e below (T21.setTop (mkF m 108 #[.val (.int p1), .val (.int p2), .unset, .unset] [(.int (18 : Int32)), (.ref b3), (.ref b3)])) _
      refine XS.bipush X21.here hx rfl (hb hby d1_108) ?_
      show Steps p.tables e below (T21.setTop (mkF m 110 #[.val (.int p1), .val (.int p2), .unset, .unset] [(.int (35 : Int32)), (.int (18 : Int32)), (.ref b3), (.ref b3)])) _
      refine st22 _ ?_
      show Steps p.tables e below (T22.setTop (mkF m 111 #[.val (.int p1), .val (.int p2), .unset, .unset] [(.ref b3)])) _
      refine XS.dup X22.here hx rfl (hb hby d1_111) rfl rfl ?_
      show Steps p.tables e below (T22.setTop (mkF m 112 #[.val (.int p1), .val (.int p2), .unset, .unset] [(.ref b3), (.ref b3)])) _
      refine XS.bipush X22.here hx rfl (hb hby d1_112) ?_
      show Steps p.tables e below (T22.setTop (mkF m 114 #[.val (.int p1), .val (.int p2), .unset, .unset] [(.int (19 : Int32)), (.ref b3), (.ref b3)])) _
      refine XS.bipush X22.here hx rfl (hb hby d1_114) ?_
      show Steps p.tables e below (T22.setTop (mkF m 116 #[.val (.int p1), .val (.int p2), .unset, .unset] [(.int (40 : Int32)), (.int (19 : Int32)), (.ref b3), (.ref b3)])) _
      refine st23 _ ?_
      show Steps p.tables e below (T23.setTop (mkF m 117 #[.val (.int p1), .val (.int p2), .unset, .unset] [(.ref b3)])) _
      refine XS.dup X23.here hx rfl (hb hby d1_117) rfl rfl ?_
      show Steps p.tables e below (T23.setTop (mkF m 118 #[.val (.int p1), .val (.int p2), .unset, .unset] [(.ref b3), (.ref b3)])) _
      refine XS.bipush X23.here hx rfl (hb hby d1_118) ?_
      show Steps p.tables e below (T23.setTop (mkF m 120 #[.val (.int p1), .val (.int p2), .unset, .unset] [(.int (20 : Int32)), (.ref b3), (.ref b3)])) _
      refine XS.bipush X23.here hx rfl (hb hby d1_120) ?_
      show Steps p.tables e below (T23.setTop (mkF m 122 #[.val (.int p1), .val (.int p2), .unset, .unset] [(.int (41 : Int32)), (.int (20 : Int32)), (.ref b3), (.ref b3)])) _
      refine st24 _ ?_
      show Steps p.tables e below (T24.setTop (mkF m 123 #[.val (.int p1), .val (.int p2), .unset, .unset] [(.ref b3)])) _
      refine XS.dup X24.here hx rfl (hb hby d1_123) rfl rfl ?_
      show Steps p.tables e below (T24.setTop (mkF m 124 #[.val (.int p1), .val (.int p2), .unset, .unset] [(.ref b3), (.ref b3)])) _
      refine XS.bipush X24.here hx rfl (hb hby d1_124) ?_
      show Steps p.tables e below (T24.setTop (mkF m 126 #[.val (.int p1), .val (.int p2), .unset, .unset] [(.int (21 : Int32)), (.ref b3), (.ref b3)])) _
      refine XS.bipush X24.here hx rfl (hb hby d1_126) ?_
      show Steps p.tables e below (T24.setTop (mkF m 128 #[.val (.int p1), .val (.int p2), .unset, .unset] [(.int (60 : Int32)), (.int (21 : Int32)), (.ref b3), (.ref b3)])) _
      refine st25 _ ?_
      show Steps p.tables e below (T25.setTop (mkF m 129 #[.val (.int p1), .val (.int p2), .unset, .unset] [(.ref b3)])) _
      refine XS.dup X25.here hx rfl (hb hby d1_129) rfl rfl ?_
      show Steps p.tables e below (T25.setTop (mkF m 130 #[.val (.int p1), .val (.int p2), .unset, .unset] [(.ref b3), (.ref b3)])) _
      refine XS.bipush X25.here hx rfl (hb hby d1_130) ?_
      show Steps p.tables e below (T25.setTop (mkF m 132 #[.val (.int p1), .val (.int p2), .unset, .unset] [(.int (22 : Int32)), (.ref b3), (.ref b3)])) _
      refine XS.bipush X25.here hx rfl (hb hby d1_132) ?_
      show Steps p.tables e below (T25.setTop (mkF m 134 #[.val (.int p1), .val (.int p2), .unset, .unset] [(.int (62 : Int32)), (.int (22 : Int32)), (.ref b3), (.ref b3)])) _
      refine st26 _ ?_
      show Steps p.tables e below (T26.setTop (mkF m 135 #[.val (.int p1), .val (.int p2), .unset, .unset] [(.ref b3)])) _
      refine XS.dup X26.here hx rfl (hb hby d1_135) rfl rfl ?_
      show Steps p.tables e below (T26.setTop (mkF m 136 #[.val (.int p1), .val (.int p2), .unset, .unset] [(.ref b3), (.ref b3)])) _
      refine XS.bipush X26.here hx rfl (hb hby d1_136) ?_
      show Steps p.tables e below (T26.setTop (mkF m 138 #[.val (.int p1), .val (.int p2), .unset, .unset] [(.int (23 : Int32)), (.ref b3), (.ref b3)])) _
      refine X26.ldcInt hx hown (mvT hZ (hw _ (List.mem_of_getElem? (i := 5) rfl))) (g := (mkF m 138 #[.val (.int p1), .val (.int p2), .unset, .unset] [(.int (23 : Int32)), (.ref b3), (.ref b3)])) rfl (hb hby d1_138) _ ?_
      show Steps p.tables e below (T26.setTop (mkF m 140 #[.val (.int p1), .val (.int p2), .unset, .unset] [(.int (65580 : Int32)), (.int (23 : Int32)), (.ref b3), (.ref b3)])) _
      refine st27 _ ?_
      show Steps p.tables e below (T27.setTop (mkF m 141 #[.val (.int p1), .val (.int p2), .unset, .unset] [(.ref b3)])) _
      refine XS.dup X27.here hx rfl (hb hby d1_141) rfl rfl ?_
      show Steps p.tables e below (T27.setTop (mkF m 142 #[.val (.int p1), .val (.int p2), .unset, .unset] [(.ref b3), (.ref b3)])) _
      refine XS.bipush X27.here hx rfl (hb hby d1_142) ?_
      show Steps p.tables e below (T27.setTop (mkF m 144 #[.val (.int p1), .val (.int p2), .unset, .unset] [(.int (24 : Int32)), (.ref b3), (.ref b3)])) _
      refine X27.ldcInt hx hown (mvT hZ (hw _ (List.mem_of_getElem? (i := 6) rfl))) (g := (mkF m 144 #[.val (.int p1), .val (.int p2), .unset, .unset] [(.int (24 : Int32)), (.ref b3), (.ref b3)])) rfl (hb hby d1_144) _ ?_
      show Steps p.tables e below (T27.setTop (mkF m 146 #[.val (.int p1), .val (.int p2), .unset, .unset] [(.int (65627 : Int32)), (.int (24 : Int32)), (.ref b3), (.ref b3)])) _
      refine st28 _ ?_
      show Steps p.tables e below (T28.setTop (mkF m 147 #[.val (.int p1), .val (.int p2), .unset, .unset] [(.ref b3)])) _
      refine XS.dup X28.here hx rfl (hb hby d1_147) rfl rfl ?_
      show Steps p.tables e below (T28.setTop (mkF m 148 #[.val (.int p1), .val (.int p2), .unset, .unset] [(.ref b3), (.ref b3)])) _
      refine XS.bipush X28.here hx rfl (hb hby d1_148) ?_
      show Steps p.tables e below (T28.setTop (mkF m 150 #[.val (.int p1), .val (.int p2), .unset, .unset] [(.int (25 : Int32)), (.ref b3), (.ref b3)])) _
      refine X28.ldcInt hx hown (mvT hZ (hw _ (List.mem_of_getElem? (i := 7) rfl))) (g := (mkF m 150 #[.val (.int p1), .val (.int p2), .unset, .unset] [(.int (25 : Int32)), (.ref b3), (.ref b3)])) rfl (hb hby d1_150) _ ?_
      show Steps p.tables e below (T28.setTop (mkF m 152 #[.val (.int p1), .val (.int p2), .unset, .unset] [(.int (65629 : Int32)), (.int (25 : Int32)), (.ref b3), (.ref b3)])) _
      refine st29 _ ?_
      show Steps p.tables e below (T29.setTop (mkF m 153 #[.val (.int p1), .val (.int p2), .unset, .unset] [(.ref b3)])) _
      refine XS.dup X29.here hx rfl (hb hby d1_153) rfl rfl ?_
      show Steps p.tables e below (T29.setTop (mkF m 154 #[.val (.int p1), .val (.int p2), .unset, .unset] [(.ref b3), (.ref b3)])) _
      refine XS.bipush X29.here hx rfl (hb hby d1_154) ?_
      show Steps p.tables e below (T29.setTop (mkF m 156 #[.val (.int p1), .val (.int p2), .unset, .unset] [(.int (26 : Int32)), (.ref b3), (.ref b3)])) _
      refine X29.ldcInt hx hown (mvT hZ (hw _ (List.mem_of_getElem? (i := 8) rfl))) (g := (mkF m 156 #[.val (.int p1), .val (.int p2), .unset, .unset] [(.int (26 : Int32)), (.ref b3), (.ref b3)])) rfl (hb hby d1_156) _ ?_
      show Steps p.tables e below (T29.setTop (mkF m 158 #[.val (.int p1), .val (.int p2), .unset, .unset] [(.int (65659 : Int32)), (.int (26 : Int32)), (.ref b3), (.ref b3)])) _
      refine st30 _ ?_
      show Steps p.tables e below (T30.setTop (mkF m 159 #[.val (.int p1), .val (.int p2), .unset, .unset] [(.ref b3)])) _
      refine XS.dup X30.here hx rfl (hb hby d1_159) rfl rfl ?_
      show Steps p.tables e below (T30.setTop (mkF m 160 #[.val (.int p1), .val (.int p2), .unset, .unset] [(.ref b3), (.ref b3)])) _
      refine XS.bipush X30.here hx rfl (hb hby d1_160) ?_
      show Steps p.tables e below (T30.setTop (mkF m 162 #[.val (.int p1), .val (.int p2), .unset, .unset] [(.int (27 : Int32)), (.ref b3), (.ref b3)])) _
      refine X30.ldcInt hx hown (mvT hZ (hw _ (List.mem_of_getElem? (i := 9) rfl))) (g := (mkF m 162 #[.val (.int p1), .val (.int p2), .unset, .unset] [(.int (27 : Int32)), (.ref b3), (.ref b3)])) rfl (hb hby d1_162) _ ?_
      show Steps p.tables e below (T30.setTop (mkF m 164 #[.val (.int p1), .val (.int p2), .unset, .unset] [(.int (65661 : Int32)), (.int (27 : Int32)), (.ref b3), (.ref b3)])) _
      refine st31 _ ?_
      show Steps p.tables e below (T31.setTop (mkF m 165 #[.val (.int p1), .val (.int p2), .unset, .unset] [(.ref b3)])) _
      refine XS.astoreN X31.here hx rfl (hb hby d1_165) rfl rfl (l' := #[.val (.int p1), .val (.int p2), .val (.ref b3), .unset]) rfl ?_
      show Steps p.tables e below (T31.setTop (mkF m 166 #[.val (.int p1), .val (.int p2), .val (.ref b3), .unset] [])) _
      refine XS.iloadN X31.here hx rfl (hb hby d1_166) rfl ?_
      show Steps p.tables e below (T31.setTop (mkF m 167 #[.val (.int p1), .val (.int p2), .val (.ref b3), .unset] [(.int p2)])) _
      refine XS.bipush X31.here hx rfl (hb hby d1_167) ?_
      show Steps p.tables e below (T31.setTop (mkF m 169 #[.val (.int p1), .val (.int p2), .val (.ref b3), .unset] [(.int (31 : Int32)), (.int p2)])) _
      refine XS.iand X31.here hx rfl (hb hby d1_169) rfl ?_
      show Steps p.tables e below (T31.setTop (mkF m 170 #[.val (.int p1), .val (.int p2), .val (.ref b3), .unset] [(.int (p2 &&& (31 : Int32)))])) _
      refine XS.istoreN X31.here hx rfl (hb hby d1_170) rfl (l' := #[.val (.int p1), .val (.int p2), .val (.ref b3), .val (.int (p2 &&& (31 : Int32)))]) rfl ?_
      show Steps p.tables e below (T31.setTop (mkF m 171 #[.val (.int p1), .val (.int p2), .val (.ref b3), .val (.int (p2 &&& (31 : Int32)))] [])) _
      refine XS.iloadN X31.here hx rfl (hb hby d1_171) rfl ?_
      show Steps p.tables e below (T31.setTop (mkF m 172 #[.val (.int p1), .val (.int p2), .val (.ref b3), .val (.int (p2 &&& (31 : Int32)))] [(.int (p2 &&& (31 : Int32)))])) _
      refine XS.aloadN X31.here hx rfl (hb hby d1_172) rfl rfl ?_
      show Steps p.tables e below (T31.setTop (mkF m 173 #[.val (.int p1), .val (.int p2), .val (.ref b3), .val (.int (p2 &&& (31 : Int32)))] [(.ref b3), (.int (p2 &&& (31 : Int32)))])) _
      refine X31.arraylength hx (by rw [e31]; exact Ar_b3.1) (State.isArrayOf_alike hZ.alike Ar_b3.2.1) (g := (mkF m 173 #[.val (.int p1), .val (.int p2), .val (.ref b3), .val (.int (p2 &&& (31 : Int32)))] [(.ref b3), (.int (p2 &&& (31 : Int32)))])) rfl rfl (hb hby d1_173) _ ?_
      rw [len_of S_b3 N_b3]
      show Steps p.tables e below (T31.setTop (mkF m 174 #[.val (.int p1), .val (.int p2), .val (.ref b3), .val (.int (p2 &&& (31 : Int32)))] [(.int (28 : Int32)), (.int (p2 &&& (31 : Int32)))])) _
      refine XS.icmpYes X31.here hx rfl (pc0 := 174) (pc' := 181) rfl (hb hby d1_174) rfl (flt hc174).2.1 (by decide) (by decide) ?_
      show Steps p.tables e below (T31.setTop (mkF m 181 #[.val (.int p1), .val (.int p2), .val (.ref b3), .val (.int (p2 &&& (31 : Int32)))] [])) _
      refine XS.iloadN X31.here hx rfl (hb hby d1_181) rfl ?_
      show Steps p.tables e below (T31.setTop (mkF m 182 #[.val (.int p1), .val (.int p2), .val (.ref b3), .val (.int (p2 &&& (31 : Int32)))] [(.int p1)])) _
      exact retI X31 hx Bd.returns (hb hby d1_182) hr      -- retI stands in the head ('lawwalk <made dir>' prints it)
    · show Q1 Z p1 p2 h0 n0 _ T31.heap _
      rw [e31]
      exact ⟨⟨_, rfl⟩, N31, K31⟩
theorem d2_0 : decode prog_49_method_40_code 0 = .ok (.iload_n 0, 1) := by decide +kernel
theorem d2_1 : decode prog_49_method_40_code 1 = .ok (.bipush 44, 2) := by decide +kernel
theorem d2_3 : decode prog_49_method_40_code 3 = .ok (.if_icmp .eq 27, 3) := by decide +kernel
theorem d2_6 : decode prog_49_method_40_code 6 = .ok (.iload_n 0, 1) := by decide +kernel
theorem d2_7 : decode prog_49_method_40_code 7 = .ok (.bipush 91, 2) := by decide +kernel
theorem d2_9 : decode prog_49_method_40_code 9 = .ok (.if_icmp .eq 21, 3) := by decide +kernel
theorem d2_12 : decode prog_49_method_40_code 12 = .ok (.iload_n 0, 1) := by decide +kernel
theorem d2_13 : decode prog_49_method_40_code 13 = .ok (.bipush 93, 2) := by decide +kernel
theorem d2_15 : decode prog_49_method_40_code 15 = .ok (.if_icmp .eq 15, 3) := by decide +kernel
theorem d2_18 : decode prog_49_method_40_code 18 = .ok (.iload_n 0, 1) := by decide +kernel
theorem d2_19 : decode prog_49_method_40_code 19 = .ok (.bipush 123, 2) := by decide +kernel
theorem d2_21 : decode prog_49_method_40_code 21 = .ok (.if_icmp .eq 9, 3) := by decide +kernel
theorem d2_24 : decode prog_49_method_40_code 24 = .ok (.iload_n 0, 1) := by decide +kernel
theorem d2_25 : decode prog_49_method_40_code 25 = .ok (.bipush 125, 2) := by decide +kernel
theorem d2_27 : decode prog_49_method_40_code 27 = .ok (.if_icmp .ne 7, 3) := by decide +kernel
theorem d2_30 : decode prog_49_method_40_code 30 = .ok (.iconst 1, 1) := by decide +kernel
theorem d2_31 : decode prog_49_method_40_code 31 = .ok (.goto 4, 3) := by decide +kernel
theorem d2_34 : decode prog_49_method_40_code 34 = .ok (.iconst 0, 1) := by decide +kernel
theorem d2_35 : decode prog_49_method_40_code 35 = .ok (.ireturn, 1) := by decide +kernel
theorem pn_2 : plainName "com/example/rolecall/rolecall/sources/YamlText" = true := by first | (simp [plainName, overriddenIn]; done) | decide +kernel
theorem ef_2 (m : MethodId) (x0 : Int32) : entryFrame m #[(.int x0)] 1 = mkF m 0 #[.val (.int x0)] [] := by first | (simp [entryFrame, mkF, argsToLocals, Value.category]; done) | rfl
def Q2 (Z : State) (p1 : Int32) (h0 : Heap) (n0 : Nat) (v : Option Value) (h : Heap) (L : List Loc) : Prop := v = some (.int (own_f2 p1)) ∧ Fr n0 L ∧ h = h0
set_option maxRecDepth 65536 in
set_option maxHeartbeats 40000000 in
theorem rm2 (l : Launch) (Z : State) (a0 : Array Value) (hw : ∀ d ∈ tables_1, d.before a0 Z = true) (ws : List Jvm.Cond) (p1 : Int32) (h0 : Heap) (n0 : Nat) (Z0 : n0 ≤ h0.size) :
    MetFree l (⟨"com/example/rolecall/rolecall/sources/YamlText", "isFlowIndicator", "(I)Z"⟩ : MethodName) (head1 (Jvm.Cond.code (⟨"com/example/rolecall/rolecall/sources/YamlText", "isFlowIndicator", "(I)Z"⟩ : MethodName) prog_49_method_40_code 1 (some .boolean) :: ws) ({ frames := 0, cells := 0, slots := 0, locals := 0 } : Room)) (fun a U => a = #[(.int p1)] ∧ Z.Warmed39 U.vm ∧ U.heap = h0) (fun _ _ _ _ _ => True) (fun _ U o U' => ∃ v L, o = .returned v ∧ Q2 Z p1 h0 n0 v U'.heap L ∧ FrameEnd U o U' L ({ frames := 0, cells := 0, slots := 0, locals := 0 } : Room).cells ({ frames := 0, cells := 0, slots := 0, locals := 0 } : Room).slots) := by
  refine MetFree.of_bodySF (plainFor_of_name pn_2) hisR ?_
  intro p e s m args below meth c s₁ Bd hml0 hP hK
  obtain ⟨rfl, hZ, hh⟩ := hP
  have hx := Bd.exec
  have hby := Bd.bytes
  have hml : c.maxLocals = 1 := hml0
  have hown : s.vm.findClass "com/example/rolecall/rolecall/sources/YamlText" = some m.cls := findClass_of_methodNamed Bd.named
  have hnm := (name_of_methodNamed Bd.named Bd.method).1
  have X0 : Stand p l e ({ frames := 0, cells := 0, slots := 0, locals := 0 } : Room) s m #[(.int p1)] below meth c s₁ [] 0 0 := Stand.of_body Bd
  have e0 : s₁.heap = h0 := by rw [← hh, Bd.state]; rfl
  have N0 := Fr.nil n0
  have pre0 : ∀ t, Steps p.tables e below (s₁.setTop (mkF m 0 #[.val (.int p1)] [])) t → Steps p.tables e below (s₁.setTop (entryFrame m #[(.int p1)] 1)) t := fun t k => castTop (ef_2 m p1) k
  by_cases hc3 : p1 = (44 : Int32)
  · obtain ⟨fs, hr, hrun, hended, hW, hsame⟩ := X0.leave (v := some (.int (1 : Int32))) (fun h => by rw [Bd.returns] at h; cases h)
    refine ⟨_, _, pre0 _ ?_, hrun, hended, _, _, rfl, ?_, ⟨_, rfl⟩, hW, hsame.mono (by decide) (by decide)⟩
    · show Steps p.tables e below (s₁.setTop (mkF m 0 #[.val (.int p1)] [])) _
      refine XS.iloadN X0.here hx rfl (hb hby d2_0) rfl ?_
      show Steps p.tables e below (s₁.setTop (mkF m 1 #[.val (.int p1)] [(.int p1)])) _
      refine XS.bipush X0.here hx rfl (hb hby d2_1) ?_
      show Steps p.tables e below (s₁.setTop (mkF m 3 #[.val (.int p1)] [(.int (44 : Int32)), (.int p1)])) _
      refine XS.icmpYes X0.here hx rfl (pc0 := 3) (pc' := 30) rfl (hb hby d2_3) rfl (teq hc3).1 (by decide) (by decide) ?_
      show Steps p.tables e below (s₁.setTop (mkF m 30 #[.val (.int p1)] [])) _
      refine XS.iconst X0.here hx rfl (hb hby d2_30) ?_
      show Steps p.tables e below (s₁.setTop (mkF m 31 #[.val (.int p1)] [(.int (1 : Int32))])) _
      refine XS.goto X0.here hx rfl (pc0 := 31) (pc' := 35) rfl (hb hby d2_31) (by decide) (by decide) ?_
      show Steps p.tables e below (s₁.setTop (mkF m 35 #[.val (.int p1)] [(.int (1 : Int32))])) _
      exact retN X0 hx (t := .boolean) Bd.returns (by simp) (hb hby d2_35) hr
    · show Q2 Z p1 h0 n0 _ s₁.heap _
      rw [e0]
      exact ⟨(by simp [own_f2, hc3]), N0, rfl⟩
  · by_cases hc9 : p1 = (91 : Int32)
    · obtain ⟨fs, hr, hrun, hended, hW, hsame⟩ := X0.leave (v := some (.int (1 : Int32))) (fun h => by rw [Bd.returns] at h; cases h)
      refine ⟨_, _, pre0 _ ?_, hrun, hended, _, _, rfl, ?_, ⟨_, rfl⟩, hW, hsame.mono (by decide) (by decide)⟩
      · show Steps p.tables e below (s₁.setTop (mkF m 0 #[.val (.int p1)] [])) _
        refine XS.iloadN X0.here hx rfl (hb hby d2_0) rfl ?_
        show Steps p.tables e below (s₁.setTop (mkF m 1 #[.val (.int p1)] [(.int p1)])) _
        refine XS.bipush X0.here hx rfl (hb hby d2_1) ?_
        show Steps p.tables e below (s₁.setTop (mkF m 3 #[.val (.int p1)] [(.int (44 : Int32)), (.int p1)])) _
        refine XS.icmpNo X0.here hx rfl (hb hby d2_3) rfl (feq hc3).1 ?_
        show Steps p.tables e below (s₁.setTop (mkF m 6 #[.val (.int p1)] [])) _
        refine XS.iloadN X0.here hx rfl (hb hby d2_6) rfl ?_
        show Steps p.tables e below (s₁.setTop (mkF m 7 #[.val (.int p1)] [(.int p1)])) _
        refine XS.bipush X0.here hx rfl (hb hby d2_7) ?_
        show Steps p.tables e below (s₁.setTop (mkF m 9 #[.val (.int p1)] [(.int (91 : Int32)), (.int p1)])) _
        refine XS.icmpYes X0.here hx rfl (pc0 := 9) (pc' := 30) rfl (hb hby d2_9) rfl (teq hc9).1 (by decide) (by decide) ?_
        show Steps p.tables e below (s₁.setTop (mkF m 30 #[.val (.int p1)] [])) _
        refine XS.iconst X0.here hx rfl (hb hby d2_30) ?_
        show Steps p.tables e below (s₁.setTop (mkF m 31 #[.val (.int p1)] [(.int (1 : Int32))])) _
        refine XS.goto X0.here hx rfl (pc0 := 31) (pc' := 35) rfl (hb hby d2_31) (by decide) (by decide) ?_
        show Steps p.tables e below (s₁.setTop (mkF m 35 #[.val (.int p1)] [(.int (1 : Int32))])) _
        exact retN X0 hx (t := .boolean) Bd.returns (by simp) (hb hby d2_35) hr
      · show Q2 Z p1 h0 n0 _ s₁.heap _
        rw [e0]
        exact ⟨(by simp [own_f2, hc3, hc9]), N0, rfl⟩
    · by_cases hc15 : p1 = (93 : Int32)
      · obtain ⟨fs, hr, hrun, hended, hW, hsame⟩ := X0.leave (v := some (.int (1 : Int32))) (fun h => by rw [Bd.returns] at h; cases h)
        refine ⟨_, _, pre0 _ ?_, hrun, hended, _, _, rfl, ?_, ⟨_, rfl⟩, hW, hsame.mono (by decide) (by decide)⟩
        · show Steps p.tables e below (s₁.setTop (mkF m 0 #[.val (.int p1)] [])) _
          refine XS.iloadN X0.here hx rfl (hb hby d2_0) rfl ?_
          show Steps p.tables e below (s₁.setTop (mkF m 1 #[.val (.int p1)] [(.int p1)])) _
          refine XS.bipush X0.here hx rfl (hb hby d2_1) ?_
          show Steps p.tables e below (s₁.setTop (mkF m 3 #[.val (.int p1)] [(.int (44 : Int32)), (.int p1)])) _
          refine XS.icmpNo X0.here hx rfl (hb hby d2_3) rfl (feq hc3).1 ?_
          show Steps p.tables e below (s₁.setTop (mkF m 6 #[.val (.int p1)] [])) _
          refine XS.iloadN X0.here hx rfl (hb hby d2_6) rfl ?_
          show Steps p.tables e below (s₁.setTop (mkF m 7 #[.val (.int p1)] [(.int p1)])) _
          refine XS.bipush X0.here hx rfl (hb hby d2_7) ?_
          show Steps p.tables e below (s₁.setTop (mkF m 9 #[.val (.int p1)] [(.int (91 : Int32)), (.int p1)])) _
          refine XS.icmpNo X0.here hx rfl (hb hby d2_9) rfl (feq hc9).1 ?_
          show Steps p.tables e below (s₁.setTop (mkF m 12 #[.val (.int p1)] [])) _
          refine XS.iloadN X0.here hx rfl (hb hby d2_12) rfl ?_
          show Steps p.tables e below (s₁.setTop (mkF m 13 #[.val (.int p1)] [(.int p1)])) _
          refine XS.bipush X0.here hx rfl (hb hby d2_13) ?_
          show Steps p.tables e below (s₁.setTop (mkF m 15 #[.val (.int p1)] [(.int (93 : Int32)), (.int p1)])) _
          refine XS.icmpYes X0.here hx rfl (pc0 := 15) (pc' := 30) rfl (hb hby d2_15) rfl (teq hc15).1 (by decide) (by decide) ?_
          show Steps p.tables e below (s₁.setTop (mkF m 30 #[.val (.int p1)] [])) _
          refine XS.iconst X0.here hx rfl (hb hby d2_30) ?_
          show Steps p.tables e below (s₁.setTop (mkF m 31 #[.val (.int p1)] [(.int (1 : Int32))])) _
          refine XS.goto X0.here hx rfl (pc0 := 31) (pc' := 35) rfl (hb hby d2_31) (by decide) (by decide) ?_
          show Steps p.tables e below (s₁.setTop (mkF m 35 #[.val (.int p1)] [(.int (1 : Int32))])) _
          exact retN X0 hx (t := .boolean) Bd.returns (by simp) (hb hby d2_35) hr
        · show Q2 Z p1 h0 n0 _ s₁.heap _
          rw [e0]
          exact ⟨(by simp [own_f2, hc3, hc9, hc15]), N0, rfl⟩
      · by_cases hc21 : p1 = (123 : Int32)
        · obtain ⟨fs, hr, hrun, hended, hW, hsame⟩ := X0.leave (v := some (.int (1 : Int32))) (fun h => by rw [Bd.returns] at h; cases h)
          refine ⟨_, _, pre0 _ ?_, hrun, hended, _, _, rfl, ?_, ⟨_, rfl⟩, hW, hsame.mono (by decide) (by decide)⟩
          · show Steps p.tables e below (s₁.setTop (mkF m 0 #[.val (.int p1)] [])) _
            refine XS.iloadN X0.here hx rfl (hb hby d2_0) rfl ?_
            show Steps p.tables e below (s₁.setTop (mkF m 1 #[.val (.int p1)] [(.int p1)])) _
            refine XS.bipush X0.here hx rfl (hb hby d2_1) ?_
            show Steps p.tables e below (s₁.setTop (mkF m 3 #[.val (.int p1)] [(.int (44 : Int32)), (.int p1)])) _
            refine XS.icmpNo X0.here hx rfl (hb hby d2_3) rfl (feq hc3).1 ?_
            show Steps p.tables e below (s₁.setTop (mkF m 6 #[.val (.int p1)] [])) _
            refine XS.iloadN X0.here hx rfl (hb hby d2_6) rfl ?_
            show Steps p.tables e below (s₁.setTop (mkF m 7 #[.val (.int p1)] [(.int p1)])) _
            refine XS.bipush X0.here hx rfl (hb hby d2_7) ?_
            show Steps p.tables e below (s₁.setTop (mkF m 9 #[.val (.int p1)] [(.int (91 : Int32)), (.int p1)])) _
            refine XS.icmpNo X0.here hx rfl (hb hby d2_9) rfl (feq hc9).1 ?_
            show Steps p.tables e below (s₁.setTop (mkF m 12 #[.val (.int p1)] [])) _
            refine XS.iloadN X0.here hx rfl (hb hby d2_12) rfl ?_
            show Steps p.tables e below (s₁.setTop (mkF m 13 #[.val (.int p1)] [(.int p1)])) _
            refine XS.bipush X0.here hx rfl (hb hby d2_13) ?_
            show Steps p.tables e below (s₁.setTop (mkF m 15 #[.val (.int p1)] [(.int (93 : Int32)), (.int p1)])) _
            refine XS.icmpNo X0.here hx rfl (hb hby d2_15) rfl (feq hc15).1 ?_
            show Steps p.tables e below (s₁.setTop (mkF m 18 #[.val (.int p1)] [])) _
            refine XS.iloadN X0.here hx rfl (hb hby d2_18) rfl ?_
            show Steps p.tables e below (s₁.setTop (mkF m 19 #[.val (.int p1)] [(.int p1)])) _
            refine XS.bipush X0.here hx rfl (hb hby d2_19) ?_
            show Steps p.tables e below (s₁.setTop (mkF m 21 #[.val (.int p1)] [(.int (123 : Int32)), (.int p1)])) _
            refine XS.icmpYes X0.here hx rfl (pc0 := 21) (pc' := 30) rfl (hb hby d2_21) rfl (teq hc21).1 (by decide) (by decide) ?_
            show Steps p.tables e below (s₁.setTop (mkF m 30 #[.val (.int p1)] [])) _
            refine XS.iconst X0.here hx rfl (hb hby d2_30) ?_
            show Steps p.tables e below (s₁.setTop (mkF m 31 #[.val (.int p1)] [(.int (1 : Int32))])) _
            refine XS.goto X0.here hx rfl (pc0 := 31) (pc' := 35) rfl (hb hby d2_31) (by decide) (by decide) ?_
            show Steps p.tables e below (s₁.setTop (mkF m 35 #[.val (.int p1)] [(.int (1 : Int32))])) _
            exact retN X0 hx (t := .boolean) Bd.returns (by simp) (hb hby d2_35) hr
          · show Q2 Z p1 h0 n0 _ s₁.heap _
            rw [e0]
            exact ⟨(by simp [own_f2, hc3, hc9, hc15, hc21]), N0, rfl⟩
        · by_cases hc27 : p1 = (125 : Int32)
          · obtain ⟨fs, hr, hrun, hended, hW, hsame⟩ := X0.leave (v := some (.int (1 : Int32))) (fun h => by rw [Bd.returns] at h; cases h)
            refine ⟨_, _, pre0 _ ?_, hrun, hended, _, _, rfl, ?_, ⟨_, rfl⟩, hW, hsame.mono (by decide) (by decide)⟩
            · show Steps p.tables e below (s₁.setTop (mkF m 0 #[.val (.int p1)] [])) _
              refine XS.iloadN X0.here hx rfl (hb hby d2_0) rfl ?_
              show Steps p.tables e below (s₁.setTop (mkF m 1 #[.val (.int p1)] [(.int p1)])) _
              refine XS.bipush X0.here hx rfl (hb hby d2_1) ?_
              show Steps p.tables e below (s₁.setTop (mkF m 3 #[.val (.int p1)] [(.int (44 : Int32)), (.int p1)])) _
              refine XS.icmpNo X0.here hx rfl (hb hby d2_3) rfl (feq hc3).1 ?_
              show Steps p.tables e below (s₁.setTop (mkF m 6 #[.val (.int p1)] [])) _
              refine XS.iloadN X0.here hx rfl (hb hby d2_6) rfl ?_
              show Steps p.tables e below (s₁.setTop (mkF m 7 #[.val (.int p1)] [(.int p1)])) _
              refine XS.bipush X0.here hx rfl (hb hby d2_7) ?_
              show Steps p.tables e below (s₁.setTop (mkF m 9 #[.val (.int p1)] [(.int (91 : Int32)), (.int p1)])) _
              refine XS.icmpNo X0.here hx rfl (hb hby d2_9) rfl (feq hc9).1 ?_
              show Steps p.tables e below (s₁.setTop (mkF m 12 #[.val (.int p1)] [])) _
              refine XS.iloadN X0.here hx rfl (hb hby d2_12) rfl ?_
              show Steps p.tables e below (s₁.setTop (mkF m 13 #[.val (.int p1)] [(.int p1)])) _
              refine XS.bipush X0.here hx rfl (hb hby d2_13) ?_
              show Steps p.tables e below (s₁.setTop (mkF m 15 #[.val (.int p1)] [(.int (93 : Int32)), (.int p1)])) _
              refine XS.icmpNo X0.here hx rfl (hb hby d2_15) rfl (feq hc15).1 ?_
              show Steps p.tables e below (s₁.setTop (mkF m 18 #[.val (.int p1)] [])) _
              refine XS.iloadN X0.here hx rfl (hb hby d2_18) rfl ?_
              show Steps p.tables e below (s₁.setTop (mkF m 19 #[.val (.int p1)] [(.int p1)])) _
              refine XS.bipush X0.here hx rfl (hb hby d2_19) ?_
              show Steps p.tables e below (s₁.setTop (mkF m 21 #[.val (.int p1)] [(.int (123 : Int32)), (.int p1)])) _
              refine XS.icmpNo X0.here hx rfl (hb hby d2_21) rfl (feq hc21).1 ?_
              show Steps p.tables e below (s₁.setTop (mkF m 24 #[.val (.int p1)] [])) _
              refine XS.iloadN X0.here hx rfl (hb hby d2_24) rfl ?_
              show Steps p.tables e below (s₁.setTop (mkF m 25 #[.val (.int p1)] [(.int p1)])) _
              refine XS.bipush X0.here hx rfl (hb hby d2_25) ?_
              show Steps p.tables e below (s₁.setTop (mkF m 27 #[.val (.int p1)] [(.int (125 : Int32)), (.int p1)])) _
              refine XS.icmpNo X0.here hx rfl (hb hby d2_27) rfl (teq hc27).2 ?_
              show Steps p.tables e below (s₁.setTop (mkF m 30 #[.val (.int p1)] [])) _
              refine XS.iconst X0.here hx rfl (hb hby d2_30) ?_
              show Steps p.tables e below (s₁.setTop (mkF m 31 #[.val (.int p1)] [(.int (1 : Int32))])) _
              refine XS.goto X0.here hx rfl (pc0 := 31) (pc' := 35) rfl (hb hby d2_31) (by decide) (by decide) ?_
              show Steps p.tables e below (s₁.setTop (mkF m 35 #[.val (.int p1)] [(.int (1 : Int32))])) _
              exact retN X0 hx (t := .boolean) Bd.returns (by simp) (hb hby d2_35) hr
            · show Q2 Z p1 h0 n0 _ s₁.heap _
              rw [e0]
              exact ⟨(by simp [own_f2, hc3, hc9, hc15, hc21, hc27]), N0, rfl⟩
          · obtain ⟨fs, hr, hrun, hended, hW, hsame⟩ := X0.leave (v := some (.int (0 : Int32))) (fun h => by rw [Bd.returns] at h; cases h)
            refine ⟨_, _, pre0 _ ?_, hrun, hended, _, _, rfl, ?_, ⟨_, rfl⟩, hW, hsame.mono (by decide) (by decide)⟩
            · show Steps p.tables e below (s₁.setTop (mkF m 0 #[.val (.int p1)] [])) _
              refine XS.iloadN X0.here hx rfl (hb hby d2_0) rfl ?_
              show Steps p.tables e below (s₁.setTop (mkF m 1 #[.val (.int p1)] [(.int p1)])) _
              refine XS.bipush X0.here hx rfl (hb hby d2_1) ?_
              show Steps p.tables e below (s₁.setTop (mkF m 3 #[.val (.int p1)] [(.int (44 : Int32)), (.int p1)])) _
              refine XS.icmpNo X0.here hx rfl (hb hby d2_3) rfl (feq hc3).1 ?_
              show Steps p.tables e below (s₁.setTop (mkF m 6 #[.val (.int p1)] [])) _
              refine XS.iloadN X0.here hx rfl (hb hby d2_6) rfl ?_
              show Steps p.tables e below (s₁.setTop (mkF m 7 #[.val (.int p1)] [(.int p1)])) _
              refine XS.bipush X0.here hx rfl (hb hby d2_7) ?_
              show Steps p.tables e below (s₁.setTop (mkF m 9 #[.val (.int p1)] [(.int (91 : Int32)), (.int p1)])) _
              refine XS.icmpNo X0.here hx rfl (hb hby d2_9) rfl (feq hc9).1 ?_
              show Steps p.tables e below (s₁.setTop (mkF m 12 #[.val (.int p1)] [])) _
              refine XS.iloadN X0.here hx rfl (hb hby d2_12) rfl ?_
              show Steps p.tables e below (s₁.setTop (mkF m 13 #[.val (.int p1)] [(.int p1)])) _
              refine XS.bipush X0.here hx rfl (hb hby d2_13) ?_
              show Steps p.tables e below (s₁.setTop (mkF m 15 #[.val (.int p1)] [(.int (93 : Int32)), (.int p1)])) _
              refine XS.icmpNo X0.here hx rfl (hb hby d2_15) rfl (feq hc15).1 ?_
              show Steps p.tables e below (s₁.setTop (mkF m 18 #[.val (.int p1)] [])) _
              refine XS.iloadN X0.here hx rfl (hb hby d2_18) rfl ?_
              show Steps p.tables e below (s₁.setTop (mkF m 19 #[.val (.int p1)] [(.int p1)])) _
              refine XS.bipush X0.here hx rfl (hb hby d2_19) ?_
              show Steps p.tables e below (s₁.setTop (mkF m 21 #[.val (.int p1)] [(.int (123 : Int32)), (.int p1)])) _
              refine XS.icmpNo X0.here hx rfl (hb hby d2_21) rfl (feq hc21).1 ?_
              show Steps p.tables e below (s₁.setTop (mkF m 24 #[.val (.int p1)] [])) _
              refine XS.iloadN X0.here hx rfl (hb hby d2_24) rfl ?_
              show Steps p.tables e below (s₁.setTop (mkF m 25 #[.val (.int p1)] [(.int p1)])) _
              refine XS.bipush X0.here hx rfl (hb hby d2_25) ?_
              show Steps p.tables e below (s₁.setTop (mkF m 27 #[.val (.int p1)] [(.int (125 : Int32)), (.int p1)])) _
              refine XS.icmpYes X0.here hx rfl (pc0 := 27) (pc' := 34) rfl (hb hby d2_27) rfl (feq hc27).2 (by decide) (by decide) ?_
              show Steps p.tables e below (s₁.setTop (mkF m 34 #[.val (.int p1)] [])) _
              refine XS.iconst X0.here hx rfl (hb hby d2_34) ?_
              show Steps p.tables e below (s₁.setTop (mkF m 35 #[.val (.int p1)] [(.int (0 : Int32))])) _
              exact retN X0 hx (t := .boolean) Bd.returns (by simp) (hb hby d2_35) hr
            · show Q2 Z p1 h0 n0 _ s₁.heap _
              rw [e0]
              exact ⟨(by simp [own_f2, hc3, hc9, hc15, hc21, hc27]), N0, rfl⟩
theorem pn_0 : plainName "com/example/rolecall/rolecall/sources/YamlTextIsFlowIndicatorPinLaw" = true := by first | (simp [plainName, overriddenIn]; done) | decide +kernel
theorem pd_0_0 : parseMethodDescriptor "(II)I" = some ⟨[.int, .int], some .int⟩ := by decide +kernel
theorem pd_0_1 : parseMethodDescriptor "(I)Z" = some ⟨[.int], some .boolean⟩ := by decide +kernel
theorem ef_0 (m : MethodId) (x0 : Int32) (x1 : Int32) : entryFrame m #[(.int x0), (.int x1)] maxLocals = mkF m 0 #[.val (.int x0), .val (.int x1), .unset, .unset] [] := by first | (simp [entryFrame, mkF, argsToLocals, Value.category, maxLocals]; done) | rfl
def Q0 (Z : State) (p1 : Int32) (p2 : Int32) (h0 : Heap) (n0 : Nat) (v : Option Value) (h : Heap) (L : List Loc) : Prop := v = some (.int (1 : Int32)) ∧ Fr n0 L
set_option maxRecDepth 65536 in
set_option maxHeartbeats 40000000 in
theorem rm0 (l : Launch) (Z : State) (a0 : Array Value) (hw : ∀ d ∈ tables_1, d.before a0 Z = true) (ws : List Jvm.Cond) (p1 : Int32) (p2 : Int32) (h0 : Heap) (n0 : Nat) (Z0 : n0 ≤ h0.size) :
    MetFree l x (head1 (Jvm.Cond.code x code maxLocals ret :: ws) room_1) (fun a U => a = #[(.int p1), (.int p2)] ∧ Z.Warmed39 U.vm ∧ U.heap = h0) (fun _ _ _ _ _ => True) (fun _ U o U' => ∃ v L, o = .returned v ∧ Q0 Z p1 p2 h0 n0 v U'.heap L ∧ FrameEnd U o U' L room_1.cells room_1.slots) := by
  refine MetFree.of_bodySF (plainFor_of_name pn_0) hisR ?_
  intro p e s m args below meth c s₁ Bd hml0 hP hK
  obtain ⟨rfl, hZ, hh⟩ := hP
  have hx := Bd.exec
  have hby := Bd.bytes
  have hml : c.maxLocals = 4 := hml0
  have hown : s.vm.findClass "com/example/rolecall/rolecall/sources/YamlTextIsFlowIndicatorPinLaw" = some m.cls := findClass_of_methodNamed Bd.named
  have hnm := (name_of_methodNamed Bd.named Bd.method).1
  have X0 : Stand p l e room_1 s m #[(.int p1), (.int p2)] below meth c s₁ [] 0 0 := Stand.of_body Bd
  have e0 : s₁.heap = h0 := by rw [← hh, Bd.state]; rfl
  have N0 := Fr.nil n0
  have pre0 : ∀ t, Steps p.tables e below (s₁.setTop (mkF m 0 #[.val (.int p1), .val (.int p2), .unset, .unset] [])) t → Steps p.tables e below (s₁.setTop (entryFrame m #[(.int p1), (.int p2)] maxLocals)) t := fun t k => castTop (ef_0 m p1 p2) k
  obtain ⟨_, _, ⟨T3, L3, k3, n3⟩, -, X3, ⟨Lc3, hQ3, l3, y3, z3⟩, st3⟩ := Jvm.LawKit.callS X0 hx (y := (⟨"com/example/rolecall/rolecall/sources/YamlTextIsFlowIndicatorPinLaw", "pick", "(II)I"⟩ : MethodName)) hown (mvT hZ (hw _ (List.mem_of_getElem? (i := 0) rfl))) (mvT hZ (hw _ (List.mem_of_getElem? (i := 1) rfl))) (mvT hZ (hw _ (List.mem_of_getElem? (i := 2) rfl))) (mvT hZ (hw _ (List.mem_of_getElem? (i := 3) rfl))) (by decide) (backOf (W := 0) (rm1 l Z a0 hw [] p1 p2 h0 n0 Z0) hZ (hw _ (List.mem_of_getElem? (i := 3) rfl)) (hw _ (List.mem_of_getElem? (i := 2) rfl)) (by decide) (by decide)) (g := (mkF m 2 #[.val (.int p1), .val (.int p2), .unset, .unset] [(.int p2), (.int p1)])) rfl (by rw [hml]; rfl) (argsL := [(.int p1), (.int p2)]) (rest := []) (lenOf pd_0_0 rfl) rfl (by show 2 * 0 + _ ≤ _; exact Nat.le_of_eq rfl) (hb hby at_2) (fun _ _ => ⟨rfl, e0, (by decide : 0 + 1 ≤ _), (by decide : 0 + 28 ≤ _)⟩)
  dsimp only [Pt.U, Pt.locs, Pt.cells, Pt.slots] at X3 l3 y3 z3 st3 hQ3
  subst l3 y3 z3
  obtain ⟨⟨w2, rfl⟩, N3q, K3q⟩ := hQ3
  have Z_T3 : n0 ≤ T3.heap.size := Nat.le_trans Z0 K3q.1
  have N3 := Fr.app N0 N3q
  by_cases hc9 : w2 = (44 : Int32)
  · obtain ⟨_, _, ⟨T4, L4, k4, n4⟩, -, X4, ⟨Lc4, hQ4, l4, y4, z4⟩, st4⟩ := Jvm.LawKit.callS X3 hx (y := (⟨"com/example/rolecall/rolecall/sources/YamlText", "isFlowIndicator", "(I)Z"⟩ : MethodName)) hown (mvT hZ (hw _ (List.mem_of_getElem? (i := 10) rfl))) (mvT hZ (hw _ (List.mem_of_getElem? (i := 11) rfl))) (mvT hZ (hw _ (List.mem_of_getElem? (i := 12) rfl))) (mvT hZ (hw _ (List.mem_of_getElem? (i := 13) rfl))) (by decide) (backOf (W := 0) (rm2 l Z a0 hw [] w2 T3.heap n0 Z_T3) hZ (hw _ (List.mem_of_getElem? (i := 13) rfl)) (hw _ (List.mem_of_getElem? (i := 12) rfl)) (by decide) (by decide)) (g := (mkF m 43 #[.val (.int p1), .val (.int p2), .val (.int w2), .val (.int (1 : Int32))] [(.int w2)])) rfl (by rw [hml]; rfl) (argsL := [(.int w2)]) (rest := []) (lenOf pd_0_1 rfl) rfl (by show 2 * 0 + _ ≤ _; exact Nat.le_of_eq rfl) (hb hby at_43) (fun _ _ => ⟨rfl, rfl, (by decide : 1 + 0 ≤ _), (by decide : 28 + 0 ≤ _)⟩)
    dsimp only [Pt.U, Pt.locs, Pt.cells, Pt.slots] at X4 l4 y4 z4 st4 hQ4
    subst l4 y4 z4
    obtain ⟨rfl, N4q, -⟩ := hQ4
    have N4 := Fr.app N3 N4q
    obtain ⟨fs, hr, hrun, hended, hW, hsame⟩ := X4.leave (v := some (.int (1 : Int32))) (fun h => by rw [Bd.returns] at h; cases h)
    refine ⟨_, _, pre0 _ ?_, hrun, hended, _, _, rfl, ?_, ⟨_, rfl⟩, hW, hsame.mono (by decide) (by decide)⟩
    · show Steps p.tables e below (s₁.setTop (mkF m 0 #[.val (.int p1), .val (.int p2), .unset, .unset] [])) _
      refine XS.iloadN X0.here hx rfl (hb hby at_0) rfl ?_
      show Steps p.tables e below (s₁.setTop (mkF m 1 #[.val (.int p1), .val (.int p2), .unset, .unset] [(.int p1)])) _
      refine XS.iloadN X0.here hx rfl (hb hby at_1) rfl ?_
      show Steps p.tables e below (s₁.setTop (mkF m 2 #[.val (.int p1), .val (.int p2), .unset, .unset] [(.int p2), (.int p1)])) _
      refine st3 _ ?_
      show Steps p.tables e below (T3.setTop (mkF m 5 #[.val (.int p1), .val (.int p2), .unset, .unset] [(.int w2)])) _
      refine XS.istoreN X3.here hx rfl (hb hby at_5) rfl (l' := #[.val (.int p1), .val (.int p2), .val (.int w2), .unset]) rfl ?_
      show Steps p.tables e below (T3.setTop (mkF m 6 #[.val (.int p1), .val (.int p2), .val (.int w2), .unset] [])) _
      refine XS.iloadN X3.here hx rfl (hb hby at_6) rfl ?_
      show Steps p.tables e below (T3.setTop (mkF m 7 #[.val (.int p1), .val (.int p2), .val (.int w2), .unset] [(.int w2)])) _
      refine XS.bipush X3.here hx rfl (hb hby at_7) ?_
      show Steps p.tables e below (T3.setTop (mkF m 9 #[.val (.int p1), .val (.int p2), .val (.int w2), .unset] [(.int (44 : Int32)), (.int w2)])) _
      refine XS.icmpYes X3.here hx rfl (pc0 := 9) (pc' := 36) rfl (hb hby at_9) rfl (teq hc9).1 (by decide) (by decide) ?_
      show Steps p.tables e below (T3.setTop (mkF m 36 #[.val (.int p1), .val (.int p2), .val (.int w2), .unset] [])) _
      refine XS.iconst X3.here hx rfl (hb hby at_36) ?_
      show Steps p.tables e below (T3.setTop (mkF m 37 #[.val (.int p1), .val (.int p2), .val (.int w2), .unset] [(.int (1 : Int32))])) _
      refine XS.goto X3.here hx rfl (pc0 := 37) (pc' := 41) rfl (hb hby at_37) (by decide) (by decide) ?_
      show Steps p.tables e below (T3.setTop (mkF m 41 #[.val (.int p1), .val (.int p2), .val (.int w2), .unset] [(.int (1 : Int32))])) _
      refine XS.istoreN X3.here hx rfl (hb hby at_41) rfl (l' := #[.val (.int p1), .val (.int p2), .val (.int w2), .val (.int (1 : Int32))]) rfl ?_
      show Steps p.tables e below (T3.setTop (mkF m 42 #[.val (.int p1), .val (.int p2), .val (.int w2), .val (.int (1 : Int32))] [])) _
      refine XS.iloadN X3.here hx rfl (hb hby at_42) rfl ?_
      show Steps p.tables e below (T3.setTop (mkF m 43 #[.val (.int p1), .val (.int p2), .val (.int w2), .val (.int (1 : Int32))] [(.int w2)])) _
      refine st4 _ ?_
      show Steps p.tables e below (T4.setTop (mkF m 46 #[.val (.int p1), .val (.int p2), .val (.int w2), .val (.int (1 : Int32))] [(.int (own_f2 w2))])) _
      refine XS.iloadN X4.here hx rfl (hb hby at_46) rfl ?_
      show Steps p.tables e below (T4.setTop (mkF m 47 #[.val (.int p1), .val (.int p2), .val (.int w2), .val (.int (1 : Int32))] [(.int (1 : Int32)), (.int (own_f2 w2))])) _
      refine XS.icmpNo X4.here hx rfl (hb hby at_47) rfl (teq (show (own_f2 w2) = (1 : Int32) by simp [own_f2, hc9])).2 ?_
      show Steps p.tables e below (T4.setTop (mkF m 50 #[.val (.int p1), .val (.int p2), .val (.int w2), .val (.int (1 : Int32))] [])) _
      refine XS.iconst X4.here hx rfl (hb hby at_50) ?_
      show Steps p.tables e below (T4.setTop (mkF m 51 #[.val (.int p1), .val (.int p2), .val (.int w2), .val (.int (1 : Int32))] [(.int (1 : Int32))])) _
      refine XS.goto X4.here hx rfl (pc0 := 51) (pc' := 55) rfl (hb hby at_51) (by decide) (by decide) ?_
      show Steps p.tables e below (T4.setTop (mkF m 55 #[.val (.int p1), .val (.int p2), .val (.int w2), .val (.int (1 : Int32))] [(.int (1 : Int32))])) _
      exact retN X4 hx (t := .boolean) Bd.returns (by simp) (hb hby at_55) hr
    · show Q0 Z p1 p2 h0 n0 _ T4.heap _
      exact ⟨rfl, N4⟩
  · by_cases hc15 : w2 = (91 : Int32)
    · obtain ⟨_, _, ⟨T4, L4, k4, n4⟩, -, X4, ⟨Lc4, hQ4, l4, y4, z4⟩, st4⟩ := Jvm.LawKit.callS X3 hx (y := (⟨"com/example/rolecall/rolecall/sources/YamlText", "isFlowIndicator", "(I)Z"⟩ : MethodName)) hown (mvT hZ (hw _ (List.mem_of_getElem? (i := 10) rfl))) (mvT hZ (hw _ (List.mem_of_getElem? (i := 11) rfl))) (mvT hZ (hw _ (List.mem_of_getElem? (i := 12) rfl))) (mvT hZ (hw _ (List.mem_of_getElem? (i := 13) rfl))) (by decide) (backOf (W := 0) (rm2 l Z a0 hw [] w2 T3.heap n0 Z_T3) hZ (hw _ (List.mem_of_getElem? (i := 13) rfl)) (hw _ (List.mem_of_getElem? (i := 12) rfl)) (by decide) (by decide)) (g := (mkF m 43 #[.val (.int p1), .val (.int p2), .val (.int w2), .val (.int (1 : Int32))] [(.int w2)])) rfl (by rw [hml]; rfl) (argsL := [(.int w2)]) (rest := []) (lenOf pd_0_1 rfl) rfl (by show 2 * 0 + _ ≤ _; exact Nat.le_of_eq rfl) (hb hby at_43) (fun _ _ => ⟨rfl, rfl, (by decide : 1 + 0 ≤ _), (by decide : 28 + 0 ≤ _)⟩)
      dsimp only [Pt.U, Pt.locs, Pt.cells, Pt.slots] at X4 l4 y4 z4 st4 hQ4
      subst l4 y4 z4
      obtain ⟨rfl, N4q, -⟩ := hQ4
      have N4 := Fr.app N3 N4q
      obtain ⟨fs, hr, hrun, hended, hW, hsame⟩ := X4.leave (v := some (.int (1 : Int32))) (fun h => by rw [Bd.returns] at h; cases h)
      refine ⟨_, _, pre0 _ ?_, hrun, hended, _, _, rfl, ?_, ⟨_, rfl⟩, hW, hsame.mono (by decide) (by decide)⟩
      · show Steps p.tables e below (s₁.setTop (mkF m 0 #[.val (.int p1), .val (.int p2), .unset, .unset] [])) _
        refine XS.iloadN X0.here hx rfl (hb hby at_0) rfl ?_
        show Steps p.tables e below (s₁.setTop (mkF m 1 #[.val (.int p1), .val (.int p2), .unset, .unset] [(.int p1)])) _
        refine XS.iloadN X0.here hx rfl (hb hby at_1) rfl ?_
        show Steps p.tables e below (s₁.setTop (mkF m 2 #[.val (.int p1), .val (.int p2), .unset, .unset] [(.int p2), (.int p1)])) _
        refine st3 _ ?_
        show Steps p.tables e below (T3.setTop (mkF m 5 #[.val (.int p1), .val (.int p2), .unset, .unset] [(.int w2)])) _
        refine XS.istoreN X3.here hx rfl (hb hby at_5) rfl (l' := #[.val (.int p1), .val (.int p2), .val (.int w2), .unset]) rfl ?_
        show Steps p.tables e below (T3.setTop (mkF m 6 #[.val (.int p1), .val (.int p2), .val (.int w2), .unset] [])) _
        refine XS.iloadN X3.here hx rfl (hb hby at_6) rfl ?_
        show Steps p.tables e below (T3.setTop (mkF m 7 #[.val (.int p1), .val (.int p2), .val (.int w2), .unset] [(.int w2)])) _
        refine XS.bipush X3.here hx rfl (hb hby at_7) ?_
        show Steps p.tables e below (T3.setTop (mkF m 9 #[.val (.int p1), .val (.int p2), .val (.int w2), .unset] [(.int (44 : Int32)), (.int w2)])) _
        refine XS.icmpNo X3.here hx rfl (hb hby at_9) rfl (feq hc9).1 ?_
        show Steps p.tables e below (T3.setTop (mkF m 12 #[.val (.int p1), .val (.int p2), .val (.int w2), .unset] [])) _
        refine XS.iloadN X3.here hx rfl (hb hby at_12) rfl ?_
        show Steps p.tables e below (T3.setTop (mkF m 13 #[.val (.int p1), .val (.int p2), .val (.int w2), .unset] [(.int w2)])) _
        refine XS.bipush X3.here hx rfl (hb hby at_13) ?_
        show Steps p.tables e below (T3.setTop (mkF m 15 #[.val (.int p1), .val (.int p2), .val (.int w2), .unset] [(.int (91 : Int32)), (.int w2)])) _
        refine XS.icmpYes X3.here hx rfl (pc0 := 15) (pc' := 36) rfl (hb hby at_15) rfl (teq hc15).1 (by decide) (by decide) ?_
        show Steps p.tables e below (T3.setTop (mkF m 36 #[.val (.int p1), .val (.int p2), .val (.int w2), .unset] [])) _
        refine XS.iconst X3.here hx rfl (hb hby at_36) ?_
        show Steps p.tables e below (T3.setTop (mkF m 37 #[.val (.int p1), .val (.int p2), .val (.int w2), .unset] [(.int (1 : Int32))])) _
        refine XS.goto X3.here hx rfl (pc0 := 37) (pc' := 41) rfl (hb hby at_37) (by decide) (by decide) ?_
        show Steps p.tables e below (T3.setTop (mkF m 41 #[.val (.int p1), .val (.int p2), .val (.int w2), .unset] [(.int (1 : Int32))])) _
        refine XS.istoreN X3.here hx rfl (hb hby at_41) rfl (l' := #[.val (.int p1), .val (.int p2), .val (.int w2), .val (.int (1 : Int32))]) rfl ?_
        show Steps p.tables e below (T3.setTop (mkF m 42 #[.val (.int p1), .val (.int p2), .val (.int w2), .val (.int (1 : Int32))] [])) _
        refine XS.iloadN X3.here hx rfl (hb hby at_42) rfl ?_
        show Steps p.tables e below (T3.setTop (mkF m 43 #[.val (.int p1), .val (.int p2), .val (.int w2), .val (.int (1 : Int32))] [(.int w2)])) _
        refine st4 _ ?_
        show Steps p.tables e below (T4.setTop (mkF m 46 #[.val (.int p1), .val (.int p2), .val (.int w2), .val (.int (1 : Int32))] [(.int (own_f2 w2))])) _
        refine XS.iloadN X4.here hx rfl (hb hby at_46) rfl ?_
        show Steps p.tables e below (T4.setTop (mkF m 47 #[.val (.int p1), .val (.int p2), .val (.int w2), .val (.int (1 : Int32))] [(.int (1 : Int32)), (.int (own_f2 w2))])) _
        refine XS.icmpNo X4.here hx rfl (hb hby at_47) rfl (teq (show (own_f2 w2) = (1 : Int32) by simp [own_f2, hc9, hc15])).2 ?_
        show Steps p.tables e below (T4.setTop (mkF m 50 #[.val (.int p1), .val (.int p2), .val (.int w2), .val (.int (1 : Int32))] [])) _
        refine XS.iconst X4.here hx rfl (hb hby at_50) ?_
        show Steps p.tables e below (T4.setTop (mkF m 51 #[.val (.int p1), .val (.int p2), .val (.int w2), .val (.int (1 : Int32))] [(.int (1 : Int32))])) _
        refine XS.goto X4.here hx rfl (pc0 := 51) (pc' := 55) rfl (hb hby at_51) (by decide) (by decide) ?_
        show Steps p.tables e below (T4.setTop (mkF m 55 #[.val (.int p1), .val (.int p2), .val (.int w2), .val (.int (1 : Int32))] [(.int (1 : Int32))])) _
        exact retN X4 hx (t := .boolean) Bd.returns (by simp) (hb hby at_55) hr
      · show Q0 Z p1 p2 h0 n0 _ T4.heap _
        exact ⟨rfl, N4⟩
    · by_cases hc21 : w2 = (93 : Int32)
      · obtain ⟨_, _, ⟨T4, L4, k4, n4⟩, -, X4, ⟨Lc4, hQ4, l4, y4, z4⟩, st4⟩ := Jvm.LawKit.callS X3 hx (y := (⟨"com/example/rolecall/rolecall/sources/YamlText", "isFlowIndicator", "(I)Z"⟩ : MethodName)) hown (mvT hZ (hw _ (List.mem_of_getElem? (i := 10) rfl))) (mvT hZ (hw _ (List.mem_of_getElem? (i := 11) rfl))) (mvT hZ (hw _ (List.mem_of_getElem? (i := 12) rfl))) (mvT hZ (hw _ (List.mem_of_getElem? (i := 13) rfl))) (by decide) (backOf (W := 0) (rm2 l Z a0 hw [] w2 T3.heap n0 Z_T3) hZ (hw _ (List.mem_of_getElem? (i := 13) rfl)) (hw _ (List.mem_of_getElem? (i := 12) rfl)) (by decide) (by decide)) (g := (mkF m 43 #[.val (.int p1), .val (.int p2), .val (.int w2), .val (.int (1 : Int32))] [(.int w2)])) rfl (by rw [hml]; rfl) (argsL := [(.int w2)]) (rest := []) (lenOf pd_0_1 rfl) rfl (by show 2 * 0 + _ ≤ _; exact Nat.le_of_eq rfl) (hb hby at_43) (fun _ _ => ⟨rfl, rfl, (by decide : 1 + 0 ≤ _), (by decide : 28 + 0 ≤ _)⟩)
        dsimp only [Pt.U, Pt.locs, Pt.cells, Pt.slots] at X4 l4 y4 z4 st4 hQ4
        subst l4 y4 z4
        obtain ⟨rfl, N4q, -⟩ := hQ4
        have N4 := Fr.app N3 N4q
        obtain ⟨fs, hr, hrun, hended, hW, hsame⟩ := X4.leave (v := some (.int (1 : Int32))) (fun h => by rw [Bd.returns] at h; cases h)
        refine ⟨_, _, pre0 _ ?_, hrun, hended, _, _, rfl, ?_, ⟨_, rfl⟩, hW, hsame.mono (by decide) (by decide)⟩
        · show Steps p.tables e below (s₁.setTop (mkF m 0 #[.val (.int p1), .val (.int p2), .unset, .unset] [])) _
          refine XS.iloadN X0.here hx rfl (hb hby at_0) rfl ?_
          show Steps p.tables e below (s₁.setTop (mkF m 1 #[.val (.int p1), .val (.int p2), .unset, .unset] [(.int p1)])) _
          refine XS.iloadN X0.here hx rfl (hb hby at_1) rfl ?_
          show Steps p.tables e below (s₁.setTop (mkF m 2 #[.val (.int p1), .val (.int p2), .unset, .unset] [(.int p2), (.int p1)])) _
          refine st3 _ ?_
          show Steps p.tables e below (T3.setTop (mkF m 5 #[.val (.int p1), .val (.int p2), .unset, .unset] [(.int w2)])) _
          refine XS.istoreN X3.here hx rfl (hb hby at_5) rfl (l' := #[.val (.int p1), .val (.int p2), .val (.int w2), .unset]) rfl ?_
          show Steps p.tables e below (T3.setTop (mkF m 6 #[.val (.int p1), .val (.int p2), .val (.int w2), .unset] [])) _
          refine XS.iloadN X3.here hx rfl (hb hby at_6) rfl ?_
          show Steps p.tables e below (T3.setTop (mkF m 7 #[.val (.int p1), .val (.int p2), .val (.int w2), .unset] [(.int w2)])) _
          refine XS.bipush X3.here hx rfl (hb hby at_7) ?_
          show Steps p.tables e below (T3.setTop (mkF m 9 #[.val (.int p1), .val (.int p2), .val (.int w2), .unset] [(.int (44 : Int32)), (.int w2)])) _
          refine XS.icmpNo X3.here hx rfl (hb hby at_9) rfl (feq hc9).1 ?_
          show Steps p.tables e below (T3.setTop (mkF m 12 #[.val (.int p1), .val (.int p2), .val (.int w2), .unset] [])) _
          refine XS.iloadN X3.here hx rfl (hb hby at_12) rfl ?_
          show Steps p.tables e below (T3.setTop (mkF m 13 #[.val (.int p1), .val (.int p2), .val (.int w2), .unset] [(.int w2)])) _
          refine XS.bipush X3.here hx rfl (hb hby at_13) ?_
          show Steps p.tables e below (T3.setTop (mkF m 15 #[.val (.int p1), .val (.int p2), .val (.int w2), .unset] [(.int (91 : Int32)), (.int w2)])) _
          refine XS.icmpNo X3.here hx rfl (hb hby at_15) rfl (feq hc15).1 ?_
          show Steps p.tables e below (T3.setTop (mkF m 18 #[.val (.int p1), .val (.int p2), .val (.int w2), .unset] [])) _
          refine XS.iloadN X3.here hx rfl (hb hby at_18) rfl ?_
          show Steps p.tables e below (T3.setTop (mkF m 19 #[.val (.int p1), .val (.int p2), .val (.int w2), .unset] [(.int w2)])) _
          refine XS.bipush X3.here hx rfl (hb hby at_19) ?_
          show Steps p.tables e below (T3.setTop (mkF m 21 #[.val (.int p1), .val (.int p2), .val (.int w2), .unset] [(.int (93 : Int32)), (.int w2)])) _
          refine XS.icmpYes X3.here hx rfl (pc0 := 21) (pc' := 36) rfl (hb hby at_21) rfl (teq hc21).1 (by decide) (by decide) ?_
          show Steps p.tables e below (T3.setTop (mkF m 36 #[.val (.int p1), .val (.int p2), .val (.int w2), .unset] [])) _
          refine XS.iconst X3.here hx rfl (hb hby at_36) ?_
          show Steps p.tables e below (T3.setTop (mkF m 37 #[.val (.int p1), .val (.int p2), .val (.int w2), .unset] [(.int (1 : Int32))])) _
          refine XS.goto X3.here hx rfl (pc0 := 37) (pc' := 41) rfl (hb hby at_37) (by decide) (by decide) ?_
          show Steps p.tables e below (T3.setTop (mkF m 41 #[.val (.int p1), .val (.int p2), .val (.int w2), .unset] [(.int (1 : Int32))])) _
          refine XS.istoreN X3.here hx rfl (hb hby at_41) rfl (l' := #[.val (.int p1), .val (.int p2), .val (.int w2), .val (.int (1 : Int32))]) rfl ?_
          show Steps p.tables e below (T3.setTop (mkF m 42 #[.val (.int p1), .val (.int p2), .val (.int w2), .val (.int (1 : Int32))] [])) _
          refine XS.iloadN X3.here hx rfl (hb hby at_42) rfl ?_
          show Steps p.tables e below (T3.setTop (mkF m 43 #[.val (.int p1), .val (.int p2), .val (.int w2), .val (.int (1 : Int32))] [(.int w2)])) _
          refine st4 _ ?_
          show Steps p.tables e below (T4.setTop (mkF m 46 #[.val (.int p1), .val (.int p2), .val (.int w2), .val (.int (1 : Int32))] [(.int (own_f2 w2))])) _
          refine XS.iloadN X4.here hx rfl (hb hby at_46) rfl ?_
          show Steps p.tables e below (T4.setTop (mkF m 47 #[.val (.int p1), .val (.int p2), .val (.int w2), .val (.int (1 : Int32))] [(.int (1 : Int32)), (.int (own_f2 w2))])) _
          refine XS.icmpNo X4.here hx rfl (hb hby at_47) rfl (teq (show (own_f2 w2) = (1 : Int32) by simp [own_f2, hc9, hc15, hc21])).2 ?_
          show Steps p.tables e below (T4.setTop (mkF m 50 #[.val (.int p1), .val (.int p2), .val (.int w2), .val (.int (1 : Int32))] [])) _
          refine XS.iconst X4.here hx rfl (hb hby at_50) ?_
          show Steps p.tables e below (T4.setTop (mkF m 51 #[.val (.int p1), .val (.int p2), .val (.int w2), .val (.int (1 : Int32))] [(.int (1 : Int32))])) _
          refine XS.goto X4.here hx rfl (pc0 := 51) (pc' := 55) rfl (hb hby at_51) (by decide) (by decide) ?_
          show Steps p.tables e below (T4.setTop (mkF m 55 #[.val (.int p1), .val (.int p2), .val (.int w2), .val (.int (1 : Int32))] [(.int (1 : Int32))])) _
          exact retN X4 hx (t := .boolean) Bd.returns (by simp) (hb hby at_55) hr
        · show Q0 Z p1 p2 h0 n0 _ T4.heap _
          exact ⟨rfl, N4⟩
      · by_cases hc27 : w2 = (123 : Int32)
        · obtain ⟨_, _, ⟨T4, L4, k4, n4⟩, -, X4, ⟨Lc4, hQ4, l4, y4, z4⟩, st4⟩ := Jvm.LawKit.callS X3 hx (y := (⟨"com/example/rolecall/rolecall/sources/YamlText", "isFlowIndicator", "(I)Z"⟩ : MethodName)) hown (mvT hZ (hw _ (List.mem_of_getElem? (i := 10) rfl))) (mvT hZ (hw _ (List.mem_of_getElem? (i := 11) rfl))) (mvT hZ (hw _ (List.mem_of_getElem? (i := 12) rfl))) (mvT hZ (hw _ (List.mem_of_getElem? (i := 13) rfl))) (by decide) (backOf (W := 0) (rm2 l Z a0 hw [] w2 T3.heap n0 Z_T3) hZ (hw _ (List.mem_of_getElem? (i := 13) rfl)) (hw _ (List.mem_of_getElem? (i := 12) rfl)) (by decide) (by decide)) (g := (mkF m 43 #[.val (.int p1), .val (.int p2), .val (.int w2), .val (.int (1 : Int32))] [(.int w2)])) rfl (by rw [hml]; rfl) (argsL := [(.int w2)]) (rest := []) (lenOf pd_0_1 rfl) rfl (by show 2 * 0 + _ ≤ _; exact Nat.le_of_eq rfl) (hb hby at_43) (fun _ _ => ⟨rfl, rfl, (by decide : 1 + 0 ≤ _), (by decide : 28 + 0 ≤ _)⟩)
          dsimp only [Pt.U, Pt.locs, Pt.cells, Pt.slots] at X4 l4 y4 z4 st4 hQ4
          subst l4 y4 z4
          obtain ⟨rfl, N4q, -⟩ := hQ4
          have N4 := Fr.app N3 N4q
          obtain ⟨fs, hr, hrun, hended, hW, hsame⟩ := X4.leave (v := some (.int (1 : Int32))) (fun h => by rw [Bd.returns] at h; cases h)
          refine ⟨_, _, pre0 _ ?_, hrun, hended, _, _, rfl, ?_, ⟨_, rfl⟩, hW, hsame.mono (by decide) (by decide)⟩
          · show Steps p.tables e below (s₁.setTop (mkF m 0 #[.val (.int p1), .val (.int p2), .unset, .unset] [])) _
            refine XS.iloadN X0.here hx rfl (hb hby at_0) rfl ?_
            show Steps p.tables e below (s₁.setTop (mkF m 1 #[.val (.int p1), .val (.int p2), .unset, .unset] [(.int p1)])) _
            refine XS.iloadN X0.here hx rfl (hb hby at_1) rfl ?_
            show Steps p.tables e below (s₁.setTop (mkF m 2 #[.val (.int p1), .val (.int p2), .unset, .unset] [(.int p2), (.int p1)])) _
            refine st3 _ ?_
            show Steps p.tables e below (T3.setTop (mkF m 5 #[.val (.int p1), .val (.int p2), .unset, .unset] [(.int w2)])) _
            refine XS.istoreN X3.here hx rfl (hb hby at_5) rfl (l' := #[.val (.int p1), .val (.int p2), .val (.int w2), .unset]) rfl ?_
            show Steps p.tables e below (T3.setTop (mkF m 6 #[.val (.int p1), .val (.int p2), .val (.int w2), .unset] [])) _
            refine XS.iloadN X3.here hx rfl (hb hby at_6) rfl ?_
            show Steps p.tables e below (T3.setTop (mkF m 7 #[.val (.int p1), .val (.int p2), .val (.int w2), .unset] [(.int w2)])) _
            refine XS.bipush X3.here hx rfl (hb hby at_7) ?_
            show Steps p.tables e below (T3.setTop (mkF m 9 #[.val (.int p1), .val (.int p2), .val (.int w2), .unset] [(.int (44 : Int32)), (.int w2)])) _
            refine XS.icmpNo X3.here hx rfl (hb hby at_9) rfl (feq hc9).1 ?_
            show Steps p.tables e below (T3.setTop (mkF m 12 #[.val (.int p1), .val (.int p2), .val (.int w2), .unset] [])) _
            refine XS.iloadN X3.here hx rfl (hb hby at_12) rfl ?_
            show Steps p.tables e below (T3.setTop (mkF m 13 #[.val (.int p1), .val (.int p2), .val (.int w2), .unset] [(.int w2)])) _
            refine XS.bipush X3.here hx rfl (hb hby at_13) ?_
            show Steps p.tables e below (T3.setTop (mkF m 15 #[.val (.int p1), .val (.int p2), .val (.int w2), .unset] [(.int (91 : Int32)), (.int w2)])) _
            refine XS.icmpNo X3.here hx rfl (hb hby at_15) rfl (feq hc15).1 ?_
            show Steps p.tables e below (T3.setTop (mkF m 18 #[.val (.int p1), .val (.int p2), .val (.int w2), .unset] [])) _
            refine XS.iloadN X3.here hx rfl (hb hby at_18) rfl ?_
            show Steps p.tables e below (T3.setTop (mkF m 19 #[.val (.int p1), .val (.int p2), .val (.int w2), .unset] [(.int w2)])) _
            refine XS.bipush X3.here hx rfl (hb hby at_19) ?_
            show Steps p.tables e below (T3.setTop (mkF m 21 #[.val (.int p1), .val (.int p2), .val (.int w2), .unset] [(.int (93 : Int32)), (.int w2)])) _
            refine XS.icmpNo X3.here hx rfl (hb hby at_21) rfl (feq hc21).1 ?_
            show Steps p.tables e below (T3.setTop (mkF m 24 #[.val (.int p1), .val (.int p2), .val (.int w2), .unset] [])) _
            refine XS.iloadN X3.here hx rfl (hb hby at_24) rfl ?_
            show Steps p.tables e below (T3.setTop (mkF m 25 #[.val (.int p1), .val (.int p2), .val (.int w2), .unset] [(.int w2)])) _
            refine XS.bipush X3.here hx rfl (hb hby at_25) ?_
            show Steps p.tables e below (T3.setTop (mkF m 27 #[.val (.int p1), .val (.int p2), .val (.int w2), .unset] [(.int (123 : Int32)), (.int w2)])) _
            refine XS.icmpYes X3.here hx rfl (pc0 := 27) (pc' := 36) rfl (hb hby at_27) rfl (teq hc27).1 (by decide) (by decide) ?_
            show Steps p.tables e below (T3.setTop (mkF m 36 #[.val (.int p1), .val (.int p2), .val (.int w2), .unset] [])) _
            refine XS.iconst X3.here hx rfl (hb hby at_36) ?_
            show Steps p.tables e below (T3.setTop (mkF m 37 #[.val (.int p1), .val (.int p2), .val (.int w2), .unset] [(.int (1 : Int32))])) _
            refine XS.goto X3.here hx rfl (pc0 := 37) (pc' := 41) rfl (hb hby at_37) (by decide) (by decide) ?_
            show Steps p.tables e below (T3.setTop (mkF m 41 #[.val (.int p1), .val (.int p2), .val (.int w2), .unset] [(.int (1 : Int32))])) _
            refine XS.istoreN X3.here hx rfl (hb hby at_41) rfl (l' := #[.val (.int p1), .val (.int p2), .val (.int w2), .val (.int (1 : Int32))]) rfl ?_
            show Steps p.tables e below (T3.setTop (mkF m 42 #[.val (.int p1), .val (.int p2), .val (.int w2), .val (.int (1 : Int32))] [])) _
            refine XS.iloadN X3.here hx rfl (hb hby at_42) rfl ?_
            show Steps p.tables e below (T3.setTop (mkF m 43 #[.val (.int p1), .val (.int p2), .val (.int w2), .val (.int (1 : Int32))] [(.int w2)])) _
            refine st4 _ ?_
            show Steps p.tables e below (T4.setTop (mkF m 46 #[.val (.int p1), .val (.int p2), .val (.int w2), .val (.int (1 : Int32))] [(.int (own_f2 w2))])) _
            refine XS.iloadN X4.here hx rfl (hb hby at_46) rfl ?_
            show Steps p.tables e below (T4.setTop (mkF m 47 #[.val (.int p1), .val (.int p2), .val (.int w2), .val (.int (1 : Int32))] [(.int (1 : Int32)), (.int (own_f2 w2))])) _
            refine XS.icmpNo X4.here hx rfl (hb hby at_47) rfl (teq (show (own_f2 w2) = (1 : Int32) by simp [own_f2, hc9, hc15, hc21, hc27])).2 ?_
            show Steps p.tables e below (T4.setTop (mkF m 50 #[.val (.int p1), .val (.int p2), .val (.int w2), .val (.int (1 : Int32))] [])) _
            refine XS.iconst X4.here hx rfl (hb hby at_50) ?_
            show Steps p.tables e below (T4.setTop (mkF m 51 #[.val (.int p1), .val (.int p2), .val (.int w2), .val (.int (1 : Int32))] [(.int (1 : Int32))])) _
            refine XS.goto X4.here hx rfl (pc0 := 51) (pc' := 55) rfl (hb hby at_51) (by decide) (by decide) ?_
            show Steps p.tables e below (T4.setTop (mkF m 55 #[.val (.int p1), .val (.int p2), .val (.int w2), .val (.int (1 : Int32))] [(.int (1 : Int32))])) _
            exact retN X4 hx (t := .boolean) Bd.returns (by simp) (hb hby at_55) hr
          · show Q0 Z p1 p2 h0 n0 _ T4.heap _
            exact ⟨rfl, N4⟩
        · by_cases hc33 : w2 = (125 : Int32)
          · obtain ⟨_, _, ⟨T4, L4, k4, n4⟩, -, X4, ⟨Lc4, hQ4, l4, y4, z4⟩, st4⟩ := Jvm.LawKit.callS X3 hx (y := (⟨"com/example/rolecall/rolecall/sources/YamlText", "isFlowIndicator", "(I)Z"⟩ : MethodName)) hown (mvT hZ (hw _ (List.mem_of_getElem? (i := 10) rfl))) (mvT hZ (hw _ (List.mem_of_getElem? (i := 11) rfl))) (mvT hZ (hw _ (List.mem_of_getElem? (i := 12) rfl))) (mvT hZ (hw _ (List.mem_of_getElem? (i := 13) rfl))) (by decide) (backOf (W := 0) (rm2 l Z a0 hw [] w2 T3.heap n0 Z_T3) hZ (hw _ (List.mem_of_getElem? (i := 13) rfl)) (hw _ (List.mem_of_getElem? (i := 12) rfl)) (by decide) (by decide)) (g := (mkF m 43 #[.val (.int p1), .val (.int p2), .val (.int w2), .val (.int (1 : Int32))] [(.int w2)])) rfl (by rw [hml]; rfl) (argsL := [(.int w2)]) (rest := []) (lenOf pd_0_1 rfl) rfl (by show 2 * 0 + _ ≤ _; exact Nat.le_of_eq rfl) (hb hby at_43) (fun _ _ => ⟨rfl, rfl, (by decide : 1 + 0 ≤ _), (by decide : 28 + 0 ≤ _)⟩)
            dsimp only [Pt.U, Pt.locs, Pt.cells, Pt.slots] at X4 l4 y4 z4 st4 hQ4
            subst l4 y4 z4
            obtain ⟨rfl, N4q, -⟩ := hQ4
            have N4 := Fr.app N3 N4q
            obtain ⟨fs, hr, hrun, hended, hW, hsame⟩ := X4.leave (v := some (.int (1 : Int32))) (fun h => by rw [Bd.returns] at h; cases h)
            refine ⟨_, _, pre0 _ ?_, hrun, hended, _, _, rfl, ?_, ⟨_, rfl⟩, hW, hsame.mono (by decide) (by decide)⟩
            · show Steps p.tables e below (s₁.setTop (mkF m 0 #[.val (.int p1), .val (.int p2), .unset, .unset] [])) _
              refine XS.iloadN X0.here hx rfl (hb hby at_0) rfl ?_
              show Steps p.tables e below (s₁.setTop (mkF m 1 #[.val (.int p1), .val (.int p2), .unset, .unset] [(.int p1)])) _
              refine XS.iloadN X0.here hx rfl (hb hby at_1) rfl ?_
              show Steps p.tables e below (s₁.setTop (mkF m 2 #[.val (.int p1), .val (.int p2), .unset, .unset] [(.int p2), (.int p1)])) _
              refine st3 _ ?_
              show Steps p.tables e below (T3.setTop (mkF m 5 #[.val (.int p1), .val (.int p2), .unset, .unset] [(.int w2)])) _
              refine XS.istoreN X3.here hx rfl (hb hby at_5) rfl (l' := #[.val (.int p1), .val (.int p2), .val (.int w2), .unset]) rfl ?_
              show Steps p.tables e below (T3.setTop (mkF m 6 #[.val (.int p1), .val (.int p2), .val (.int w2), .unset] [])) _
              refine XS.iloadN X3.here hx rfl (hb hby at_6) rfl ?_
              show Steps p.tables e below (T3.setTop (mkF m 7 #[.val (.int p1), .val (.int p2), .val (.int w2), .unset] [(.int w2)])) _
              refine XS.bipush X3.here hx rfl (hb hby at_7) ?_
              show Steps p.tables e below (T3.setTop (mkF m 9 #[.val (.int p1), .val (.int p2), .val (.int w2), .unset] [(.int (44 : Int32)), (.int w2)])) _
              refine XS.icmpNo X3.here hx rfl (hb hby at_9) rfl (feq hc9).1 ?_
              show Steps p.tables e below (T3.setTop (mkF m 12 #[.val (.int p1), .val (.int p2), .val (.int w2), .unset] [])) _
              refine XS.iloadN X3.here hx rfl (hb hby at_12) rfl ?_
              show Steps p.tables e below (T3.setTop (mkF m 13 #[.val (.int p1), .val (.int p2), .val (.int w2), .unset] [(.int w2)])) _
              refine XS.bipush X3.here hx rfl (hb hby at_13) ?_
              show Steps p.tables e below (T3.setTop (mkF m 15 #[.val (.int p1), .val (.int p2), .val (.int w2), .unset] [(.int (91 : Int32)), (.int w2)])) _
              refine XS.icmpNo X3.here hx rfl (hb hby at_15) rfl (feq hc15).1 ?_
              show Steps p.tables e below (T3.setTop (mkF m 18 #[.val (.int p1), .val (.int p2), .val (.int w2), .unset] [])) _
              refine XS.iloadN X3.here hx rfl (hb hby at_18) rfl ?_
              show Steps p.tables e below (T3.setTop (mkF m 19 #[.val (.int p1), .val (.int p2), .val (.int w2), .unset] [(.int w2)])) _
              refine XS.bipush X3.here hx rfl (hb hby at_19) ?_
              show Steps p.tables e below (T3.setTop (mkF m 21 #[.val (.int p1), .val (.int p2), .val (.int w2), .unset] [(.int (93 : Int32)), (.int w2)])) _
              refine XS.icmpNo X3.here hx rfl (hb hby at_21) rfl (feq hc21).1 ?_
              show Steps p.tables e below (T3.setTop (mkF m 24 #[.val (.int p1), .val (.int p2), .val (.int w2), .unset] [])) _
              refine XS.iloadN X3.here hx rfl (hb hby at_24) rfl ?_
              show Steps p.tables e below (T3.setTop (mkF m 25 #[.val (.int p1), .val (.int p2), .val (.int w2), .unset] [(.int w2)])) _
              refine XS.bipush X3.here hx rfl (hb hby at_25) ?_
              show Steps p.tables e below (T3.setTop (mkF m 27 #[.val (.int p1), .val (.int p2), .val (.int w2), .unset] [(.int (123 : Int32)), (.int w2)])) _
              refine XS.icmpNo X3.here hx rfl (hb hby at_27) rfl (feq hc27).1 ?_
              show Steps p.tables e below (T3.setTop (mkF m 30 #[.val (.int p1), .val (.int p2), .val (.int w2), .unset] [])) _
              refine XS.iloadN X3.here hx rfl (hb hby at_30) rfl ?_
              show Steps p.tables e below (T3.setTop (mkF m 31 #[.val (.int p1), .val (.int p2), .val (.int w2), .unset] [(.int w2)])) _
              refine XS.bipush X3.here hx rfl (hb hby at_31) ?_
              show Steps p.tables e below (T3.setTop (mkF m 33 #[.val (.int p1), .val (.int p2), .val (.int w2), .unset] [(.int (125 : Int32)), (.int w2)])) _
              refine XS.icmpNo X3.here hx rfl (hb hby at_33) rfl (teq hc33).2 ?_
              show Steps p.tables e below (T3.setTop (mkF m 36 #[.val (.int p1), .val (.int p2), .val (.int w2), .unset] [])) _
              refine XS.iconst X3.here hx rfl (hb hby at_36) ?_
              show Steps p.tables e below (T3.setTop (mkF m 37 #[.val (.int p1), .val (.int p2), .val (.int w2), .unset] [(.int (1 : Int32))])) _
              refine XS.goto X3.here hx rfl (pc0 := 37) (pc' := 41) rfl (hb hby at_37) (by decide) (by decide) ?_
              show Steps p.tables e below (T3.setTop (mkF m 41 #[.val (.int p1), .val (.int p2), .val (.int w2), .unset] [(.int (1 : Int32))])) _
              refine XS.istoreN X3.here hx rfl (hb hby at_41) rfl (l' := #[.val (.int p1), .val (.int p2), .val (.int w2), .val (.int (1 : Int32))]) rfl ?_
              show Steps p.tables e below (T3.setTop (mkF m 42 #[.val (.int p1), .val (.int p2), .val (.int w2), .val (.int (1 : Int32))] [])) _
              refine XS.iloadN X3.here hx rfl (hb hby at_42) rfl ?_
              show Steps p.tables e below (T3.setTop (mkF m 43 #[.val (.int p1), .val (.int p2), .val (.int w2), .val (.int (1 : Int32))] [(.int w2)])) _
              refine st4 _ ?_
              show Steps p.tables e below (T4.setTop (mkF m 46 #[.val (.int p1), .val (.int p2), .val (.int w2), .val (.int (1 : Int32))] [(.int (own_f2 w2))])) _
              refine XS.iloadN X4.here hx rfl (hb hby at_46) rfl ?_
              show Steps p.tables e below (T4.setTop (mkF m 47 #[.val (.int p1), .val (.int p2), .val (.int w2), .val (.int (1 : Int32))] [(.int (1 : Int32)), (.int (own_f2 w2))])) _
              refine XS.icmpNo X4.here hx rfl (hb hby at_47) rfl (teq (show (own_f2 w2) = (1 : Int32) by simp [own_f2, hc9, hc15, hc21, hc27, hc33])).2 ?_
              show Steps p.tables e below (T4.setTop (mkF m 50 #[.val (.int p1), .val (.int p2), .val (.int w2), .val (.int (1 : Int32))] [])) _
              refine XS.iconst X4.here hx rfl (hb hby at_50) ?_
              show Steps p.tables e below (T4.setTop (mkF m 51 #[.val (.int p1), .val (.int p2), .val (.int w2), .val (.int (1 : Int32))] [(.int (1 : Int32))])) _
              refine XS.goto X4.here hx rfl (pc0 := 51) (pc' := 55) rfl (hb hby at_51) (by decide) (by decide) ?_
              show Steps p.tables e below (T4.setTop (mkF m 55 #[.val (.int p1), .val (.int p2), .val (.int w2), .val (.int (1 : Int32))] [(.int (1 : Int32))])) _
              exact retN X4 hx (t := .boolean) Bd.returns (by simp) (hb hby at_55) hr
            · show Q0 Z p1 p2 h0 n0 _ T4.heap _
              exact ⟨rfl, N4⟩
          · obtain ⟨_, _, ⟨T4, L4, k4, n4⟩, -, X4, ⟨Lc4, hQ4, l4, y4, z4⟩, st4⟩ := Jvm.LawKit.callS X3 hx (y := (⟨"com/example/rolecall/rolecall/sources/YamlText", "isFlowIndicator", "(I)Z"⟩ : MethodName)) hown (mvT hZ (hw _ (List.mem_of_getElem? (i := 10) rfl))) (mvT hZ (hw _ (List.mem_of_getElem? (i := 11) rfl))) (mvT hZ (hw _ (List.mem_of_getElem? (i := 12) rfl))) (mvT hZ (hw _ (List.mem_of_getElem? (i := 13) rfl))) (by decide) (backOf (W := 0) (rm2 l Z a0 hw [] w2 T3.heap n0 Z_T3) hZ (hw _ (List.mem_of_getElem? (i := 13) rfl)) (hw _ (List.mem_of_getElem? (i := 12) rfl)) (by decide) (by decide)) (g := (mkF m 43 #[.val (.int p1), .val (.int p2), .val (.int w2), .val (.int (0 : Int32))] [(.int w2)])) rfl (by rw [hml]; rfl) (argsL := [(.int w2)]) (rest := []) (lenOf pd_0_1 rfl) rfl (by show 2 * 0 + _ ≤ _; exact Nat.le_of_eq rfl) (hb hby at_43) (fun _ _ => ⟨rfl, rfl, (by decide : 1 + 0 ≤ _), (by decide : 28 + 0 ≤ _)⟩)
            dsimp only [Pt.U, Pt.locs, Pt.cells, Pt.slots] at X4 l4 y4 z4 st4 hQ4
            subst l4 y4 z4
            obtain ⟨rfl, N4q, -⟩ := hQ4
            have N4 := Fr.app N3 N4q
            obtain ⟨fs, hr, hrun, hended, hW, hsame⟩ := X4.leave (v := some (.int (1 : Int32))) (fun h => by rw [Bd.returns] at h; cases h)
            refine ⟨_, _, pre0 _ ?_, hrun, hended, _, _, rfl, ?_, ⟨_, rfl⟩, hW, hsame.mono (by decide) (by decide)⟩
            · show Steps p.tables e below (s₁.setTop (mkF m 0 #[.val (.int p1), .val (.int p2), .unset, .unset] [])) _
              refine XS.iloadN X0.here hx rfl (hb hby at_0) rfl ?_
              show Steps p.tables e below (s₁.setTop (mkF m 1 #[.val (.int p1), .val (.int p2), .unset, .unset] [(.int p1)])) _
              refine XS.iloadN X0.here hx rfl (hb hby at_1) rfl ?_
              show Steps p.tables e below (s₁.setTop (mkF m 2 #[.val (.int p1), .val (.int p2), .unset, .unset] [(.int p2), (.int p1)])) _
              refine st3 _ ?_
              show Steps p.tables e below (T3.setTop (mkF m 5 #[.val (.int p1), .val (.int p2), .unset, .unset] [(.int w2)])) _
              refine XS.istoreN X3.here hx rfl (hb hby at_5) rfl (l' := #[.val (.int p1), .val (.int p2), .val (.int w2), .unset]) rfl ?_
              show Steps p.tables e below (T3.setTop (mkF m 6 #[.val (.int p1), .val (.int p2), .val (.int w2), .unset] [])) _
              refine XS.iloadN X3.here hx rfl (hb hby at_6) rfl ?_
              show Steps p.tables e below (T3.setTop (mkF m 7 #[.val (.int p1), .val (.int p2), .val (.int w2), .unset] [(.int w2)])) _
              refine XS.bipush X3.here hx rfl (hb hby at_7) ?_
              show Steps p.tables e below (T3.setTop (mkF m 9 #[.val (.int p1), .val (.int p2), .val (.int w2), .unset] [(.int (44 : Int32)), (.int w2)])) _
              refine XS.icmpNo X3.here hx rfl (hb hby at_9) rfl (feq hc9).1 ?_
              show Steps p.tables e below (T3.setTop (mkF m 12 #[.val (.int p1), .val (.int p2), .val (.int w2), .unset] [])) _
              refine XS.iloadN X3.here hx rfl (hb hby at_12) rfl ?_
              show Steps p.tables e below (T3.setTop (mkF m 13 #[.val (.int p1), .val (.int p2), .val (.int w2), .unset] [(.int w2)])) _
              refine XS.bipush X3.here hx rfl (hb hby at_13) ?_
              show Steps p.tables e below (T3.setTop (mkF m 15 #[.val (.int p1), .val (.int p2), .val (.int w2), .unset] [(.int (91 : Int32)), (.int w2)])) _
              refine XS.icmpNo X3.here hx rfl (hb hby at_15) rfl (feq hc15).1 ?_
              show Steps p.tables e below (T3.setTop (mkF m 18 #[.val (.int p1), .val (.int p2), .val (.int w2), .unset] [])) _
              refine XS.iloadN X3.here hx rfl (hb hby at_18) rfl ?_
              show Steps p.tables e below (T3.setTop (mkF m 19 #[.val (.int p1), .val (.int p2), .val (.int w2), .unset] [(.int w2)])) _
              refine XS.bipush X3.here hx rfl (hb hby at_19) ?_
              show Steps p.tables e below (T3.setTop (mkF m 21 #[.val (.int p1), .val (.int p2), .val (.int w2), .unset] [(.int (93 : Int32)), (.int w2)])) _
              refine XS.icmpNo X3.here hx rfl (hb hby at_21) rfl (feq hc21).1 ?_
              show Steps p.tables e below (T3.setTop (mkF m 24 #[.val (.int p1), .val (.int p2), .val (.int w2), .unset] [])) _
              refine XS.iloadN X3.here hx rfl (hb hby at_24) rfl ?_
              show Steps p.tables e below (T3.setTop (mkF m 25 #[.val (.int p1), .val (.int p2), .val (.int w2), .unset] [(.int w2)])) _
              refine XS.bipush X3.here hx rfl (hb hby at_25) ?_
              show Steps p.tables e below (T3.setTop (mkF m 27 #[.val (.int p1), .val (.int p2), .val (.int w2), .unset] [(.int (123 : Int32)), (.int w2)])) _
              refine XS.icmpNo X3.here hx rfl (hb hby at_27) rfl (feq hc27).1 ?_
              show Steps p.tables e below (T3.setTop (mkF m 30 #[.val (.int p1), .val (.int p2), .val (.int w2), .unset] [])) _
              refine XS.iloadN X3.here hx rfl (hb hby at_30) rfl ?_
              show Steps p.tables e below (T3.setTop (mkF m 31 #[.val (.int p1), .val (.int p2), .val (.int w2), .unset] [(.int w2)])) _
              refine XS.bipush X3.here hx rfl (hb hby at_31) ?_
              show Steps p.tables e below (T3.setTop (mkF m 33 #[.val (.int p1), .val (.int p2), .val (.int w2), .unset] [(.int (125 : Int32)), (.int w2)])) _
              refine XS.icmpYes X3.here hx rfl (pc0 := 33) (pc' := 40) rfl (hb hby at_33) rfl (feq hc33).2 (by decide) (by decide) ?_
              show Steps p.tables e below (T3.setTop (mkF m 40 #[.val (.int p1), .val (.int p2), .val (.int w2), .unset] [])) _
              refine XS.iconst X3.here hx rfl (hb hby at_40) ?_
              show Steps p.tables e below (T3.setTop (mkF m 41 #[.val (.int p1), .val (.int p2), .val (.int w2), .unset] [(.int (0 : Int32))])) _
              refine XS.istoreN X3.here hx rfl (hb hby at_41) rfl (l' := #[.val (.int p1), .val (.int p2), .val (.int w2), .val (.int (0 : Int32))]) rfl ?_
              show Steps p.tables e below (T3.setTop (mkF m 42 #[.val (.int p1), .val (.int p2), .val (.int w2), .val (.int (0 : Int32))] [])) _
              refine XS.iloadN X3.here hx rfl (hb hby at_42) rfl ?_
              show Steps p.tables e below (T3.setTop (mkF m 43 #[.val (.int p1), .val (.int p2), .val (.int w2), .val (.int (0 : Int32))] [(.int w2)])) _
              refine st4 _ ?_
              show Steps p.tables e below (T4.setTop (mkF m 46 #[.val (.int p1), .val (.int p2), .val (.int w2), .val (.int (0 : Int32))] [(.int (own_f2 w2))])) _
              refine XS.iloadN X4.here hx rfl (hb hby at_46) rfl ?_
              show Steps p.tables e below (T4.setTop (mkF m 47 #[.val (.int p1), .val (.int p2), .val (.int w2), .val (.int (0 : Int32))] [(.int (0 : Int32)), (.int (own_f2 w2))])) _
              refine XS.icmpNo X4.here hx rfl (hb hby at_47) rfl (teq (show (own_f2 w2) = (0 : Int32) by simp [own_f2, hc9, hc15, hc21, hc27, hc33])).2 ?_
              show Steps p.tables e below (T4.setTop (mkF m 50 #[.val (.int p1), .val (.int p2), .val (.int w2), .val (.int (0 : Int32))] [])) _
              refine XS.iconst X4.here hx rfl (hb hby at_50) ?_
              show Steps p.tables e below (T4.setTop (mkF m 51 #[.val (.int p1), .val (.int p2), .val (.int w2), .val (.int (0 : Int32))] [(.int (1 : Int32))])) _
              refine XS.goto X4.here hx rfl (pc0 := 51) (pc' := 55) rfl (hb hby at_51) (by decide) (by decide) ?_
              show Steps p.tables e below (T4.setTop (mkF m 55 #[.val (.int p1), .val (.int p2), .val (.int w2), .val (.int (0 : Int32))] [(.int (1 : Int32))])) _
              exact retN X4 hx (t := .boolean) Bd.returns (by simp) (hb hby at_55) hr
            · show Q0 Z p1 p2 h0 n0 _ T4.heap _
              exact ⟨rfl, N4⟩
set_option maxRecDepth 65536 in
set_option maxHeartbeats 40000000 in
theorem comes_1 {Post : Tables → Env → Array Value → State → Outcome → State → Prop} (hpost : ∀ tb e args s v u, (limb_1_1.after args s (.returned v) u = true ∧ limb_1_2.after args s (.returned v) u = true ∧ True) → FrameEnd s (.returned v) u (Jvm.fieldLocs frame_1_writes args s ++ Jvm.arrayLocs frame_1_arrays args s ++ Jvm.staticLocs frame_1_statics s) 16 128 → Post tb e args s (.returned v) u) :
    ArmFor flags0 classFile x code maxLocals ret World_1 tables_1 room_1 Calls_1 rest_1 Pre_1 Post := by
  intro l hfl _ _ p e ha hc hk s m args below hf hA hF happ hP
  obtain ⟨hcalls, hrest, hpre⟩ := hP
  obtain ⟨-, -, -, hnamed, -, -, -, hat⟩ := (Spec.applies_iff hf).mp happ
  obtain ⟨hg, hn⟩ := and_e (Cond.before_iff.mp (show (Jvm.Cond.and given_1 narrow_1).before args s = true from hpre))
  obtain ⟨g5, g6⟩ := and_e hg
  obtain ⟨g7, g8⟩ := and_e g6
  obtain ⟨w0, w1, rfl⟩ : ∃ w0 w1 : Value, args = #[w0, w1] := by
    have hs : args.size = 2 := by simpa [Cond.value, given_1] using g5
    obtain ⟨L⟩ := args
    match L, hs with
    | [w0, w1], _ => exact ⟨w0, w1, rfl⟩
  have hw := fun d (hd : d ∈ tables_1) => atoms_spec (ws := Jvm.Cond.code x code maxLocals ret :: tables_1) hat d (List.mem_cons_of_mem _ hd)
  have hfit : Fit s := fun {y c} hc i hi => by
    obtain ⟨ha, rfl⟩ := Array.getElem?_eq_some_iff.mp hc
    have q := List.all_eq_true.mp ((Array.all_eq_true_iff_forall_mem.mp hF) _ (Array.getElem_mem ha)) i (List.mem_range.mpr hi)
    simpa [Array.getElem?_eq_getElem hi] using q
  obtain ⟨i0, ei0⟩ := is_v g7
  obtain rfl : w0 = (.int i0) := Option.some.inj ei0
  obtain ⟨i1, ei1⟩ := is_v g8
  obtain rfl : w1 = (.int i1) := Option.some.inj ei1
  obtain ⟨n, o, h1, h2, h3, _, L, rfl, ⟨rfl, N⟩, hq⟩ := rm0 l s _ hw tables_1 i0 i1 s.heap s.heap.size (Nat.le_refl _) p e ha hc hk s m _ below hf ((Spec.applies_iff_loose hf).mp happ).1 ⟨rfl, State.Warmed39.refl s, rfl⟩ trivial
  refine ⟨n, _, h1, h2, h3, hpost _ _ _ _ _ _ ⟨Cond.after_iff.mpr rfl, Cond.after_iff.mpr (eq_i res_at (Term.int_eval (1)) rfl), trivial⟩ ⟨hq.1, hq.2.1, (hq.2.2.sift fun y hy => Or.inr (N y hy)).mono (by decide) (by decide)⟩⟩
theorem main_1_1 : Claimed_1_1 := comes_1 fun _ _ _ _ _ _ h hF => ⟨h.1, hF⟩
theorem main_1_2 : Claimed_1_2 := comes_1 fun _ _ _ _ _ _ h hF => ⟨h.2.1, hF⟩
end Jvm.Pilot.@@N@@
namespace Jvm.Pilot.@@N@@
open Jvm Jvm.ClassFile Sem Op Lib Jvm.Free Jvm.Stand Jvm.Pilot.@@N@@.Jvm.D
/-! MADE BY PROGRAM (witnessworld.py) out of the Statement's table words and the real class files: 9 classes; the members and pool entries that the words name. The judged class is class 1, her method 1. -/
namespace start1
open Jvm.ClassFile
def u (s : String) : CpInfo := .utf8 (stringToUtf16 s)
/-- a pool by its gaps: so many unusable entries, then the entry; so many at the end -/
def gap : Nat → List CpInfo → List CpInfo
  | 0, r => r
  | n + 1, r => .unusable :: gap n r
def poolList (es : List (Nat × CpInfo)) (last : Nat) : List CpInfo := es.foldr (fun e r => gap e.1 (e.2 :: r)) (gap last [])
def pool (es : List (Nat × CpInfo)) (last : Nat) : Array CpInfo := ⟨poolList es last⟩
def fileOf (pool : Array CpInfo) (this : Nat) (attrs : Array Attribute := #[]) (ms : Array MethodInfo := #[]) (fl : Nat := 33) (sup : Nat := 0) (ifs : Array Nat := #[]) (fds : Array FieldInfo := #[]) : ClassFile where
  minorVersion := 0
  majorVersion := 65
  constantPool := pool
  accessFlags := fl
  thisClass := this
  superClass := sup
  interfaces := ifs
  fields := fds
  methods := ms
  attributes := attrs
def plain (name : String) (sup : Option ClassId) : Class where
  name := name
  kind := .ordinary
  loader := none
  accessFlags := 33
  super := sup
  interfaces := #[]
  cf := none
  fields := #[]
  methods := #[]
  instanceTypes := #[]
  staticTypes := #[]
  resolved := #[]
  callSites := []
  init := .initialized
  statics := none
  mirror := none

def pool0 : Array CpInfo := pool [(5, u "<init>"), (0, u "()V"), (1, .class_ 10), (1, u "java/lang/Object")] 113

def k0m0 : Method := { name := "<init>", desc := "()V", sig := { parameters := [], returnType := none }, accessFlags := 1, code := none }
/-- java/lang/Object -/
def k0 : Class := { plain "java/lang/Object" none with
  accessFlags := 33
  interfaces := #[]
  cf := some (fileOf pool0 8 #[] #[{ accessFlags := 1, nameIndex := 5, descriptorIndex := 6, attributes := #[] }] 33 0 #[] #[])
  fields := #[]
  methods := #[k0m0]
  instanceTypes := #[]
  staticTypes := #[]
  resolved := Array.replicate 124 none
  statics := none }

def pool1 : Array CpInfo := pool [(2, .class_ 4), (1, u "java/lang/Object"), (0, u "<init>"), (0, u "()V"), (0, .methodref 8 9), (0, .class_ 10), (0, .nameAndType 11 12), (0, u "com/example/rolecall/rolecall/sources/YamlTextIsFlowIndicatorPinLaw"), (0, u "pick"), (0, u "(II)I"), (0, .methodref 14 15), (0, .class_ 16), (0, .nameAndType 17 18), (0, u "com/example/rolecall/rolecall/sources/YamlText"), (0, u "isFlowIndicator"), (0, u "(I)Z"), (0, .integer 65580), (0, .integer 65627), (0, .integer 65629), (0, .integer 65659), (0, .integer 65661), (2, u "law"), (0, u "(II)Z")] 5

def k1m0 : Method := { name := "<init>", desc := "()V", sig := { parameters := [], returnType := none }, accessFlags := 1, code := none }
def k1c1 : Code := { maxStack := 2, maxLocals := 4, code := code, exceptionTable := #[], attributes := #[] }
def k1m1 : Method := { name := "law", desc := "(II)Z", sig := { parameters := [.int, .int], returnType := some .boolean }, accessFlags := 9, code := some k1c1 }
def k1c2 : Code := { maxStack := 4, maxLocals := 4, code := method_3_code, exceptionTable := #[], attributes := #[] }
def k1m2 : Method := { name := "pick", desc := "(II)I", sig := { parameters := [.int, .int], returnType := some .int }, accessFlags := 10, code := some k1c2 }
/-- com/example/rolecall/rolecall/sources/YamlTextIsFlowIndicatorPinLaw -/
def k1 : Class := { plain "com/example/rolecall/rolecall/sources/YamlTextIsFlowIndicatorPinLaw" (some 0) with
  accessFlags := 49
  interfaces := #[]
  cf := some (fileOf pool1 8 #[] #[{ accessFlags := 1, nameIndex := 5, descriptorIndex := 6, attributes := #[] }, { accessFlags := 9, nameIndex := 26, descriptorIndex := 27, attributes := #[] }, { accessFlags := 10, nameIndex := 11, descriptorIndex := 12, attributes := #[] }] 49 2 #[] #[])
  fields := #[]
  methods := #[k1m0, k1m1, k1m2]
  instanceTypes := #[]
  staticTypes := #[]
  resolved := Array.replicate 33 none
  statics := none }

def pool2 : Array CpInfo := pool [(2, .class_ 4), (1, u "java/lang/Object"), (3, .class_ 10), (1, u "com/example/rolecall/rolecall/sources/YamlText"), (0, u "line"), (0, u "I"), (25, u "text"), (0, u "Ljava/lang/String;"), (2, u "file"), (0, u "Ljava/nio/file/Path;"), (27, u "pos"), (2, u "lineStart"), (13, u "(I)Z"), (180, u "isFlowIndicator"), (107, u "END")] 63

def k2c0 : Code := { maxStack := 2, maxLocals := 1, code := prog_49_method_40_code, exceptionTable := #[], attributes := #[] }
def k2m0 : Method := { name := "isFlowIndicator", desc := "(I)Z", sig := { parameters := [.int], returnType := some .boolean }, accessFlags := 8, code := some k2c0 }
/-- com/example/rolecall/rolecall/sources/YamlText -/
def k2 : Class := { plain "com/example/rolecall/rolecall/sources/YamlText" (some 0) with
  accessFlags := 48
  interfaces := #[]
  cf := some (fileOf pool2 8 #[] #[{ accessFlags := 8, nameIndex := 269, descriptorIndex := 88, attributes := #[] }] 48 2 #[] #[{ accessFlags := 24, nameIndex := 377, descriptorIndex := 12, attributes := #[] }, { accessFlags := 18, nameIndex := 38, descriptorIndex := 39, attributes := #[] }, { accessFlags := 18, nameIndex := 42, descriptorIndex := 43, attributes := #[] }, { accessFlags := 2, nameIndex := 71, descriptorIndex := 12, attributes := #[] }, { accessFlags := 2, nameIndex := 11, descriptorIndex := 12, attributes := #[] }, { accessFlags := 2, nameIndex := 74, descriptorIndex := 12, attributes := #[] }])
  fields := #[{ name := "END", type := .int, accessFlags := 24, slot := 0, constantValue := 0 }, { name := "text", type := (.object "java/lang/String"), accessFlags := 18, slot := 0, constantValue := 0 }, { name := "file", type := (.object "java/nio/file/Path"), accessFlags := 18, slot := 1, constantValue := 0 }, { name := "pos", type := .int, accessFlags := 2, slot := 2, constantValue := 0 }, { name := "line", type := .int, accessFlags := 2, slot := 3, constantValue := 0 }, { name := "lineStart", type := .int, accessFlags := 2, slot := 4, constantValue := 0 }]
  methods := #[k2m0]
  instanceTypes := #[(.object "java/lang/String"), (.object "java/nio/file/Path"), .int, .int, .int]
  staticTypes := #[.int]
  resolved := Array.replicate 441 none
  statics := none }

def pool3 : Array CpInfo := pool [(1, u "java/lang/Cloneable"), (0, .class_ 1), (0, u "java/lang/Object"), (0, .class_ 3)] 3

/-- java/lang/Cloneable -/
def k3 : Class := { plain "java/lang/Cloneable" (some 0) with
  accessFlags := 1537
  interfaces := #[]
  cf := some (fileOf pool3 2 #[] #[] 1537 4 #[] #[])
  fields := #[]
  methods := #[]
  instanceTypes := #[]
  staticTypes := #[]
  resolved := Array.replicate 8 none
  statics := none }

def pool4 : Array CpInfo := pool [(1, u "java/io/Serializable"), (0, .class_ 1), (0, u "java/lang/Object"), (0, .class_ 3)] 3

/-- java/io/Serializable -/
def k4 : Class := { plain "java/io/Serializable" (some 0) with
  accessFlags := 1537
  interfaces := #[]
  cf := some (fileOf pool4 2 #[] #[] 1537 4 #[] #[])
  fields := #[]
  methods := #[]
  instanceTypes := #[]
  staticTypes := #[]
  resolved := Array.replicate 8 none
  statics := none }

/-- the primitive byte -/
def k5 : Class := { plain "byte" none with kind := .primitive 'B', accessFlags := 0x411 }
/-- [B -/
def k6 : Class := { plain "[B" (some 0) with kind := .array 5 .byte, interfaces := #[3, 4], accessFlags := 1041 }

/-- the primitive int -/
def k7 : Class := { plain "int" none with kind := .primitive 'I', accessFlags := 0x411 }
/-- [I -/
def k8 : Class := { plain "[I" (some 0) with kind := .array 7 .int, interfaces := #[3, 4], accessFlags := 1041 }

def heap : Heap := #[]
def classes : Array Class := #[k0, k1, k2, k3, k4, k5, k6, k7, k8]
def interned : List (Array UInt16 × Addr) := []
def slotsUsed : Nat := 0
def theMethod : MethodId := ⟨1, 1⟩
def args0 : Array Value := #[.int 5, .int 3]
def aboutOver (below : List Frame) : State where
  vm := { classes := classes, interned := interned.toArray }
  heap := heap
  slotsUsed := slotsUsed
  threads := #[{ frames := .invoking theMethod args0 :: below }]
def below0 : List Frame := [.native { method := ⟨0, 0⟩, args := #[] }]
def about1 : State := aboutOver below0
def p0 : Program := .bare "" "" ""
def e0 : Env := launch0.env 0 0 0
theorem w_frames : about1.frames = Frame.invoking theMethod args0 :: below0 := rfl
set_option maxRecDepth 65536 in
theorem w_args : argsFit about1.vm theMethod args0 = true := by decide +kernel
set_option maxRecDepth 65536 in
theorem w_heap : heapFits about1 = true := by decide +kernel
set_option maxRecDepth 65536 in
theorem w_runnable : about1.curStatus? = some .runnable := by decide +kernel
set_option maxRecDepth 65536 in
theorem w_alone : about1.alone = true := by decide +kernel
set_option maxRecDepth 65536 in
theorem w_named : about1.methodNamed? x = some theMethod := by decide +kernel
set_option maxRecDepth 65536 in
theorem w_hears : about1.hears theMethod below0 = true := by decide +kernel
set_option maxRecDepth 65536 in
theorem w_ripe : about1.ripe theMethod args0 below0 = true := by decide +kernel
theorem w_running : about1.status = .running := rfl
set_option maxRecDepth 65536 in
theorem w_room : about1.hasRoom e0.platform room_1 = true :=
  launch0.hasRoom_least _ room_1 (by decide +kernel) (by decide +kernel) (by decide +kernel) (by decide +kernel) (by decide +kernel) (by decide +kernel)
theorem allAtoms_all (ts : List Jvm.Cond) (a : Array Jvm.Value) (st : Jvm.State) : (allAtoms ts).before a st = ts.all (fun c => c.before a st) := by
  induction ts with
  | nil => rfl
  | cons c t ih =>
    show (Jvm.Cond.and c (allAtoms t)).before a st = _
    rw [Jvm.Cond.before_and, ih, List.all_cons]
def words1 : List Jvm.Cond := Jvm.Cond.code x code maxLocals ret :: tables_1
/-- a 'code' word, met by the world's own term for the bytes: nothing is compared byte by byte -/
theorem code_word {y : MethodName} {bytes : ByteArray} {mx : Nat} {rt : Option FieldType} {a : Array Value} {s : State} {m : MethodId} {meth : Method} {c : Code} (h1 : s.methodNamed? y = some m) (h2 : s.vm.method? m = some meth) (h3 : meth.code = some c) (h4 : c.code = bytes)
    (h5 : (c.maxLocals == mx && c.exceptionTable.isEmpty && decide (c.maxStack ≤ mostOperands) && decide (meth.sig.returnType = rt) && !meth.locks && decide (parseMethodDescriptor y.desc = some meth.sig)) = true) : (Jvm.Cond.code y bytes mx rt).before a s = true := by
  simp only [Bool.and_eq_true, beq_iff_eq, Bool.not_eq_true', decide_eq_true_eq] at h5
  obtain ⟨⟨⟨⟨⟨g1, g2⟩, g3⟩, g4⟩, g5⟩, g6⟩ := h5
  simp [Cond.before, Cond.holds, Cond.value, h1, h2, h3, h4, g1, g2, g3, g4, g5, g6]
def isCode : Jvm.Cond → Bool
  | .code _ _ _ _ => true
  | _ => false
theorem all_split {L : List Jvm.Cond} {P : Jvm.Cond → Bool} (h1 : L.all (fun c => isCode c || P c) = true) (h2 : ∀ c ∈ L.filter isCode, P c = true) : L.all P = true := by
  refine List.all_eq_true.mpr fun c hc => ?_
  have h := List.all_eq_true.mp h1 c hc
  rcases Bool.eq_false_or_eq_true (isCode c) with hi | hi
  · exact h2 c (List.mem_filter.mpr ⟨hc, hi⟩)
  · simpa [hi] using h
set_option maxRecDepth 65536 in
theorem w_c0 : (Jvm.Cond.code x code maxLocals ret).before args0 about1 = true := code_word (m := ⟨1, 1⟩) (meth := k1m1) (c := k1c1) (by decide +kernel) rfl rfl rfl (by decide +kernel)
set_option maxRecDepth 65536 in
theorem w_c1 : (Jvm.Cond.code ({ cls := "com/example/rolecall/rolecall/sources/YamlTextIsFlowIndicatorPinLaw", name := "pick", desc := "(II)I" } : Jvm.MethodName) method_3_code (4 : Nat) (Option.some Jvm.ClassFile.FieldType.int)).before args0 about1 = true := code_word (m := ⟨1, 2⟩) (meth := k1m2) (c := k1c2) (by decide +kernel) rfl rfl rfl (by decide +kernel)
set_option maxRecDepth 65536 in
theorem w_c2 : (Jvm.Cond.code ({ cls := "com/example/rolecall/rolecall/sources/YamlText", name := "isFlowIndicator", desc := "(I)Z" } : Jvm.MethodName) prog_49_method_40_code (1 : Nat) (Option.some Jvm.ClassFile.FieldType.boolean)).before args0 about1 = true := code_word (m := ⟨2, 0⟩) (meth := k2m0) (c := k2c0) (by decide +kernel) rfl rfl rfl (by decide +kernel)
def codes1 : List Jvm.Cond := [Jvm.Cond.code x code maxLocals ret, Jvm.Cond.code ({ cls := "com/example/rolecall/rolecall/sources/YamlTextIsFlowIndicatorPinLaw", name := "pick", desc := "(II)I" } : Jvm.MethodName) method_3_code (4 : Nat) (Option.some Jvm.ClassFile.FieldType.int), Jvm.Cond.code ({ cls := "com/example/rolecall/rolecall/sources/YamlText", name := "isFlowIndicator", desc := "(I)Z" } : Jvm.MethodName) prog_49_method_40_code (1 : Nat) (Option.some Jvm.ClassFile.FieldType.boolean)]
set_option maxRecDepth 65536 in
theorem codes_eq : words1.filter isCode = codes1 := rfl
theorem w_codes : ∀ c ∈ words1.filter isCode, c.before args0 about1 = true := by
  rw [codes_eq]
  intro c hc
  simp only [codes1, List.mem_cons, List.not_mem_nil, or_false] at hc
  rcases hc with rfl | rfl | rfl
  · exact w_c0
  · exact w_c1
  · exact w_c2
set_option maxRecDepth 65536 in
theorem w_t1 : words1.all (fun c => isCode c || c.before args0 about1) = true := by decide +kernel
theorem w_tables : (allAtoms (Jvm.Cond.code x code maxLocals ret :: tables_1)).before args0 about1 = true := by
  rw [allAtoms_all]
  show words1.all (fun c => c.before args0 about1) = true
  refine all_split ?_ w_codes
  rw [w_t1]
set_option maxRecDepth 65536 in
theorem w_case : (Jvm.Cond.and given_1 narrow_1).before args0 about1 = true := by decide +kernel
theorem w_applies : (headSpec (Jvm.Cond.code x code maxLocals ret :: tables_1) room_1).applies x e0.platform about1 = true :=
  (Spec.applies_iff w_frames).mpr ⟨w_running, w_runnable, w_alone, w_named, w_hears, w_ripe, w_room, w_tables⟩
theorem atStart : AtStart classFile x code maxLocals ret World_1 tables_1 room_1 Calls_1 rest_1 Pre_1 launch0 p0 e0 about1 theMethod args0 below0 :=
  ⟨lists_1, trivial, launch0.admits_env _ _ _, launch0.least_env, fairChoices_fair.cas, fairChoices_fair.clock, w_frames, w_args, w_heap, w_applies, trivial, trivial, w_case⟩
end start1
theorem witness_1 : WitnessClaimed_1 := ⟨start1.p0, start1.e0, start1.about1, start1.theMethod, start1.args0, start1.below0, start1.atStart⟩
end Jvm.Pilot.@@N@@
