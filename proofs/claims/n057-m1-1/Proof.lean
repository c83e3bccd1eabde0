import JvmDerived
import JvmDerived.Pilot.@@N@@Statement
import JvmDerived.Pilot.@@N@@Code
set_option linter.unusedVariables false
set_option linter.unusedSimpArgs false
namespace Jvm.RoadKit
open Sem ClassFile Op Lib Jvm.Stand Jvm.Free Jvm.LawKit
section New
variable {p : Program} {l : Launch} {e : Env} {R : Room} {s : State} {m : MethodId} {args : Array Value} {below : List Frame} {meth : Method} {c : Code} {T : State} {locs : List Loc} {cells slots : Nat}
theorem retI (X : Stand p l e R s m args below meth c T locs cells slots) (hx : p.tables.exec = Jvm.exec) {pc : Nat} {Ls : Array Slot} {z : Int32} {rest : List Value} (hret : meth.sig.returnType = some .int) (hd : decode c.code pc = .ok (.ireturn, 1)) {fs : List Frame}
    (hl : ∀ (f : JFrame) (acts : List Action), f.method = m → f.locked = none → f.entered = [] → (doReturn e (T.setTop f) acts (some (.int z))).1 = T.setFrames fs) : Steps p.tables e below (T.setTop (mkF m pc Ls (.int z :: rest))) (T.setFrames fs) := by
  have hm' : T.vm.method? m = some meth := X.method'
  have hn : narrow .int (.int z) = .int z := rfl
  show Steps p.tables e below (T.setTop { method := m, pc := pc, locals := Ls, stack := _ :: rest, locked := none }) _
  jvm_step X.here [X.here.top, hx, hd, hm', hret, hn]
  first | (intro acts; rw [hl _ acts rfl rfl rfl]) | rw [hl _ _ rfl rfl rfl]
  exact Steps.refl _
end New
end Jvm.RoadKit
namespace Jvm.Pilot.@@N@@
open Jvm Jvm.ClassFile Sem Op Lib Jvm.Free Jvm.Stand Jvm.LawKit Jvm.RoadKit Bundle Jvm.Pilot.@@N@@.Jvm.D
def own_f1 (h m : Int32) : Int32 := if ¬ (h < (0 : Int32)) ∧ ¬ ((23 : Int32) < h) ∧ ¬ (m < (0 : Int32)) ∧ ¬ ((59 : Int32) < m) then 1 else 0
def own_f2 (h m : Int32) : Int32 := if lcmpW ((h.toInt64) &&& (4294967295 : Int64)) (24 : Int64) < (0 : Int32) ∧ lcmpW ((m.toInt64) &&& (4294967295 : Int64)) (60 : Int64) < (0 : Int32) then 1 else 0
theorem own_iff (h m : Int32) : (¬ (h < (0 : Int32)) ∧ ¬ ((23 : Int32) < h) ∧ ¬ (m < (0 : Int32)) ∧ ¬ ((59 : Int32) < m)) ↔ (lcmpW ((h.toInt64) &&& (4294967295 : Int64)) (24 : Int64) < (0 : Int32) ∧ lcmpW ((m.toInt64) &&& (4294967295 : Int64)) (60 : Int64) < (0 : Int32)) := by
  rw [lw_lt, lw_lt, Int64.lt_iff_toInt_lt, Int64.lt_iff_toInt_lt, Int32.lt_iff_toInt_lt, Int32.lt_iff_toInt_lt, Int32.lt_iff_toInt_lt, Int32.lt_iff_toInt_lt]
  have k1 : (0 : Int32).toInt = 0 := by decide
  have k2 : (23 : Int32).toInt = 23 := by decide
  have k3 : (59 : Int32).toInt = 59 := by decide
  have k5 : (24 : Int64).toInt = 24 := by decide
  have k6 : (60 : Int64).toInt = 60 := by decide
  have e1 := c_maskL h.toInt64 4294967295 32 (by decide) (by decide)
  have e2 := c_maskL m.toInt64 4294967295 32 (by decide) (by decide)
  rw [c_i2l] at e1 e2
  have r1 := rng32 h
  have r2 := rng32 m
  have p : ((2 ^ 32 : Nat) : Int) = 4294967296 := by decide
  rw [p] at e1 e2
  rw [k1, k2, k3, k5, k6, e1, e2]
  omega
theorem own_eq (h m : Int32) : own_f1 h m = own_f2 h m := by
  unfold own_f1 own_f2
  by_cases q : (¬ (h < (0 : Int32)) ∧ ¬ ((23 : Int32) < h) ∧ ¬ (m < (0 : Int32)) ∧ ¬ ((59 : Int32) < m))
  · rw [if_pos q, if_pos ((own_iff h m).mp q)]
  · rw [if_neg q, if_neg (fun z => q ((own_iff h m).mpr z))]
theorem d1_0 : decode prog_68_method_2_code 0 = .ok (.iload_n 0, 1) := by decide +kernel
theorem d1_1 : decode prog_68_method_2_code 1 = .ok (.ifCond .lt 23, 3) := by decide +kernel
theorem d1_4 : decode prog_68_method_2_code 4 = .ok (.iload_n 0, 1) := by decide +kernel
theorem d1_5 : decode prog_68_method_2_code 5 = .ok (.bipush 23, 2) := by decide +kernel
theorem d1_7 : decode prog_68_method_2_code 7 = .ok (.if_icmp .gt 17, 3) := by decide +kernel
theorem d1_10 : decode prog_68_method_2_code 10 = .ok (.iload_n 1, 1) := by decide +kernel
theorem d1_11 : decode prog_68_method_2_code 11 = .ok (.ifCond .lt 13, 3) := by decide +kernel
theorem d1_14 : decode prog_68_method_2_code 14 = .ok (.iload_n 1, 1) := by decide +kernel
theorem d1_15 : decode prog_68_method_2_code 15 = .ok (.bipush 59, 2) := by decide +kernel
theorem d1_17 : decode prog_68_method_2_code 17 = .ok (.if_icmp .gt 7, 3) := by decide +kernel
theorem d1_20 : decode prog_68_method_2_code 20 = .ok (.iconst 1, 1) := by decide +kernel
theorem d1_21 : decode prog_68_method_2_code 21 = .ok (.goto 4, 3) := by decide +kernel
theorem d1_24 : decode prog_68_method_2_code 24 = .ok (.iconst 0, 1) := by decide +kernel
theorem d1_25 : decode prog_68_method_2_code 25 = .ok (.ireturn, 1) := by decide +kernel
theorem pn_1 : plainName "viewsmith/samples/TimeOfDay" = true := by first | (simp [plainName, overriddenIn]; done) | decide +kernel
theorem ef_1 (m : MethodId) (x0 : Int32) (x1 : Int32) : entryFrame m #[(.int x0), (.int x1)] 2 = mkF m 0 #[.val (.int x0), .val (.int x1)] [] := by first | (simp [entryFrame, mkF, argsToLocals, Value.category]; done) | rfl
def Q1 (Z : State) (p1 : Int32) (p2 : Int32) (h0 : Heap) (n0 : Nat) (v : Option Value) (h : Heap) (L : List Loc) : Prop := v = some (.int (own_f1 p1 p2)) ∧ Fr n0 L ∧ h = h0
set_option maxRecDepth 65536 in
set_option maxHeartbeats 40000000 in
theorem rm1 (l : Launch) (Z : State) (a0 : Array Value) (hw : ∀ d ∈ tables_1, d.before a0 Z = true) (ws : List Jvm.Cond) (p1 : Int32) (p2 : Int32) (h0 : Heap) (n0 : Nat) (Z0 : n0 ≤ h0.size) :
    MetFree l (⟨"viewsmith/samples/TimeOfDay", "exists", "(II)Z"⟩ : MethodName) (head1 (Jvm.Cond.code (⟨"viewsmith/samples/TimeOfDay", "exists", "(II)Z"⟩ : MethodName) prog_68_method_2_code 2 (some .boolean) :: ws) ({ frames := 0, cells := 0, slots := 0, locals := 0 } : Room)) (fun a U => a = #[(.int p1), (.int p2)] ∧ Z.Warmed39 U.vm ∧ U.heap = h0) (fun _ _ _ _ _ => True) (fun _ U o U' => ∃ v L, o = .returned v ∧ Q1 Z p1 p2 h0 n0 v U'.heap L ∧ FrameEnd U o U' L ({ frames := 0, cells := 0, slots := 0, locals := 0 } : Room).cells ({ frames := 0, cells := 0, slots := 0, locals := 0 } : Room).slots) := by
  refine MetFree.of_bodySF (plainFor_of_name pn_1) hisR ?_
  intro p e s m args below meth c s₁ Bd hml0 hP hK
  obtain ⟨rfl, hZ, hh⟩ := hP
  have hx := Bd.exec
  have hby := Bd.bytes
  have hml : c.maxLocals = 2 := hml0
  have hown : s.vm.findClass "viewsmith/samples/TimeOfDay" = some m.cls := findClass_of_methodNamed Bd.named
  have hnm := (name_of_methodNamed Bd.named Bd.method).1
  have X0 : Stand p l e ({ frames := 0, cells := 0, slots := 0, locals := 0 } : Room) s m #[(.int p1), (.int p2)] below meth c s₁ [] 0 0 := Stand.of_body Bd
  have e0 : s₁.heap = h0 := by rw [← hh, Bd.state]; rfl
  have N0 := Fr.nil n0
  have pre0 : ∀ t, Steps p.tables e below (s₁.setTop (mkF m 0 #[.val (.int p1), .val (.int p2)] [])) t → Steps p.tables e below (s₁.setTop (entryFrame m #[(.int p1), (.int p2)] 2)) t := fun t k => castTop (ef_1 m p1 p2) k
  by_cases hc1 : p1 < (0 : Int32)
  · obtain ⟨fs, hr, hrun, hended, hW, hsame⟩ := X0.leave (v := some (.int (0 : Int32))) (fun h => by rw [Bd.returns] at h; cases h)
    refine ⟨_, _, pre0 _ ?_, hrun, hended, _, _, rfl, ?_, ⟨_, rfl⟩, hW, hsame.mono (by decide) (by decide)⟩
    · show Steps p.tables e below (s₁.setTop (mkF m 0 #[.val (.int p1), .val (.int p2)] [])) _
      refine XS.iloadN X0.here hx rfl (hb hby d1_0) rfl ?_
      show Steps p.tables e below (s₁.setTop (mkF m 1 #[.val (.int p1), .val (.int p2)] [(.int p1)])) _
      refine XS.ifYes X0.here hx rfl (pc0 := 1) (pc' := 24) rfl (hb hby d1_1) rfl ((if0 _ _).trans (tlt hc1).1) (by decide) (by decide) ?_
      show Steps p.tables e below (s₁.setTop (mkF m 24 #[.val (.int p1), .val (.int p2)] [])) _
      refine XS.iconst X0.here hx rfl (hb hby d1_24) ?_
      show Steps p.tables e below (s₁.setTop (mkF m 25 #[.val (.int p1), .val (.int p2)] [(.int (0 : Int32))])) _
      exact retN X0 hx (t := .boolean) Bd.returns (by simp) (hb hby d1_25) hr
    · show Q1 Z p1 p2 h0 n0 _ s₁.heap _
      rw [e0]
      exact ⟨(by simp [own_f1, hc1]), N0, rfl⟩
  · by_cases hc7 : (23 : Int32) < p1
    · obtain ⟨fs, hr, hrun, hended, hW, hsame⟩ := X0.leave (v := some (.int (0 : Int32))) (fun h => by rw [Bd.returns] at h; cases h)
      refine ⟨_, _, pre0 _ ?_, hrun, hended, _, _, rfl, ?_, ⟨_, rfl⟩, hW, hsame.mono (by decide) (by decide)⟩
      · show Steps p.tables e below (s₁.setTop (mkF m 0 #[.val (.int p1), .val (.int p2)] [])) _
        refine XS.iloadN X0.here hx rfl (hb hby d1_0) rfl ?_
        show Steps p.tables e below (s₁.setTop (mkF m 1 #[.val (.int p1), .val (.int p2)] [(.int p1)])) _
        refine XS.ifNo X0.here hx rfl (hb hby d1_1) rfl ((if0 _ _).trans (flt hc1).1) ?_
        show Steps p.tables e below (s₁.setTop (mkF m 4 #[.val (.int p1), .val (.int p2)] [])) _
        refine XS.iloadN X0.here hx rfl (hb hby d1_4) rfl ?_
        show Steps p.tables e below (s₁.setTop (mkF m 5 #[.val (.int p1), .val (.int p2)] [(.int p1)])) _
        refine XS.bipush X0.here hx rfl (hb hby d1_5) ?_
        show Steps p.tables e below (s₁.setTop (mkF m 7 #[.val (.int p1), .val (.int p2)] [(.int (23 : Int32)), (.int p1)])) _
        refine XS.icmpYes X0.here hx rfl (pc0 := 7) (pc' := 24) rfl (hb hby d1_7) rfl (tlt hc7).2.2.1 (by decide) (by decide) ?_
        show Steps p.tables e below (s₁.setTop (mkF m 24 #[.val (.int p1), .val (.int p2)] [])) _
        refine XS.iconst X0.here hx rfl (hb hby d1_24) ?_
        show Steps p.tables e below (s₁.setTop (mkF m 25 #[.val (.int p1), .val (.int p2)] [(.int (0 : Int32))])) _
        exact retN X0 hx (t := .boolean) Bd.returns (by simp) (hb hby d1_25) hr
      · show Q1 Z p1 p2 h0 n0 _ s₁.heap _
        rw [e0]
        exact ⟨(by simp [own_f1, hc1, hc7]), N0, rfl⟩
    · by_cases hc11 : p2 < (0 : Int32)
      · obtain ⟨fs, hr, hrun, hended, hW, hsame⟩ := X0.leave (v := some (.int (0 : Int32))) (fun h => by rw [Bd.returns] at h; cases h)
        refine ⟨_, _, pre0 _ ?_, hrun, hended, _, _, rfl, ?_, ⟨_, rfl⟩, hW, hsame.mono (by decide) (by decide)⟩
        · show Steps p.tables e below (s₁.setTop (mkF m 0 #[.val (.int p1), .val (.int p2)] [])) _
          refine XS.iloadN X0.here hx rfl (hb hby d1_0) rfl ?_
          show Steps p.tables e below (s₁.setTop (mkF m 1 #[.val (.int p1), .val (.int p2)] [(.int p1)])) _
          refine XS.ifNo X0.here hx rfl (hb hby d1_1) rfl ((if0 _ _).trans (flt hc1).1) ?_
          show Steps p.tables e below (s₁.setTop (mkF m 4 #[.val (.int p1), .val (.int p2)] [])) _
          refine XS.iloadN X0.here hx rfl (hb hby d1_4) rfl ?_
          show Steps p.tables e below (s₁.setTop (mkF m 5 #[.val (.int p1), .val (.int p2)] [(.int p1)])) _
          refine XS.bipush X0.here hx rfl (hb hby d1_5) ?_
          show Steps p.tables e below (s₁.setTop (mkF m 7 #[.val (.int p1), .val (.int p2)] [(.int (23 : Int32)), (.int p1)])) _
          refine XS.icmpNo X0.here hx rfl (hb hby d1_7) rfl (flt hc7).2.2.1 ?_
          show Steps p.tables e below (s₁.setTop (mkF m 10 #[.val (.int p1), .val (.int p2)] [])) _
          refine XS.iloadN X0.here hx rfl (hb hby d1_10) rfl ?_
          show Steps p.tables e below (s₁.setTop (mkF m 11 #[.val (.int p1), .val (.int p2)] [(.int p2)])) _
          refine XS.ifYes X0.here hx rfl (pc0 := 11) (pc' := 24) rfl (hb hby d1_11) rfl ((if0 _ _).trans (tlt hc11).1) (by decide) (by decide) ?_
          show Steps p.tables e below (s₁.setTop (mkF m 24 #[.val (.int p1), .val (.int p2)] [])) _
          refine XS.iconst X0.here hx rfl (hb hby d1_24) ?_
          show Steps p.tables e below (s₁.setTop (mkF m 25 #[.val (.int p1), .val (.int p2)] [(.int (0 : Int32))])) _
          exact retN X0 hx (t := .boolean) Bd.returns (by simp) (hb hby d1_25) hr
        · show Q1 Z p1 p2 h0 n0 _ s₁.heap _
          rw [e0]
          exact ⟨(by simp [own_f1, hc1, hc7, hc11]), N0, rfl⟩
      · by_cases hc17 : (59 : Int32) < p2
        · obtain ⟨fs, hr, hrun, hended, hW, hsame⟩ := X0.leave (v := some (.int (0 : Int32))) (fun h => by rw [Bd.returns] at h; cases h)
          refine ⟨_, _, pre0 _ ?_, hrun, hended, _, _, rfl, ?_, ⟨_, rfl⟩, hW, hsame.mono (by decide) (by decide)⟩
          · show Steps p.tables e below (s₁.setTop (mkF m 0 #[.val (.int p1), .val (.int p2)] [])) _
            refine XS.iloadN X0.here hx rfl (hb hby d1_0) rfl ?_
            show Steps p.tables e below (s₁.setTop (mkF m 1 #[.val (.int p1), .val (.int p2)] [(.int p1)])) _
            refine XS.ifNo X0.here hx rfl (hb hby d1_1) rfl ((if0 _ _).trans (flt hc1).1) ?_
            show Steps p.tables e below (s₁.setTop (mkF m 4 #[.val (.int p1), .val (.int p2)] [])) _
            refine XS.iloadN X0.here hx rfl (hb hby d1_4) rfl ?_
            show Steps p.tables e below (s₁.setTop (mkF m 5 #[.val (.int p1), .val (.int p2)] [(.int p1)])) _
            refine XS.bipush X0.here hx rfl (hb hby d1_5) ?_
            show Steps p.tables e below (s₁.setTop (mkF m 7 #[.val (.int p1), .val (.int p2)] [(.int (23 : Int32)), (.int p1)])) _
            refine XS.icmpNo X0.here hx rfl (hb hby d1_7) rfl (flt hc7).2.2.1 ?_
            show Steps p.tables e below (s₁.setTop (mkF m 10 #[.val (.int p1), .val (.int p2)] [])) _
            refine XS.iloadN X0.here hx rfl (hb hby d1_10) rfl ?_
            show Steps p.tables e below (s₁.setTop (mkF m 11 #[.val (.int p1), .val (.int p2)] [(.int p2)])) _
            refine XS.ifNo X0.here hx rfl (hb hby d1_11) rfl ((if0 _ _).trans (flt hc11).1) ?_
            show Steps p.tables e below (s₁.setTop (mkF m 14 #[.val (.int p1), .val (.int p2)] [])) _
            refine XS.iloadN X0.here hx rfl (hb hby d1_14) rfl ?_
            show Steps p.tables e below (s₁.setTop (mkF m 15 #[.val (.int p1), .val (.int p2)] [(.int p2)])) _
            refine XS.bipush X0.here hx rfl (hb hby d1_15) ?_
            show Steps p.tables e below (s₁.setTop (mkF m 17 #[.val (.int p1), .val (.int p2)] [(.int (59 : Int32)), (.int p2)])) _
            refine XS.icmpYes X0.here hx rfl (pc0 := 17) (pc' := 24) rfl (hb hby d1_17) rfl (tlt hc17).2.2.1 (by decide) (by decide) ?_
            show Steps p.tables e below (s₁.setTop (mkF m 24 #[.val (.int p1), .val (.int p2)] [])) _
            refine XS.iconst X0.here hx rfl (hb hby d1_24) ?_
            show Steps p.tables e below (s₁.setTop (mkF m 25 #[.val (.int p1), .val (.int p2)] [(.int (0 : Int32))])) _
            exact retN X0 hx (t := .boolean) Bd.returns (by simp) (hb hby d1_25) hr
          · show Q1 Z p1 p2 h0 n0 _ s₁.heap _
            rw [e0]
            exact ⟨(by simp [own_f1, hc1, hc7, hc11, hc17]), N0, rfl⟩
        · obtain ⟨fs, hr, hrun, hended, hW, hsame⟩ := X0.leave (v := some (.int (1 : Int32))) (fun h => by rw [Bd.returns] at h; cases h)
          refine ⟨_, _, pre0 _ ?_, hrun, hended, _, _, rfl, ?_, ⟨_, rfl⟩, hW, hsame.mono (by decide) (by decide)⟩
          · show Steps p.tables e below (s₁.setTop (mkF m 0 #[.val (.int p1), .val (.int p2)] [])) _
            refine XS.iloadN X0.here hx rfl (hb hby d1_0) rfl ?_
            show Steps p.tables e below (s₁.setTop (mkF m 1 #[.val (.int p1), .val (.int p2)] [(.int p1)])) _
            refine XS.ifNo X0.here hx rfl (hb hby d1_1) rfl ((if0 _ _).trans (flt hc1).1) ?_
            show Steps p.tables e below (s₁.setTop (mkF m 4 #[.val (.int p1), .val (.int p2)] [])) _
            refine XS.iloadN X0.here hx rfl (hb hby d1_4) rfl ?_
            show Steps p.tables e below (s₁.setTop (mkF m 5 #[.val (.int p1), .val (.int p2)] [(.int p1)])) _
            refine XS.bipush X0.here hx rfl (hb hby d1_5) ?_
            show Steps p.tables e below (s₁.setTop (mkF m 7 #[.val (.int p1), .val (.int p2)] [(.int (23 : Int32)), (.int p1)])) _
            refine XS.icmpNo X0.here hx rfl (hb hby d1_7) rfl (flt hc7).2.2.1 ?_
            show Steps p.tables e below (s₁.setTop (mkF m 10 #[.val (.int p1), .val (.int p2)] [])) _
            refine XS.iloadN X0.here hx rfl (hb hby d1_10) rfl ?_
            show Steps p.tables e below (s₁.setTop (mkF m 11 #[.val (.int p1), .val (.int p2)] [(.int p2)])) _
            refine XS.ifNo X0.here hx rfl (hb hby d1_11) rfl ((if0 _ _).trans (flt hc11).1) ?_
            show Steps p.tables e below (s₁.setTop (mkF m 14 #[.val (.int p1), .val (.int p2)] [])) _
            refine XS.iloadN X0.here hx rfl (hb hby d1_14) rfl ?_
            show Steps p.tables e below (s₁.setTop (mkF m 15 #[.val (.int p1), .val (.int p2)] [(.int p2)])) _
            refine XS.bipush X0.here hx rfl (hb hby d1_15) ?_
            show Steps p.tables e below (s₁.setTop (mkF m 17 #[.val (.int p1), .val (.int p2)] [(.int (59 : Int32)), (.int p2)])) _
            refine XS.icmpNo X0.here hx rfl (hb hby d1_17) rfl (flt hc17).2.2.1 ?_
            show Steps p.tables e below (s₁.setTop (mkF m 20 #[.val (.int p1), .val (.int p2)] [])) _
            refine XS.iconst X0.here hx rfl (hb hby d1_20) ?_
            show Steps p.tables e below (s₁.setTop (mkF m 21 #[.val (.int p1), .val (.int p2)] [(.int (1 : Int32))])) _
            refine XS.goto X0.here hx rfl (pc0 := 21) (pc' := 25) rfl (hb hby d1_21) (by decide) (by decide) ?_
            show Steps p.tables e below (s₁.setTop (mkF m 25 #[.val (.int p1), .val (.int p2)] [(.int (1 : Int32))])) _
            exact retN X0 hx (t := .boolean) Bd.returns (by simp) (hb hby d1_25) hr
          · show Q1 Z p1 p2 h0 n0 _ s₁.heap _
            rw [e0]
            exact ⟨(by simp [own_f1, hc1, hc7, hc11, hc17]), N0, rfl⟩
theorem d2_0 : decode method_2_code 0 = .ok (.iload_n 0, 1) := by decide +kernel
theorem d2_1 : decode method_2_code 1 = .ok (.i2l, 1) := by decide +kernel
theorem d2_2 : decode method_2_code 2 = .ok (.ldc2_w 7, 3) := by decide +kernel
theorem d2_5 : decode method_2_code 5 = .ok (.land, 1) := by decide +kernel
theorem d2_6 : decode method_2_code 6 = .ok (.lstore_n 2, 1) := by decide +kernel
theorem d2_7 : decode method_2_code 7 = .ok (.iload_n 1, 1) := by decide +kernel
theorem d2_8 : decode method_2_code 8 = .ok (.i2l, 1) := by decide +kernel
theorem d2_9 : decode method_2_code 9 = .ok (.ldc2_w 7, 3) := by decide +kernel
theorem d2_12 : decode method_2_code 12 = .ok (.land, 1) := by decide +kernel
theorem d2_13 : decode method_2_code 13 = .ok (.lstore 4, 2) := by decide +kernel
theorem d2_15 : decode method_2_code 15 = .ok (.lload_n 2, 1) := by decide +kernel
theorem d2_16 : decode method_2_code 16 = .ok (.ldc2_w 9, 3) := by decide +kernel
theorem d2_19 : decode method_2_code 19 = .ok (.lcmp, 1) := by decide +kernel
theorem d2_20 : decode method_2_code 20 = .ok (.ifCond .ge 16, 3) := by decide +kernel
theorem d2_23 : decode method_2_code 23 = .ok (.lload 4, 2) := by decide +kernel
theorem d2_25 : decode method_2_code 25 = .ok (.ldc2_w 11, 3) := by decide +kernel
theorem d2_28 : decode method_2_code 28 = .ok (.lcmp, 1) := by decide +kernel
theorem d2_29 : decode method_2_code 29 = .ok (.ifCond .ge 7, 3) := by decide +kernel
theorem d2_32 : decode method_2_code 32 = .ok (.iconst 1, 1) := by decide +kernel
theorem d2_33 : decode method_2_code 33 = .ok (.goto 4, 3) := by decide +kernel
theorem d2_36 : decode method_2_code 36 = .ok (.iconst 0, 1) := by decide +kernel
theorem d2_37 : decode method_2_code 37 = .ok (.ireturn, 1) := by decide +kernel
theorem pn_2 : plainName "viewsmith/samples/TimeOfDayExistsPinLaw" = true := by first | (simp [plainName, overriddenIn]; done) | decide +kernel
theorem ef_2 (m : MethodId) (x0 : Int32) (x1 : Int32) : entryFrame m #[(.int x0), (.int x1)] 6 = mkF m 0 #[.val (.int x0), .val (.int x1), .unset, .unset, .unset, .unset] [] := by first | (simp [entryFrame, mkF, argsToLocals, Value.category]; done) | rfl
def Q2 (Z : State) (p1 : Int32) (p2 : Int32) (h0 : Heap) (n0 : Nat) (v : Option Value) (h : Heap) (L : List Loc) : Prop := v = some (.int (own_f2 p1 p2)) ∧ Fr n0 L ∧ h = h0
set_option maxRecDepth 65536 in
set_option maxHeartbeats 40000000 in
theorem rm2 (l : Launch) (Z : State) (a0 : Array Value) (hw : ∀ d ∈ tables_1, d.before a0 Z = true) (ws : List Jvm.Cond) (p1 : Int32) (p2 : Int32) (h0 : Heap) (n0 : Nat) (Z0 : n0 ≤ h0.size) :
    MetFree l (⟨"viewsmith/samples/TimeOfDayExistsPinLaw", "reference", "(II)Z"⟩ : MethodName) (head1 (Jvm.Cond.code (⟨"viewsmith/samples/TimeOfDayExistsPinLaw", "reference", "(II)Z"⟩ : MethodName) method_2_code 6 (some .boolean) :: ws) ({ frames := 0, cells := 0, slots := 0, locals := 0 } : Room)) (fun a U => a = #[(.int p1), (.int p2)] ∧ Z.Warmed39 U.vm ∧ U.heap = h0) (fun _ _ _ _ _ => True) (fun _ U o U' => ∃ v L, o = .returned v ∧ Q2 Z p1 p2 h0 n0 v U'.heap L ∧ FrameEnd U o U' L ({ frames := 0, cells := 0, slots := 0, locals := 0 } : Room).cells ({ frames := 0, cells := 0, slots := 0, locals := 0 } : Room).slots) := by
  refine MetFree.of_bodySF (plainFor_of_name pn_2) hisR ?_
  intro p e s m args below meth c s₁ Bd hml0 hP hK
  obtain ⟨rfl, hZ, hh⟩ := hP
  have hx := Bd.exec
  have hby := Bd.bytes
  have hml : c.maxLocals = 6 := hml0
  have hown : s.vm.findClass "viewsmith/samples/TimeOfDayExistsPinLaw" = some m.cls := findClass_of_methodNamed Bd.named
  have hnm := (name_of_methodNamed Bd.named Bd.method).1
  have X0 : Stand p l e ({ frames := 0, cells := 0, slots := 0, locals := 0 } : Room) s m #[(.int p1), (.int p2)] below meth c s₁ [] 0 0 := Stand.of_body Bd
  have e0 : s₁.heap = h0 := by rw [← hh, Bd.state]; rfl
  have N0 := Fr.nil n0
  have pre0 : ∀ t, Steps p.tables e below (s₁.setTop (mkF m 0 #[.val (.int p1), .val (.int p2), .unset, .unset, .unset, .unset] [])) t → Steps p.tables e below (s₁.setTop (entryFrame m #[(.int p1), (.int p2)] 6)) t := fun t k => castTop (ef_2 m p1 p2) k
  by_cases hc20 : (lcmpW ((p1.toInt64) &&& (4294967295 : Int64)) (24 : Int64)) < (0 : Int32)
  · by_cases hc29 : (lcmpW ((p2.toInt64) &&& (4294967295 : Int64)) (60 : Int64)) < (0 : Int32)
    · obtain ⟨fs, hr, hrun, hended, hW, hsame⟩ := X0.leave (v := some (.int (1 : Int32))) (fun h => by rw [Bd.returns] at h; cases h)
      refine ⟨_, _, pre0 _ ?_, hrun, hended, _, _, rfl, ?_, ⟨_, rfl⟩, hW, hsame.mono (by decide) (by decide)⟩
      · show Steps p.tables e below (s₁.setTop (mkF m 0 #[.val (.int p1), .val (.int p2), .unset, .unset, .unset, .unset] [])) _
        refine XS.iloadN X0.here hx rfl (hb hby d2_0) rfl ?_
        show Steps p.tables e below (s₁.setTop (mkF m 1 #[.val (.int p1), .val (.int p2), .unset, .unset, .unset, .unset] [(.int p1)])) _
        refine XS.i2l X0.here hx rfl (hb hby d2_1) rfl ?_
        show Steps p.tables e below (s₁.setTop (mkF m 2 #[.val (.int p1), .val (.int p2), .unset, .unset, .unset, .unset] [(.long (p1.toInt64))])) _
        refine X0.ldc2Long hx hown (mvT hZ (hw _ (List.mem_of_getElem? (i := 8) rfl))) (g := (mkF m 2 #[.val (.int p1), .val (.int p2), .unset, .unset, .unset, .unset] [(.long (p1.toInt64))])) rfl (hb hby d2_2) _ ?_
        show Steps p.tables e below (s₁.setTop (mkF m 5 #[.val (.int p1), .val (.int p2), .unset, .unset, .unset, .unset] [(.long (4294967295 : Int64)), (.long (p1.toInt64))])) _
        refine XS.land X0.here hx rfl (hb hby d2_5) rfl ?_
        show Steps p.tables e below (s₁.setTop (mkF m 6 #[.val (.int p1), .val (.int p2), .unset, .unset, .unset, .unset] [(.long ((p1.toInt64) &&& (4294967295 : Int64)))])) _
        refine XS.lstoreN X0.here hx rfl (hb hby d2_6) rfl (l' := #[.val (.int p1), .val (.int p2), .val (.long ((p1.toInt64) &&& (4294967295 : Int64))), .second, .unset, .unset]) rfl ?_
        show Steps p.tables e below (s₁.setTop (mkF m 7 #[.val (.int p1), .val (.int p2), .val (.long ((p1.toInt64) &&& (4294967295 : Int64))), .second, .unset, .unset] [])) _
        refine XS.iloadN X0.here hx rfl (hb hby d2_7) rfl ?_
        show Steps p.tables e below (s₁.setTop (mkF m 8 #[.val (.int p1), .val (.int p2), .val (.long ((p1.toInt64) &&& (4294967295 : Int64))), .second, .unset, .unset] [(.int p2)])) _
        refine XS.i2l X0.here hx rfl (hb hby d2_8) rfl ?_
        show Steps p.tables e below (s₁.setTop (mkF m 9 #[.val (.int p1), .val (.int p2), .val (.long ((p1.toInt64) &&& (4294967295 : Int64))), .second, .unset, .unset] [(.long (p2.toInt64))])) _
        refine X0.ldc2Long hx hown (mvT hZ (hw _ (List.mem_of_getElem? (i := 8) rfl))) (g := (mkF m 9 #[.val (.int p1), .val (.int p2), .val (.long ((p1.toInt64) &&& (4294967295 : Int64))), .second, .unset, .unset] [(.long (p2.toInt64))])) rfl (hb hby d2_9) _ ?_
        show Steps p.tables e below (s₁.setTop (mkF m 12 #[.val (.int p1), .val (.int p2), .val (.long ((p1.toInt64) &&& (4294967295 : Int64))), .second, .unset, .unset] [(.long (4294967295 : Int64)), (.long (p2.toInt64))])) _
        refine XS.land X0.here hx rfl (hb hby d2_12) rfl ?_
        show Steps p.tables e below (s₁.setTop (mkF m 13 #[.val (.int p1), .val (.int p2), .val (.long ((p1.toInt64) &&& (4294967295 : Int64))), .second, .unset, .unset] [(.long ((p2.toInt64) &&& (4294967295 : Int64)))])) _
        refine XS.lstore X0.here hx rfl (hb hby d2_13) rfl (l' := #[.val (.int p1), .val (.int p2), .val (.long ((p1.toInt64) &&& (4294967295 : Int64))), .second, .val (.long ((p2.toInt64) &&& (4294967295 : Int64))), .second]) rfl ?_
        show Steps p.tables e below (s₁.setTop (mkF m 15 #[.val (.int p1), .val (.int p2), .val (.long ((p1.toInt64) &&& (4294967295 : Int64))), .second, .val (.long ((p2.toInt64) &&& (4294967295 : Int64))), .second] [])) _
        refine XS.lloadN X0.here hx rfl (hb hby d2_15) rfl ?_
        show Steps p.tables e below (s₁.setTop (mkF m 16 #[.val (.int p1), .val (.int p2), .val (.long ((p1.toInt64) &&& (4294967295 : Int64))), .second, .val (.long ((p2.toInt64) &&& (4294967295 : Int64))), .second] [(.long ((p1.toInt64) &&& (4294967295 : Int64)))])) _
        refine X0.ldc2Long hx hown (mvT hZ (hw _ (List.mem_of_getElem? (i := 9) rfl))) (g := (mkF m 16 #[.val (.int p1), .val (.int p2), .val (.long ((p1.toInt64) &&& (4294967295 : Int64))), .second, .val (.long ((p2.toInt64) &&& (4294967295 : Int64))), .second] [(.long ((p1.toInt64) &&& (4294967295 : Int64)))])) rfl (hb hby d2_16) _ ?_
        show Steps p.tables e below (s₁.setTop (mkF m 19 #[.val (.int p1), .val (.int p2), .val (.long ((p1.toInt64) &&& (4294967295 : Int64))), .second, .val (.long ((p2.toInt64) &&& (4294967295 : Int64))), .second] [(.long (24 : Int64)), (.long ((p1.toInt64) &&& (4294967295 : Int64)))])) _
        refine XS.lcmp X0.here hx rfl (hb hby d2_19) rfl ?_
        show Steps p.tables e below (s₁.setTop (mkF m 20 #[.val (.int p1), .val (.int p2), .val (.long ((p1.toInt64) &&& (4294967295 : Int64))), .second, .val (.long ((p2.toInt64) &&& (4294967295 : Int64))), .second] [(.int (lcmpW ((p1.toInt64) &&& (4294967295 : Int64)) (24 : Int64)))])) _
        refine XS.ifNo X0.here hx rfl (hb hby d2_20) rfl ((if0 _ _).trans (tlt hc20).2.1) ?_
        show Steps p.tables e below (s₁.setTop (mkF m 23 #[.val (.int p1), .val (.int p2), .val (.long ((p1.toInt64) &&& (4294967295 : Int64))), .second, .val (.long ((p2.toInt64) &&& (4294967295 : Int64))), .second] [])) _
        refine XS.lload X0.here hx rfl (hb hby d2_23) rfl ?_
        show Steps p.tables e below (s₁.setTop (mkF m 25 #[.val (.int p1), .val (.int p2), .val (.long ((p1.toInt64) &&& (4294967295 : Int64))), .second, .val (.long ((p2.toInt64) &&& (4294967295 : Int64))), .second] [(.long ((p2.toInt64) &&& (4294967295 : Int64)))])) _
        refine X0.ldc2Long hx hown (mvT hZ (hw _ (List.mem_of_getElem? (i := 10) rfl))) (g := (mkF m 25 #[.val (.int p1), .val (.int p2), .val (.long ((p1.toInt64) &&& (4294967295 : Int64))), .second, .val (.long ((p2.toInt64) &&& (4294967295 : Int64))), .second] [(.long ((p2.toInt64) &&& (4294967295 : Int64)))])) rfl (hb hby d2_25) _ ?_
        show Steps p.tables e below (s₁.setTop (mkF m 28 #[.val (.int p1), .val (.int p2), .val (.long ((p1.toInt64) &&& (4294967295 : Int64))), .second, .val (.long ((p2.toInt64) &&& (4294967295 : Int64))), .second] [(.long (60 : Int64)), (.long ((p2.toInt64) &&& (4294967295 : Int64)))])) _
        refine XS.lcmp X0.here hx rfl (hb hby d2_28) rfl ?_
        show Steps p.tables e below (s₁.setTop (mkF m 29 #[.val (.int p1), .val (.int p2), .val (.long ((p1.toInt64) &&& (4294967295 : Int64))), .second, .val (.long ((p2.toInt64) &&& (4294967295 : Int64))), .second] [(.int (lcmpW ((p2.toInt64) &&& (4294967295 : Int64)) (60 : Int64)))])) _
        refine XS.ifNo X0.here hx rfl (hb hby d2_29) rfl ((if0 _ _).trans (tlt hc29).2.1) ?_
        show Steps p.tables e below (s₁.setTop (mkF m 32 #[.val (.int p1), .val (.int p2), .val (.long ((p1.toInt64) &&& (4294967295 : Int64))), .second, .val (.long ((p2.toInt64) &&& (4294967295 : Int64))), .second] [])) _
        refine XS.iconst X0.here hx rfl (hb hby d2_32) ?_
        show Steps p.tables e below (s₁.setTop (mkF m 33 #[.val (.int p1), .val (.int p2), .val (.long ((p1.toInt64) &&& (4294967295 : Int64))), .second, .val (.long ((p2.toInt64) &&& (4294967295 : Int64))), .second] [(.int (1 : Int32))])) _
        refine XS.goto X0.here hx rfl (pc0 := 33) (pc' := 37) rfl (hb hby d2_33) (by decide) (by decide) ?_
        show Steps p.tables e below (s₁.setTop (mkF m 37 #[.val (.int p1), .val (.int p2), .val (.long ((p1.toInt64) &&& (4294967295 : Int64))), .second, .val (.long ((p2.toInt64) &&& (4294967295 : Int64))), .second] [(.int (1 : Int32))])) _
        exact retN X0 hx (t := .boolean) Bd.returns (by simp) (hb hby d2_37) hr
      · show Q2 Z p1 p2 h0 n0 _ s₁.heap _
        rw [e0]
        exact ⟨(by simp [own_f2, hc20, hc29]), N0, rfl⟩
    · obtain ⟨fs, hr, hrun, hended, hW, hsame⟩ := X0.leave (v := some (.int (0 : Int32))) (fun h => by rw [Bd.returns] at h; cases h)
      refine ⟨_, _, pre0 _ ?_, hrun, hended, _, _, rfl, ?_, ⟨_, rfl⟩, hW, hsame.mono (by decide) (by decide)⟩
      · show Steps p.tables e below (s₁.setTop (mkF m 0 #[.val (.int p1), .val (.int p2), .unset, .unset, .unset, .unset] [])) _
        refine XS.iloadN X0.here hx rfl (hb hby d2_0) rfl ?_
        show Steps p.tables e below (s₁.setTop (mkF m 1 #[.val (.int p1), .val (.int p2), .unset, .unset, .unset, .unset] [(.int p1)])) _
        refine XS.i2l X0.here hx rfl (hb hby d2_1) rfl ?_
        show Steps p.tables e below (s₁.setTop (mkF m 2 #[.val (.int p1), .val (.int p2), .unset, .unset, .unset, .unset] [(.long (p1.toInt64))])) _
        refine X0.ldc2Long hx hown (mvT hZ (hw _ (List.mem_of_getElem? (i := 8) rfl))) (g := (mkF m 2 #[.val (.int p1), .val (.int p2), .unset, .unset, .unset, .unset] [(.long (p1.toInt64))])) rfl (hb hby d2_2) _ ?_
        show Steps p.tables e below (s₁.setTop (mkF m 5 #[.val (.int p1), .val (.int p2), .unset, .unset, .unset, .unset] [(.long (4294967295 : Int64)), (.long (p1.toInt64))])) _
        refine XS.land X0.here hx rfl (hb hby d2_5) rfl ?_
        show Steps p.tables e below (s₁.setTop (mkF m 6 #[.val (.int p1), .val (.int p2), .unset, .unset, .unset, .unset] [(.long ((p1.toInt64) &&& (4294967295 : Int64)))])) _
        refine XS.lstoreN X0.here hx rfl (hb hby d2_6) rfl (l' := #[.val (.int p1), .val (.int p2), .val (.long ((p1.toInt64) &&& (4294967295 : Int64))), .second, .unset, .unset]) rfl ?_
        show Steps p.tables e below (s₁.setTop (mkF m 7 #[.val (.int p1), .val (.int p2), .val (.long ((p1.toInt64) &&& (4294967295 : Int64))), .second, .unset, .unset] [])) _
        refine XS.iloadN X0.here hx rfl (hb hby d2_7) rfl ?_
        show Steps p.tables e below (s₁.setTop (mkF m 8 #[.val (.int p1), .val (.int p2), .val (.long ((p1.toInt64) &&& (4294967295 : Int64))), .second, .unset, .unset] [(.int p2)])) _
        refine XS.i2l X0.here hx rfl (hb hby d2_8) rfl ?_
        show Steps p.tables e below (s₁.setTop (mkF m 9 #[.val (.int p1), .val (.int p2), .val (.long ((p1.toInt64) &&& (4294967295 : Int64))), .second, .unset, .unset] [(.long (p2.toInt64))])) _
        refine X0.ldc2Long hx hown (mvT hZ (hw _ (List.mem_of_getElem? (i := 8) rfl))) (g := (mkF m 9 #[.val (.int p1), .val (.int p2), .val (.long ((p1.toInt64) &&& (4294967295 : Int64))), .second, .unset, .unset] [(.long (p2.toInt64))])) rfl (hb hby d2_9) _ ?_
        show Steps p.tables e below (s₁.setTop (mkF m 12 #[.val (.int p1), .val (.int p2), .val (.long ((p1.toInt64) &&& (4294967295 : Int64))), .second, .unset, .unset] [(.long (4294967295 : Int64)), (.long (p2.toInt64))])) _
        refine XS.land X0.here hx rfl (hb hby d2_12) rfl ?_
        show Steps p.tables e below (s₁.setTop (mkF m 13 #[.val (.int p1), .val (.int p2), .val (.long ((p1.toInt64) &&& (4294967295 : Int64))), .second, .unset, .unset] [(.long ((p2.toInt64) &&& (4294967295 : Int64)))])) _
        refine XS.lstore X0.here hx rfl (hb hby d2_13) rfl (l' := #[.val (.int p1), .val (.int p2), .val (.long ((p1.toInt64) &&& (4294967295 : Int64))), .second, .val (.long ((p2.toInt64) &&& (4294967295 : Int64))), .second]) rfl ?_
        show Steps p.tables e below (s₁.setTop (mkF m 15 #[.val (.int p1), .val (.int p2), .val (.long ((p1.toInt64) &&& (4294967295 : Int64))), .second, .val (.long ((p2.toInt64) &&& (4294967295 : Int64))), .second] [])) _
        refine XS.lloadN X0.here hx rfl (hb hby d2_15) rfl ?_
        show Steps p.tables e below (s₁.setTop (mkF m 16 #[.val (.int p1), .val (.int p2), .val (.long ((p1.toInt64) &&& (4294967295 : Int64))), .second, .val (.long ((p2.toInt64) &&& (4294967295 : Int64))), .second] [(.long ((p1.toInt64) &&& (4294967295 : Int64)))])) _
        refine X0.ldc2Long hx hown (mvT hZ (hw _ (List.mem_of_getElem? (i := 9) rfl))) (g := (mkF m 16 #[.val (.int p1), .val (.int p2), .val (.long ((p1.toInt64) &&& (4294967295 : Int64))), .second, .val (.long ((p2.toInt64) &&& (4294967295 : Int64))), .second] [(.long ((p1.toInt64) &&& (4294967295 : Int64)))])) rfl (hb hby d2_16) _ ?_
        show Steps p.tables e below (s₁.setTop (mkF m 19 #[.val (.int p1), .val (.int p2), .val (.long ((p1.toInt64) &&& (4294967295 : Int64))), .second, .val (.long ((p2.toInt64) &&& (4294967295 : Int64))), .second] [(.long (24 : Int64)), (.long ((p1.toInt64) &&& (4294967295 : Int64)))])) _
        refine XS.lcmp X0.here hx rfl (hb hby d2_19) rfl ?_
        show Steps p.tables e below (s₁.setTop (mkF m 20 #[.val (.int p1), .val (.int p2), .val (.long ((p1.toInt64) &&& (4294967295 : Int64))), .second, .val (.long ((p2.toInt64) &&& (4294967295 : Int64))), .second] [(.int (lcmpW ((p1.toInt64) &&& (4294967295 : Int64)) (24 : Int64)))])) _
        refine XS.ifNo X0.here hx rfl (hb hby d2_20) rfl ((if0 _ _).trans (tlt hc20).2.1) ?_
        show Steps p.tables e below (s₁.setTop (mkF m 23 #[.val (.int p1), .val (.int p2), .val (.long ((p1.toInt64) &&& (4294967295 : Int64))), .second, .val (.long ((p2.toInt64) &&& (4294967295 : Int64))), .second] [])) _
        refine XS.lload X0.here hx rfl (hb hby d2_23) rfl ?_
        show Steps p.tables e below (s₁.setTop (mkF m 25 #[.val (.int p1), .val (.int p2), .val (.long ((p1.toInt64) &&& (4294967295 : Int64))), .second, .val (.long ((p2.toInt64) &&& (4294967295 : Int64))), .second] [(.long ((p2.toInt64) &&& (4294967295 : Int64)))])) _
        refine X0.ldc2Long hx hown (mvT hZ (hw _ (List.mem_of_getElem? (i := 10) rfl))) (g := (mkF m 25 #[.val (.int p1), .val (.int p2), .val (.long ((p1.toInt64) &&& (4294967295 : Int64))), .second, .val (.long ((p2.toInt64) &&& (4294967295 : Int64))), .second] [(.long ((p2.toInt64) &&& (4294967295 : Int64)))])) rfl (hb hby d2_25) _ ?_
        show Steps p.tables e below (s₁.setTop (mkF m 28 #[.val (.int p1), .val (.int p2), .val (.long ((p1.toInt64) &&& (4294967295 : Int64))), .second, .val (.long ((p2.toInt64) &&& (4294967295 : Int64))), .second] [(.long (60 : Int64)), (.long ((p2.toInt64) &&& (4294967295 : Int64)))])) _
        refine XS.lcmp X0.here hx rfl (hb hby d2_28) rfl ?_
        show Steps p.tables e below (s₁.setTop (mkF m 29 #[.val (.int p1), .val (.int p2), .val (.long ((p1.toInt64) &&& (4294967295 : Int64))), .second, .val (.long ((p2.toInt64) &&& (4294967295 : Int64))), .second] [(.int (lcmpW ((p2.toInt64) &&& (4294967295 : Int64)) (60 : Int64)))])) _
        refine XS.ifYes X0.here hx rfl (pc0 := 29) (pc' := 36) rfl (hb hby d2_29) rfl ((if0 _ _).trans (flt hc29).2.1) (by decide) (by decide) ?_
        show Steps p.tables e below (s₁.setTop (mkF m 36 #[.val (.int p1), .val (.int p2), .val (.long ((p1.toInt64) &&& (4294967295 : Int64))), .second, .val (.long ((p2.toInt64) &&& (4294967295 : Int64))), .second] [])) _
        refine XS.iconst X0.here hx rfl (hb hby d2_36) ?_
        show Steps p.tables e below (s₁.setTop (mkF m 37 #[.val (.int p1), .val (.int p2), .val (.long ((p1.toInt64) &&& (4294967295 : Int64))), .second, .val (.long ((p2.toInt64) &&& (4294967295 : Int64))), .second] [(.int (0 : Int32))])) _
        exact retN X0 hx (t := .boolean) Bd.returns (by simp) (hb hby d2_37) hr
      · show Q2 Z p1 p2 h0 n0 _ s₁.heap _
        rw [e0]
        exact ⟨(by simp [own_f2, hc20, hc29]), N0, rfl⟩
  · obtain ⟨fs, hr, hrun, hended, hW, hsame⟩ := X0.leave (v := some (.int (0 : Int32))) (fun h => by rw [Bd.returns] at h; cases h)
    refine ⟨_, _, pre0 _ ?_, hrun, hended, _, _, rfl, ?_, ⟨_, rfl⟩, hW, hsame.mono (by decide) (by decide)⟩
    · show Steps p.tables e below (s₁.setTop (mkF m 0 #[.val (.int p1), .val (.int p2), .unset, .unset, .unset, .unset] [])) _
      refine XS.iloadN X0.here hx rfl (hb hby d2_0) rfl ?_
      show Steps p.tables e below (s₁.setTop (mkF m 1 #[.val (.int p1), .val (.int p2), .unset, .unset, .unset, .unset] [(.int p1)])) _
      refine XS.i2l X0.here hx rfl (hb hby d2_1) rfl ?_
      show Steps p.tables e below (s₁.setTop (mkF m 2 #[.val (.int p1), .val (.int p2), .unset, .unset, .unset, .unset] [(.long (p1.toInt64))])) _
      refine X0.ldc2Long hx hown (mvT hZ (hw _ (List.mem_of_getElem? (i := 8) rfl))) (g := (mkF m 2 #[.val (.int p1), .val (.int p2), .unset, .unset, .unset, .unset] [(.long (p1.toInt64))])) rfl (hb hby d2_2) _ ?_
      show Steps p.tables e below (s₁.setTop (mkF m 5 #[.val (.int p1), .val (.int p2), .unset, .unset, .unset, .unset] [(.long (4294967295 : Int64)), (.long (p1.toInt64))])) _
      refine XS.land X0.here hx rfl (hb hby d2_5) rfl ?_
      show Steps p.tables e below (s₁.setTop (mkF m 6 #[.val (.int p1), .val (.int p2), .unset, .unset, .unset, .unset] [(.long ((p1.toInt64) &&& (4294967295 : Int64)))])) _
      refine XS.lstoreN X0.here hx rfl (hb hby d2_6) rfl (l' := #[.val (.int p1), .val (.int p2), .val (.long ((p1.toInt64) &&& (4294967295 : Int64))), .second, .unset, .unset]) rfl ?_
      show Steps p.tables e below (s₁.setTop (mkF m 7 #[.val (.int p1), .val (.int p2), .val (.long ((p1.toInt64) &&& (4294967295 : Int64))), .second, .unset, .unset] [])) _
      refine XS.iloadN X0.here hx rfl (hb hby d2_7) rfl ?_
      show Steps p.tables e below (s₁.setTop (mkF m 8 #[.val (.int p1), .val (.int p2), .val (.long ((p1.toInt64) &&& (4294967295 : Int64))), .second, .unset, .unset] [(.int p2)])) _
      refine XS.i2l X0.here hx rfl (hb hby d2_8) rfl ?_
      show Steps p.tables e below (s₁.setTop (mkF m 9 #[.val (.int p1), .val (.int p2), .val (.long ((p1.toInt64) &&& (4294967295 : Int64))), .second, .unset, .unset] [(.long (p2.toInt64))])) _
      refine X0.ldc2Long hx hown (mvT hZ (hw _ (List.mem_of_getElem? (i := 8) rfl))) (g := (mkF m 9 #[.val (.int p1), .val (.int p2), .val (.long ((p1.toInt64) &&& (4294967295 : Int64))), .second, .unset, .unset] [(.long (p2.toInt64))])) rfl (hb hby d2_9) _ ?_
      show Steps p.tables e below (s₁.setTop (mkF m 12 #[.val (.int p1), .val (.int p2), .val (.long ((p1.toInt64) &&& (4294967295 : Int64))), .second, .unset, .unset] [(.long (4294967295 : Int64)), (.long (p2.toInt64))])) _
      refine XS.land X0.here hx rfl (hb hby d2_12) rfl ?_
      show Steps p.tables e below (s₁.setTop (mkF m 13 #[.val (.int p1), .val (.int p2), .val (.long ((p1.toInt64) &&& (4294967295 : Int64))), .second, .unset, .unset] [(.long ((p2.toInt64) &&& (4294967295 : Int64)))])) _
      refine XS.lstore X0.here hx rfl (hb hby d2_13) rfl (l' := #[.val (.int p1), .val (.int p2), .val (.long ((p1.toInt64) &&& (4294967295 : Int64))), .second, .val (.long ((p2.toInt64) &&& (4294967295 : Int64))), .second]) rfl ?_
      show Steps p.tables e below (s₁.setTop (mkF m 15 #[.val (.int p1), .val (.int p2), .val (.long ((p1.toInt64) &&& (4294967295 : Int64))), .second, .val (.long ((p2.toInt64) &&& (4294967295 : Int64))), .second] [])) _
      refine XS.lloadN X0.here hx rfl (hb hby d2_15) rfl ?_
      show Steps p.tables e below (s₁.setTop (mkF m 16 #[.val (.int p1), .val (.int p2), .val (.long ((p1.toInt64) &&& (4294967295 : Int64))), .second, .val (.long ((p2.toInt64) &&& (4294967295 : Int64))), .second] [(.long ((p1.toInt64) &&& (4294967295 : Int64)))])) _
      refine X0.ldc2Long hx hown (mvT hZ (hw _ (List.mem_of_getElem? (i := 9) rfl))) (g := (mkF m 16 #[.val (.int p1), .val (.int p2), .val (.long ((p1.toInt64) &&& (4294967295 : Int64))), .second, .val (.long ((p2.toInt64) &&& (4294967295 : Int64))), .second] [(.long ((p1.toInt64) &&& (4294967295 : Int64)))])) rfl (hb hby d2_16) _ ?_
      show Steps p.tables e below (s₁.setTop (mkF m 19 #[.val (.int p1), .val (.int p2), .val (.long ((p1.toInt64) &&& (4294967295 : Int64))), .second, .val (.long ((p2.toInt64) &&& (4294967295 : Int64))), .second] [(.long (24 : Int64)), (.long ((p1.toInt64) &&& (4294967295 : Int64)))])) _
      refine XS.lcmp X0.here hx rfl (hb hby d2_19) rfl ?_
      show Steps p.tables e below (s₁.setTop (mkF m 20 #[.val (.int p1), .val (.int p2), .val (.long ((p1.toInt64) &&& (4294967295 : Int64))), .second, .val (.long ((p2.toInt64) &&& (4294967295 : Int64))), .second] [(.int (lcmpW ((p1.toInt64) &&& (4294967295 : Int64)) (24 : Int64)))])) _
      refine XS.ifYes X0.here hx rfl (pc0 := 20) (pc' := 36) rfl (hb hby d2_20) rfl ((if0 _ _).trans (flt hc20).2.1) (by decide) (by decide) ?_
      show Steps p.tables e below (s₁.setTop (mkF m 36 #[.val (.int p1), .val (.int p2), .val (.long ((p1.toInt64) &&& (4294967295 : Int64))), .second, .val (.long ((p2.toInt64) &&& (4294967295 : Int64))), .second] [])) _
      refine XS.iconst X0.here hx rfl (hb hby d2_36) ?_
      show Steps p.tables e below (s₁.setTop (mkF m 37 #[.val (.int p1), .val (.int p2), .val (.long ((p1.toInt64) &&& (4294967295 : Int64))), .second, .val (.long ((p2.toInt64) &&& (4294967295 : Int64))), .second] [(.int (0 : Int32))])) _
      exact retN X0 hx (t := .boolean) Bd.returns (by simp) (hb hby d2_37) hr
    · show Q2 Z p1 p2 h0 n0 _ s₁.heap _
      rw [e0]
      exact ⟨(by simp [own_f2, hc20]), N0, rfl⟩
theorem pn_0 : plainName "viewsmith/samples/TimeOfDayExistsPinLaw" = true := by first | (simp [plainName, overriddenIn]; done) | decide +kernel
theorem pd_0_0 : parseMethodDescriptor "(II)Z" = some ⟨[.int, .int], some .boolean⟩ := by decide +kernel
theorem ef_0 (m : MethodId) (x0 : Int32) (x1 : Int32) (x2 : Int32) : entryFrame m #[(.int x0), (.int x1), (.int x2)] maxLocals = mkF m 0 #[.val (.int x0), .val (.int x1), .val (.int x2), .unset, .unset] [] := by first | (simp [entryFrame, mkF, argsToLocals, Value.category, maxLocals]; done) | rfl
def Q0 (Z : State) (p1 : Int32) (p2 : Int32) (p3 : Int32) (h0 : Heap) (n0 : Nat) (v : Option Value) (h : Heap) (L : List Loc) : Prop := v = some (.int (1 : Int32)) ∧ Fr n0 L
set_option maxRecDepth 65536 in
set_option maxHeartbeats 40000000 in
theorem rm0 (l : Launch) (Z : State) (a0 : Array Value) (hw : ∀ d ∈ tables_1, d.before a0 Z = true) (ws : List Jvm.Cond) (p1 : Int32) (p2 : Int32) (p3 : Int32) (h0 : Heap) (n0 : Nat) (Z0 : n0 ≤ h0.size) :
    MetFree l x (head1 (Jvm.Cond.code x code maxLocals ret :: ws) room_1) (fun a U => a = #[(.int p1), (.int p2), (.int p3)] ∧ Z.Warmed39 U.vm ∧ U.heap = h0) (fun _ _ _ _ _ => True) (fun _ U o U' => ∃ v L, o = .returned v ∧ Q0 Z p1 p2 p3 h0 n0 v U'.heap L ∧ FrameEnd U o U' L room_1.cells room_1.slots) := by
  refine MetFree.of_bodySF (plainFor_of_name pn_0) hisR ?_
  intro p e s m args below meth c s₁ Bd hml0 hP hK
  obtain ⟨rfl, hZ, hh⟩ := hP
  have hx := Bd.exec
  have hby := Bd.bytes
  have hml : c.maxLocals = 5 := hml0
  have hown : s.vm.findClass "viewsmith/samples/TimeOfDayExistsPinLaw" = some m.cls := findClass_of_methodNamed Bd.named
  have hnm := (name_of_methodNamed Bd.named Bd.method).1
  have X0 : Stand p l e room_1 s m #[(.int p1), (.int p2), (.int p3)] below meth c s₁ [] 0 0 := Stand.of_body Bd
  have e0 : s₁.heap = h0 := by rw [← hh, Bd.state]; rfl
  have N0 := Fr.nil n0
  have pre0 : ∀ t, Steps p.tables e below (s₁.setTop (mkF m 0 #[.val (.int p1), .val (.int p2), .val (.int p3), .unset, .unset] [])) t → Steps p.tables e below (s₁.setTop (entryFrame m #[(.int p1), (.int p2), (.int p3)] maxLocals)) t := fun t k => castTop (ef_0 m p1 p2 p3) k
  by_cases hc8 : (p3 &&& (1 : Int32)) = (0 : Int32)
  · by_cases hc21 : (p3 &&& (2 : Int32)) = (0 : Int32)
    · obtain ⟨_, _, ⟨T4, L4, k4, n4⟩, -, X4, ⟨Lc4, hQ4, l4, y4, z4⟩, st4⟩ := Jvm.LawKit.callS X0 hx (y := (⟨"viewsmith/samples/TimeOfDay", "exists", "(II)Z"⟩ : MethodName)) hown (mvT hZ (hw _ (List.mem_of_getElem? (i := 0) rfl))) (mvT hZ (hw _ (List.mem_of_getElem? (i := 1) rfl))) (mvT hZ (hw _ (List.mem_of_getElem? (i := 2) rfl))) (mvT hZ (hw _ (List.mem_of_getElem? (i := 3) rfl))) (by decide) (backOf (W := 0) (rm1 l Z a0 hw [] p1 p2 h0 n0 Z0) hZ (hw _ (List.mem_of_getElem? (i := 3) rfl)) (hw _ (List.mem_of_getElem? (i := 2) rfl)) (by decide) (by decide)) (g := (mkF m 35 #[.val (.int p1), .val (.int p2), .val (.int p3), .val (.int p1), .val (.int p2)] [(.int p2), (.int p1)])) rfl (by rw [hml]; rfl) (argsL := [(.int p1), (.int p2)]) (rest := []) (lenOf pd_0_0 rfl) rfl (by show 2 * 0 + _ ≤ _; exact Nat.le_of_eq rfl) (hb hby at_35) (fun _ _ => ⟨rfl, e0, (by decide : 0 + 0 ≤ _), (by decide : 0 + 0 ≤ _)⟩)
      dsimp only [Pt.U, Pt.locs, Pt.cells, Pt.slots] at X4 l4 y4 z4 st4 hQ4
      subst l4 y4 z4
      obtain ⟨rfl, N4q, q4'⟩ := hQ4
      have q4 : T4.heap = h0 := q4'
      have N4 := Fr.app N0 N4q
      obtain ⟨_, _, ⟨T5, L5, k5, n5⟩, -, X5, ⟨Lc5, hQ5, l5, y5, z5⟩, st5⟩ := Jvm.LawKit.callS X4 hx (y := (⟨"viewsmith/samples/TimeOfDayExistsPinLaw", "reference", "(II)Z"⟩ : MethodName)) hown (mvT hZ (hw _ (List.mem_of_getElem? (i := 4) rfl))) (mvT hZ (hw _ (List.mem_of_getElem? (i := 5) rfl))) (mvT hZ (hw _ (List.mem_of_getElem? (i := 6) rfl))) (mvT hZ (hw _ (List.mem_of_getElem? (i := 7) rfl))) (by decide) (backOf (W := 1) (rm2 l Z a0 hw [] p1 p2 T4.heap n0 (by rw [q4]; exact Z0)) hZ (hw _ (List.mem_of_getElem? (i := 7) rfl)) (hw _ (List.mem_of_getElem? (i := 6) rfl)) (by decide) (by decide)) (g := (mkF m 41 #[.val (.int p1), .val (.int p2), .val (.int p3), .val (.int p1), .val (.int p2)] [(.int p2), (.int p1), (.int (own_f1 p1 p2))])) rfl (by rw [hml]; rfl) (argsL := [(.int p1), (.int p2)]) (rest := [(.int (own_f1 p1 p2))]) (lenOf pd_0_0 rfl) rfl (by show 2 * 0 + _ ≤ _; exact Nat.le_of_eq rfl) (hb hby at_41) (fun _ _ => ⟨rfl, rfl, (by decide : 0 + 0 ≤ _), (by decide : 0 + 0 ≤ _)⟩)
      dsimp only [Pt.U, Pt.locs, Pt.cells, Pt.slots] at X5 l5 y5 z5 st5 hQ5
      subst l5 y5 z5
      obtain ⟨rfl, N5q, q5'⟩ := hQ5
      have q5 : T5.heap = h0 := q5'.trans q4
      have N5 := Fr.app N4 N5q
      obtain ⟨fs, hr, hrun, hended, hW, hsame⟩ := X5.leave (v := some (.int (1 : Int32))) (fun h => by rw [Bd.returns] at h; cases h)
      refine ⟨_, _, pre0 _ ?_, hrun, hended, _, _, rfl, ?_, ⟨_, rfl⟩, hW, hsame.mono (by decide) (by decide)⟩
      · show Steps p.tables e below (s₁.setTop (mkF m 0 #[.val (.int p1), .val (.int p2), .val (.int p3), .unset, .unset] [])) _
        refine XS.iloadN X0.here hx rfl (hb hby at_0) rfl ?_
        show Steps p.tables e below (s₁.setTop (mkF m 1 #[.val (.int p1), .val (.int p2), .val (.int p3), .unset, .unset] [(.int p1)])) _
        refine XS.istoreN X0.here hx rfl (hb hby at_1) rfl (l' := #[.val (.int p1), .val (.int p2), .val (.int p3), .val (.int p1), .unset]) rfl ?_
        show Steps p.tables e below (s₁.setTop (mkF m 2 #[.val (.int p1), .val (.int p2), .val (.int p3), .val (.int p1), .unset] [])) _
        refine XS.iloadN X0.here hx rfl (hb hby at_2) rfl ?_
        show Steps p.tables e below (s₁.setTop (mkF m 3 #[.val (.int p1), .val (.int p2), .val (.int p3), .val (.int p1), .unset] [(.int p2)])) _
        refine XS.istore X0.here hx rfl (hb hby at_3) rfl (l' := #[.val (.int p1), .val (.int p2), .val (.int p3), .val (.int p1), .val (.int p2)]) rfl ?_
        show Steps p.tables e below (s₁.setTop (mkF m 5 #[.val (.int p1), .val (.int p2), .val (.int p3), .val (.int p1), .val (.int p2)] [])) _
        refine XS.iloadN X0.here hx rfl (hb hby at_5) rfl ?_
        show Steps p.tables e below (s₁.setTop (mkF m 6 #[.val (.int p1), .val (.int p2), .val (.int p3), .val (.int p1), .val (.int p2)] [(.int p3)])) _
        refine XS.iconst X0.here hx rfl (hb hby at_6) ?_
        show Steps p.tables e below (s₁.setTop (mkF m 7 #[.val (.int p1), .val (.int p2), .val (.int p3), .val (.int p1), .val (.int p2)] [(.int (1 : Int32)), (.int p3)])) _
        refine XS.iand X0.here hx rfl (hb hby at_7) rfl ?_
        show Steps p.tables e below (s₁.setTop (mkF m 8 #[.val (.int p1), .val (.int p2), .val (.int p3), .val (.int p1), .val (.int p2)] [(.int (p3 &&& (1 : Int32)))])) _
        refine XS.ifYes X0.here hx rfl (pc0 := 8) (pc' := 18) rfl (hb hby at_8) rfl ((if0 _ _).trans (teq hc8).1) (by decide) (by decide) ?_
        show Steps p.tables e below (s₁.setTop (mkF m 18 #[.val (.int p1), .val (.int p2), .val (.int p3), .val (.int p1), .val (.int p2)] [])) _
        refine XS.iloadN X0.here hx rfl (hb hby at_18) rfl ?_
        show Steps p.tables e below (s₁.setTop (mkF m 19 #[.val (.int p1), .val (.int p2), .val (.int p3), .val (.int p1), .val (.int p2)] [(.int p3)])) _
        refine XS.iconst X0.here hx rfl (hb hby at_19) ?_
        show Steps p.tables e below (s₁.setTop (mkF m 20 #[.val (.int p1), .val (.int p2), .val (.int p3), .val (.int p1), .val (.int p2)] [(.int (2 : Int32)), (.int p3)])) _
        refine XS.iand X0.here hx rfl (hb hby at_20) rfl ?_
        show Steps p.tables e below (s₁.setTop (mkF m 21 #[.val (.int p1), .val (.int p2), .val (.int p3), .val (.int p1), .val (.int p2)] [(.int (p3 &&& (2 : Int32)))])) _
        refine XS.ifYes X0.here hx rfl (pc0 := 21) (pc' := 32) rfl (hb hby at_21) rfl ((if0 _ _).trans (teq hc21).1) (by decide) (by decide) ?_
        show Steps p.tables e below (s₁.setTop (mkF m 32 #[.val (.int p1), .val (.int p2), .val (.int p3), .val (.int p1), .val (.int p2)] [])) _
        refine XS.iloadN X0.here hx rfl (hb hby at_32) rfl ?_
        show Steps p.tables e below (s₁.setTop (mkF m 33 #[.val (.int p1), .val (.int p2), .val (.int p3), .val (.int p1), .val (.int p2)] [(.int p1)])) _
        refine XS.iload X0.here hx rfl (hb hby at_33) rfl ?_
        show Steps p.tables e below (s₁.setTop (mkF m 35 #[.val (.int p1), .val (.int p2), .val (.int p3), .val (.int p1), .val (.int p2)] [(.int p2), (.int p1)])) _
        refine st4 _ ?_
        show Steps p.tables e below (T4.setTop (mkF m 38 #[.val (.int p1), .val (.int p2), .val (.int p3), .val (.int p1), .val (.int p2)] [(.int (own_f1 p1 p2))])) _
        refine XS.iloadN X4.here hx rfl (hb hby at_38) rfl ?_
        show Steps p.tables e below (T4.setTop (mkF m 39 #[.val (.int p1), .val (.int p2), .val (.int p3), .val (.int p1), .val (.int p2)] [(.int p1), (.int (own_f1 p1 p2))])) _
        refine XS.iload X4.here hx rfl (hb hby at_39) rfl ?_
        show Steps p.tables e below (T4.setTop (mkF m 41 #[.val (.int p1), .val (.int p2), .val (.int p3), .val (.int p1), .val (.int p2)] [(.int p2), (.int p1), (.int (own_f1 p1 p2))])) _
        refine st5 _ ?_
        show Steps p.tables e below (T5.setTop (mkF m 44 #[.val (.int p1), .val (.int p2), .val (.int p3), .val (.int p1), .val (.int p2)] [(.int (own_f2 p1 p2)), (.int (own_f1 p1 p2))])) _
        refine XS.icmpNo X5.here hx rfl (hb hby at_44) rfl (teq (own_eq _ _ : (own_f1 p1 p2) = (own_f2 p1 p2))).2 ?_
        show Steps p.tables e below (T5.setTop (mkF m 47 #[.val (.int p1), .val (.int p2), .val (.int p3), .val (.int p1), .val (.int p2)] [])) _
        refine XS.iconst X5.here hx rfl (hb hby at_47) ?_
        show Steps p.tables e below (T5.setTop (mkF m 48 #[.val (.int p1), .val (.int p2), .val (.int p3), .val (.int p1), .val (.int p2)] [(.int (1 : Int32))])) _
        refine XS.goto X5.here hx rfl (pc0 := 48) (pc' := 52) rfl (hb hby at_48) (by decide) (by decide) ?_
        show Steps p.tables e below (T5.setTop (mkF m 52 #[.val (.int p1), .val (.int p2), .val (.int p3), .val (.int p1), .val (.int p2)] [(.int (1 : Int32))])) _
        exact retN X5 hx (t := .boolean) Bd.returns (by simp) (hb hby at_52) hr
      · show Q0 Z p1 p2 p3 h0 n0 _ T5.heap _
        exact ⟨rfl, N5⟩
    · obtain ⟨r27, hr27⟩ : ∃ z : Int32, z = (p2 % (64 : Int32)) := ⟨_, rfl⟩
      obtain ⟨_, _, ⟨T4, L4, k4, n4⟩, -, X4, ⟨Lc4, hQ4, l4, y4, z4⟩, st4⟩ := Jvm.LawKit.callS X0 hx (y := (⟨"viewsmith/samples/TimeOfDay", "exists", "(II)Z"⟩ : MethodName)) hown (mvT hZ (hw _ (List.mem_of_getElem? (i := 0) rfl))) (mvT hZ (hw _ (List.mem_of_getElem? (i := 1) rfl))) (mvT hZ (hw _ (List.mem_of_getElem? (i := 2) rfl))) (mvT hZ (hw _ (List.mem_of_getElem? (i := 3) rfl))) (by decide) (backOf (W := 0) (rm1 l Z a0 hw [] p1 (r27 - (2 : Int32)) h0 n0 Z0) hZ (hw _ (List.mem_of_getElem? (i := 3) rfl)) (hw _ (List.mem_of_getElem? (i := 2) rfl)) (by decide) (by decide)) (g := (mkF m 35 #[.val (.int p1), .val (.int p2), .val (.int p3), .val (.int p1), .val (.int (r27 - (2 : Int32)))] [(.int (r27 - (2 : Int32))), (.int p1)])) rfl (by rw [hml]; rfl) (argsL := [(.int p1), (.int (r27 - (2 : Int32)))]) (rest := []) (lenOf pd_0_0 rfl) rfl (by show 2 * 0 + _ ≤ _; exact Nat.le_of_eq rfl) (hb hby at_35) (fun _ _ => ⟨rfl, e0, (by decide : 0 + 0 ≤ _), (by decide : 0 + 0 ≤ _)⟩)
      dsimp only [Pt.U, Pt.locs, Pt.cells, Pt.slots] at X4 l4 y4 z4 st4 hQ4
      subst l4 y4 z4
      obtain ⟨rfl, N4q, q4'⟩ := hQ4
      have q4 : T4.heap = h0 := q4'
      have N4 := Fr.app N0 N4q
      obtain ⟨_, _, ⟨T5, L5, k5, n5⟩, -, X5, ⟨Lc5, hQ5, l5, y5, z5⟩, st5⟩ := Jvm.LawKit.callS X4 hx (y := (⟨"viewsmith/samples/TimeOfDayExistsPinLaw", "reference", "(II)Z"⟩ : MethodName)) hown (mvT hZ (hw _ (List.mem_of_getElem? (i := 4) rfl))) (mvT hZ (hw _ (List.mem_of_getElem? (i := 5) rfl))) (mvT hZ (hw _ (List.mem_of_getElem? (i := 6) rfl))) (mvT hZ (hw _ (List.mem_of_getElem? (i := 7) rfl))) (by decide) (backOf (W := 1) (rm2 l Z a0 hw [] p1 (r27 - (2 : Int32)) T4.heap n0 (by rw [q4]; exact Z0)) hZ (hw _ (List.mem_of_getElem? (i := 7) rfl)) (hw _ (List.mem_of_getElem? (i := 6) rfl)) (by decide) (by decide)) (g := (mkF m 41 #[.val (.int p1), .val (.int p2), .val (.int p3), .val (.int p1), .val (.int (r27 - (2 : Int32)))] [(.int (r27 - (2 : Int32))), (.int p1), (.int (own_f1 p1 (r27 - (2 : Int32))))])) rfl (by rw [hml]; rfl) (argsL := [(.int p1), (.int (r27 - (2 : Int32)))]) (rest := [(.int (own_f1 p1 (r27 - (2 : Int32))))]) (lenOf pd_0_0 rfl) rfl (by show 2 * 0 + _ ≤ _; exact Nat.le_of_eq rfl) (hb hby at_41) (fun _ _ => ⟨rfl, rfl, (by decide : 0 + 0 ≤ _), (by decide : 0 + 0 ≤ _)⟩)
      dsimp only [Pt.U, Pt.locs, Pt.cells, Pt.slots] at X5 l5 y5 z5 st5 hQ5
      subst l5 y5 z5
      obtain ⟨rfl, N5q, q5'⟩ := hQ5
      have q5 : T5.heap = h0 := q5'.trans q4
      have N5 := Fr.app N4 N5q
      obtain ⟨fs, hr, hrun, hended, hW, hsame⟩ := X5.leave (v := some (.int (1 : Int32))) (fun h => by rw [Bd.returns] at h; cases h)
      refine ⟨_, _, pre0 _ ?_, hrun, hended, _, _, rfl, ?_, ⟨_, rfl⟩, hW, hsame.mono (by decide) (by decide)⟩
      · show Steps p.tables e below (s₁.setTop (mkF m 0 #[.val (.int p1), .val (.int p2), .val (.int p3), .unset, .unset] [])) _
        refine XS.iloadN X0.here hx rfl (hb hby at_0) rfl ?_
        show Steps p.tables e below (s₁.setTop (mkF m 1 #[.val (.int p1), .val (.int p2), .val (.int p3), .unset, .unset] [(.int p1)])) _
        refine XS.istoreN X0.here hx rfl (hb hby at_1) rfl (l' := #[.val (.int p1), .val (.int p2), .val (.int p3), .val (.int p1), .unset]) rfl ?_
        show Steps p.tables e below (s₁.setTop (mkF m 2 #[.val (.int p1), .val (.int p2), .val (.int p3), .val (.int p1), .unset] [])) _
        refine XS.iloadN X0.here hx rfl (hb hby at_2) rfl ?_
        show Steps p.tables e below (s₁.setTop (mkF m 3 #[.val (.int p1), .val (.int p2), .val (.int p3), .val (.int p1), .unset] [(.int p2)])) _
        refine XS.istore X0.here hx rfl (hb hby at_3) rfl (l' := #[.val (.int p1), .val (.int p2), .val (.int p3), .val (.int p1), .val (.int p2)]) rfl ?_
        show Steps p.tables e below (s₁.setTop (mkF m 5 #[.val (.int p1), .val (.int p2), .val (.int p3), .val (.int p1), .val (.int p2)] [])) _
        refine XS.iloadN X0.here hx rfl (hb hby at_5) rfl ?_
        show Steps p.tables e below (s₁.setTop (mkF m 6 #[.val (.int p1), .val (.int p2), .val (.int p3), .val (.int p1), .val (.int p2)] [(.int p3)])) _
        refine XS.iconst X0.here hx rfl (hb hby at_6) ?_
        show Steps p.tables e below (s₁.setTop (mkF m 7 #[.val (.int p1), .val (.int p2), .val (.int p3), .val (.int p1), .val (.int p2)] [(.int (1 : Int32)), (.int p3)])) _
        refine XS.iand X0.here hx rfl (hb hby at_7) rfl ?_
        show Steps p.tables e below (s₁.setTop (mkF m 8 #[.val (.int p1), .val (.int p2), .val (.int p3), .val (.int p1), .val (.int p2)] [(.int (p3 &&& (1 : Int32)))])) _
        refine XS.ifYes X0.here hx rfl (pc0 := 8) (pc' := 18) rfl (hb hby at_8) rfl ((if0 _ _).trans (teq hc8).1) (by decide) (by decide) ?_
        show Steps p.tables e below (s₁.setTop (mkF m 18 #[.val (.int p1), .val (.int p2), .val (.int p3), .val (.int p1), .val (.int p2)] [])) _
        refine XS.iloadN X0.here hx rfl (hb hby at_18) rfl ?_
        show Steps p.tables e below (s₁.setTop (mkF m 19 #[.val (.int p1), .val (.int p2), .val (.int p3), .val (.int p1), .val (.int p2)] [(.int p3)])) _
        refine XS.iconst X0.here hx rfl (hb hby at_19) ?_
        show Steps p.tables e below (s₁.setTop (mkF m 20 #[.val (.int p1), .val (.int p2), .val (.int p3), .val (.int p1), .val (.int p2)] [(.int (2 : Int32)), (.int p3)])) _
        refine XS.iand X0.here hx rfl (hb hby at_20) rfl ?_
        show Steps p.tables e below (s₁.setTop (mkF m 21 #[.val (.int p1), .val (.int p2), .val (.int p3), .val (.int p1), .val (.int p2)] [(.int (p3 &&& (2 : Int32)))])) _
        refine XS.ifNo X0.here hx rfl (hb hby at_21) rfl ((if0 _ _).trans (feq hc21).1) ?_
        show Steps p.tables e below (s₁.setTop (mkF m 24 #[.val (.int p1), .val (.int p2), .val (.int p3), .val (.int p1), .val (.int p2)] [])) _
        refine XS.iloadN X0.here hx rfl (hb hby at_24) rfl ?_
        show Steps p.tables e below (s₁.setTop (mkF m 25 #[.val (.int p1), .val (.int p2), .val (.int p3), .val (.int p1), .val (.int p2)] [(.int p2)])) _
        refine XS.bipush X0.here hx rfl (hb hby at_25) ?_
        show Steps p.tables e below (s₁.setTop (mkF m 27 #[.val (.int p1), .val (.int p2), .val (.int p3), .val (.int p1), .val (.int p2)] [(.int (64 : Int32)), (.int p2)])) _
        refine iremM X0 hx rfl (hb hby at_27) rfl (by decide) ?_
        rw [← hr27]
        show Steps p.tables e below (s₁.setTop (mkF m 28 #[.val (.int p1), .val (.int p2), .val (.int p3), .val (.int p1), .val (.int p2)] [(.int r27)])) _
        refine XS.iconst X0.here hx rfl (hb hby at_28) ?_
        show Steps p.tables e below (s₁.setTop (mkF m 29 #[.val (.int p1), .val (.int p2), .val (.int p3), .val (.int p1), .val (.int p2)] [(.int (2 : Int32)), (.int r27)])) _
        refine XS.isub X0.here hx rfl (hb hby at_29) rfl ?_
        show Steps p.tables e below (s₁.setTop (mkF m 30 #[.val (.int p1), .val (.int p2), .val (.int p3), .val (.int p1), .val (.int p2)] [(.int (r27 - (2 : Int32)))])) _
        refine XS.istore X0.here hx rfl (hb hby at_30) rfl (l' := #[.val (.int p1), .val (.int p2), .val (.int p3), .val (.int p1), .val (.int (r27 - (2 : Int32)))]) rfl ?_
        show Steps p.tables e below (s₁.setTop (mkF m 32 #[.val (.int p1), .val (.int p2), .val (.int p3), .val (.int p1), .val (.int (r27 - (2 : Int32)))] [])) _
        refine XS.iloadN X0.here hx rfl (hb hby at_32) rfl ?_
        show Steps p.tables e below (s₁.setTop (mkF m 33 #[.val (.int p1), .val (.int p2), .val (.int p3), .val (.int p1), .val (.int (r27 - (2 : Int32)))] [(.int p1)])) _
        refine XS.iload X0.here hx rfl (hb hby at_33) rfl ?_
        show Steps p.tables e below (s₁.setTop (mkF m 35 #[.val (.int p1), .val (.int p2), .val (.int p3), .val (.int p1), .val (.int (r27 - (2 : Int32)))] [(.int (r27 - (2 : Int32))), (.int p1)])) _
        refine st4 _ ?_
        show Steps p.tables e below (T4.setTop (mkF m 38 #[.val (.int p1), .val (.int p2), .val (.int p3), .val (.int p1), .val (.int (r27 - (2 : Int32)))] [(.int (own_f1 p1 (r27 - (2 : Int32))))])) _
        refine XS.iloadN X4.here hx rfl (hb hby at_38) rfl ?_
        show Steps p.tables e below (T4.setTop (mkF m 39 #[.val (.int p1), .val (.int p2), .val (.int p3), .val (.int p1), .val (.int (r27 - (2 : Int32)))] [(.int p1), (.int (own_f1 p1 (r27 - (2 : Int32))))])) _
        refine XS.iload X4.here hx rfl (hb hby at_39) rfl ?_
        show Steps p.tables e below (T4.setTop (mkF m 41 #[.val (.int p1), .val (.int p2), .val (.int p3), .val (.int p1), .val (.int (r27 - (2 : Int32)))] [(.int (r27 - (2 : Int32))), (.int p1), (.int (own_f1 p1 (r27 - (2 : Int32))))])) _
        refine st5 _ ?_
        show Steps p.tables e below (T5.setTop (mkF m 44 #[.val (.int p1), .val (.int p2), .val (.int p3), .val (.int p1), .val (.int (r27 - (2 : Int32)))] [(.int (own_f2 p1 (r27 - (2 : Int32)))), (.int (own_f1 p1 (r27 - (2 : Int32))))])) _
        refine XS.icmpNo X5.here hx rfl (hb hby at_44) rfl (teq (own_eq _ _ : (own_f1 p1 (r27 - (2 : Int32))) = (own_f2 p1 (r27 - (2 : Int32))))).2 ?_
        show Steps p.tables e below (T5.setTop (mkF m 47 #[.val (.int p1), .val (.int p2), .val (.int p3), .val (.int p1), .val (.int (r27 - (2 : Int32)))] [])) _
        refine XS.iconst X5.here hx rfl (hb hby at_47) ?_
        show Steps p.tables e below (T5.setTop (mkF m 48 #[.val (.int p1), .val (.int p2), .val (.int p3), .val (.int p1), .val (.int (r27 - (2 : Int32)))] [(.int (1 : Int32))])) _
        refine XS.goto X5.here hx rfl (pc0 := 48) (pc' := 52) rfl (hb hby at_48) (by decide) (by decide) ?_
        show Steps p.tables e below (T5.setTop (mkF m 52 #[.val (.int p1), .val (.int p2), .val (.int p3), .val (.int p1), .val (.int (r27 - (2 : Int32)))] [(.int (1 : Int32))])) _
        exact retN X5 hx (t := .boolean) Bd.returns (by simp) (hb hby at_52) hr
      · show Q0 Z p1 p2 p3 h0 n0 _ T5.heap _
        exact ⟨rfl, N5⟩
  · obtain ⟨r14, hr14⟩ : ∃ z : Int32, z = (p1 % (32 : Int32)) := ⟨_, rfl⟩
    by_cases hc21 : (p3 &&& (2 : Int32)) = (0 : Int32)
    · obtain ⟨_, _, ⟨T4, L4, k4, n4⟩, -, X4, ⟨Lc4, hQ4, l4, y4, z4⟩, st4⟩ := Jvm.LawKit.callS X0 hx (y := (⟨"viewsmith/samples/TimeOfDay", "exists", "(II)Z"⟩ : MethodName)) hown (mvT hZ (hw _ (List.mem_of_getElem? (i := 0) rfl))) (mvT hZ (hw _ (List.mem_of_getElem? (i := 1) rfl))) (mvT hZ (hw _ (List.mem_of_getElem? (i := 2) rfl))) (mvT hZ (hw _ (List.mem_of_getElem? (i := 3) rfl))) (by decide) (backOf (W := 0) (rm1 l Z a0 hw [] (r14 - (4 : Int32)) p2 h0 n0 Z0) hZ (hw _ (List.mem_of_getElem? (i := 3) rfl)) (hw _ (List.mem_of_getElem? (i := 2) rfl)) (by decide) (by decide)) (g := (mkF m 35 #[.val (.int p1), .val (.int p2), .val (.int p3), .val (.int (r14 - (4 : Int32))), .val (.int p2)] [(.int p2), (.int (r14 - (4 : Int32)))])) rfl (by rw [hml]; rfl) (argsL := [(.int (r14 - (4 : Int32))), (.int p2)]) (rest := []) (lenOf pd_0_0 rfl) rfl (by show 2 * 0 + _ ≤ _; exact Nat.le_of_eq rfl) (hb hby at_35) (fun _ _ => ⟨rfl, e0, (by decide : 0 + 0 ≤ _), (by decide : 0 + 0 ≤ _)⟩)
      dsimp only [Pt.U, Pt.locs, Pt.cells, Pt.slots] at X4 l4 y4 z4 st4 hQ4
      subst l4 y4 z4
      obtain ⟨rfl, N4q, q4'⟩ := hQ4
      have q4 : T4.heap = h0 := q4'
      have N4 := Fr.app N0 N4q
      obtain ⟨_, _, ⟨T5, L5, k5, n5⟩, -, X5, ⟨Lc5, hQ5, l5, y5, z5⟩, st5⟩ := Jvm.LawKit.callS X4 hx (y := (⟨"viewsmith/samples/TimeOfDayExistsPinLaw", "reference", "(II)Z"⟩ : MethodName)) hown (mvT hZ (hw _ (List.mem_of_getElem? (i := 4) rfl))) (mvT hZ (hw _ (List.mem_of_getElem? (i := 5) rfl))) (mvT hZ (hw _ (List.mem_of_getElem? (i := 6) rfl))) (mvT hZ (hw _ (List.mem_of_getElem? (i := 7) rfl))) (by decide) (backOf (W := 1) (rm2 l Z a0 hw [] (r14 - (4 : Int32)) p2 T4.heap n0 (by rw [q4]; exact Z0)) hZ (hw _ (List.mem_of_getElem? (i := 7) rfl)) (hw _ (List.mem_of_getElem? (i := 6) rfl)) (by decide) (by decide)) (g := (mkF m 41 #[.val (.int p1), .val (.int p2), .val (.int p3), .val (.int (r14 - (4 : Int32))), .val (.int p2)] [(.int p2), (.int (r14 - (4 : Int32))), (.int (own_f1 (r14 - (4 : Int32)) p2))])) rfl (by rw [hml]; rfl) (argsL := [(.int (r14 - (4 : Int32))), (.int p2)]) (rest := [(.int (own_f1 (r14 - (4 : Int32)) p2))]) (lenOf pd_0_0 rfl) rfl (by show 2 * 0 + _ ≤ _; exact Nat.le_of_eq rfl) (hb hby at_41) (fun _ _ => ⟨rfl, rfl, (by decide : 0 + 0 ≤ _), (by decide : 0 + 0 ≤ _)⟩)
      dsimp only [Pt.U, Pt.locs, Pt.cells, Pt.slots] at X5 l5 y5 z5 st5 hQ5
      subst l5 y5 z5
      obtain ⟨rfl, N5q, q5'⟩ := hQ5
      have q5 : T5.heap = h0 := q5'.trans q4
      have N5 := Fr.app N4 N5q
      obtain ⟨fs, hr, hrun, hended, hW, hsame⟩ := X5.leave (v := some (.int (1 : Int32))) (fun h => by rw [Bd.returns] at h; cases h)
      refine ⟨_, _, pre0 _ ?_, hrun, hended, _, _, rfl, ?_, ⟨_, rfl⟩, hW, hsame.mono (by decide) (by decide)⟩
      · show Steps p.tables e below (s₁.setTop (mkF m 0 #[.val (.int p1), .val (.int p2), .val (.int p3), .unset, .unset] [])) _
        refine XS.iloadN X0.here hx rfl (hb hby at_0) rfl ?_
        show Steps p.tables e below (s₁.setTop (mkF m 1 #[.val (.int p1), .val (.int p2), .val (.int p3), .unset, .unset] [(.int p1)])) _
        refine XS.istoreN X0.here hx rfl (hb hby at_1) rfl (l' := #[.val (.int p1), .val (.int p2), .val (.int p3), .val (.int p1), .unset]) rfl ?_
        show Steps p.tables e below (s₁.setTop (mkF m 2 #[.val (.int p1), .val (.int p2), .val (.int p3), .val (.int p1), .unset] [])) _
        refine XS.iloadN X0.here hx rfl (hb hby at_2) rfl ?_
        show Steps p.tables e below (s₁.setTop (mkF m 3 #[.val (.int p1), .val (.int p2), .val (.int p3), .val (.int p1), .unset] [(.int p2)])) _
        refine XS.istore X0.here hx rfl (hb hby at_3) rfl (l' := #[.val (.int p1), .val (.int p2), .val (.int p3), .val (.int p1), .val (.int p2)]) rfl ?_
        show Steps p.tables e below (s₁.setTop (mkF m 5 #[.val (.int p1), .val (.int p2), .val (.int p3), .val (.int p1), .val (.int p2)] [])) _
        refine XS.iloadN X0.here hx rfl (hb hby at_5) rfl ?_
        show Steps p.tables e below (s₁.setTop (mkF m 6 #[.val (.int p1), .val (.int p2), .val (.int p3), .val (.int p1), .val (.int p2)] [(.int p3)])) _
        refine XS.iconst X0.here hx rfl (hb hby at_6) ?_
        show Steps p.tables e below (s₁.setTop (mkF m 7 #[.val (.int p1), .val (.int p2), .val (.int p3), .val (.int p1), .val (.int p2)] [(.int (1 : Int32)), (.int p3)])) _
        refine XS.iand X0.here hx rfl (hb hby at_7) rfl ?_
        show Steps p.tables e below (s₁.setTop (mkF m 8 #[.val (.int p1), .val (.int p2), .val (.int p3), .val (.int p1), .val (.int p2)] [(.int (p3 &&& (1 : Int32)))])) _
        refine XS.ifNo X0.here hx rfl (hb hby at_8) rfl ((if0 _ _).trans (feq hc8).1) ?_
        show Steps p.tables e below (s₁.setTop (mkF m 11 #[.val (.int p1), .val (.int p2), .val (.int p3), .val (.int p1), .val (.int p2)] [])) _
        refine XS.iloadN X0.here hx rfl (hb hby at_11) rfl ?_
        show Steps p.tables e below (s₁.setTop (mkF m 12 #[.val (.int p1), .val (.int p2), .val (.int p3), .val (.int p1), .val (.int p2)] [(.int p1)])) _
        refine XS.bipush X0.here hx rfl (hb hby at_12) ?_
        show Steps p.tables e below (s₁.setTop (mkF m 14 #[.val (.int p1), .val (.int p2), .val (.int p3), .val (.int p1), .val (.int p2)] [(.int (32 : Int32)), (.int p1)])) _
        refine iremM X0 hx rfl (hb hby at_14) rfl (by decide) ?_
        rw [← hr14]
        show Steps p.tables e below (s₁.setTop (mkF m 15 #[.val (.int p1), .val (.int p2), .val (.int p3), .val (.int p1), .val (.int p2)] [(.int r14)])) _
        refine XS.iconst X0.here hx rfl (hb hby at_15) ?_
        show Steps p.tables e below (s₁.setTop (mkF m 16 #[.val (.int p1), .val (.int p2), .val (.int p3), .val (.int p1), .val (.int p2)] [(.int (4 : Int32)), (.int r14)])) _
        refine XS.isub X0.here hx rfl (hb hby at_16) rfl ?_
        show Steps p.tables e below (s₁.setTop (mkF m 17 #[.val (.int p1), .val (.int p2), .val (.int p3), .val (.int p1), .val (.int p2)] [(.int (r14 - (4 : Int32)))])) _
        refine XS.istoreN X0.here hx rfl (hb hby at_17) rfl (l' := #[.val (.int p1), .val (.int p2), .val (.int p3), .val (.int (r14 - (4 : Int32))), .val (.int p2)]) rfl ?_
        show Steps p.tables e below (s₁.setTop (mkF m 18 #[.val (.int p1), .val (.int p2), .val (.int p3), .val (.int (r14 - (4 : Int32))), .val (.int p2)] [])) _
        refine XS.iloadN X0.here hx rfl (hb hby at_18) rfl ?_
        show Steps p.tables e below (s₁.setTop (mkF m 19 #[.val (.int p1), .val (.int p2), .val (.int p3), .val (.int (r14 - (4 : Int32))), .val (.int p2)] [(.int p3)])) _
        refine XS.iconst X0.here hx rfl (hb hby at_19) ?_
        show Steps p.tables e below (s₁.setTop (mkF m 20 #[.val (.int p1), .val (.int p2), .val (.int p3), .val (.int (r14 - (4 : Int32))), .val (.int p2)] [(.int (2 : Int32)), (.int p3)])) _
        refine XS.iand X0.here hx rfl (hb hby at_20) rfl ?_
        show Steps p.tables e below (s₁.setTop (mkF m 21 #[.val (.int p1), .val (.int p2), .val (.int p3), .val (.int (r14 - (4 : Int32))), .val (.int p2)] [(.int (p3 &&& (2 : Int32)))])) _
        refine XS.ifYes X0.here hx rfl (pc0 := 21) (pc' := 32) rfl (hb hby at_21) rfl ((if0 _ _).trans (teq hc21).1) (by decide) (by decide) ?_
        show Steps p.tables e below (s₁.setTop (mkF m 32 #[.val (.int p1), .val (.int p2), .val (.int p3), .val (.int (r14 - (4 : Int32))), .val (.int p2)] [])) _
        refine XS.iloadN X0.here hx rfl (hb hby at_32) rfl ?_
        show Steps p.tables e below (s₁.setTop (mkF m 33 #[.val (.int p1), .val (.int p2), .val (.int p3), .val (.int (r14 - (4 : Int32))), .val (.int p2)] [(.int (r14 - (4 : Int32)))])) _
        refine XS.iload X0.here hx rfl (hb hby at_33) rfl ?_
        show Steps p.tables e below (s₁.setTop (mkF m 35 #[.val (.int p1), .val (.int p2), .val (.int p3), .val (.int (r14 - (4 : Int32))), .val (.int p2)] [(.int p2), (.int (r14 - (4 : Int32)))])) _
        refine st4 _ ?_
        show Steps p.tables e below (T4.setTop (mkF m 38 #[.val (.int p1), .val (.int p2), .val (.int p3), .val (.int (r14 - (4 : Int32))), .val (.int p2)] [(.int (own_f1 (r14 - (4 : Int32)) p2))])) _
        refine XS.iloadN X4.here hx rfl (hb hby at_38) rfl ?_
        show Steps p.tables e below (T4.setTop (mkF m 39 #[.val (.int p1), .val (.int p2), .val (.int p3), .val (.int (r14 - (4 : Int32))), .val (.int p2)] [(.int (r14 - (4 : Int32))), (.int (own_f1 (r14 - (4 : Int32)) p2))])) _
        refine XS.iload X4.here hx rfl (hb hby at_39) rfl ?_
        show Steps p.tables e below (T4.setTop (mkF m 41 #[.val (.int p1), .val (.int p2), .val (.int p3), .val (.int (r14 - (4 : Int32))), .val (.int p2)] [(.int p2), (.int (r14 - (4 : Int32))), (.int (own_f1 (r14 - (4 : Int32)) p2))])) _
        refine st5 _ ?_
        show Steps p.tables e below (T5.setTop (mkF m 44 #[.val (.int p1), .val (.int p2), .val (.int p3), .val (.int (r14 - (4 : Int32))), .val (.int p2)] [(.int (own_f2 (r14 - (4 : Int32)) p2)), (.int (own_f1 (r14 - (4 : Int32)) p2))])) _
        refine XS.icmpNo X5.here hx rfl (hb hby at_44) rfl (teq (own_eq _ _ : (own_f1 (r14 - (4 : Int32)) p2) = (own_f2 (r14 - (4 : Int32)) p2))).2 ?_
        show Steps p.tables e below (T5.setTop (mkF m 47 #[.val (.int p1), .val (.int p2), .val (.int p3), .val (.int (r14 - (4 : Int32))), .val (.int p2)] [])) _
        refine XS.iconst X5.here hx rfl (hb hby at_47) ?_
        show Steps p.tables e below (T5.setTop (mkF m 48 #[.val (.int p1), .val (.int p2), .val (.int p3), .val (.int (r14 - (4 : Int32))), .val (.int p2)] [(.int (1 : Int32))])) _
        refine XS.goto X5.here hx rfl (pc0 := 48) (pc' := 52) rfl (hb hby at_48) (by decide) (by decide) ?_
        show Steps p.tables e below (T5.setTop (mkF m 52 #[.val (.int p1), .val (.int p2), .val (.int p3), .val (.int (r14 - (4 : Int32))), .val (.int p2)] [(.int (1 : Int32))])) _
        exact retN X5 hx (t := .boolean) Bd.returns (by simp) (hb hby at_52) hr
      · show Q0 Z p1 p2 p3 h0 n0 _ T5.heap _
        exact ⟨rfl, N5⟩
    · obtain ⟨r27, hr27⟩ : ∃ z : Int32, z = (p2 % (64 : Int32)) := ⟨_, rfl⟩
      obtain ⟨_, _, ⟨T4, L4, k4, n4⟩, -, X4, ⟨Lc4, hQ4, l4, y4, z4⟩, st4⟩ := Jvm.LawKit.callS X0 hx (y := (⟨"viewsmith/samples/TimeOfDay", "exists", "(II)Z"⟩ : MethodName)) hown (mvT hZ (hw _ (List.mem_of_getElem? (i := 0) rfl))) (mvT hZ (hw _ (List.mem_of_getElem? (i := 1) rfl))) (mvT hZ (hw _ (List.mem_of_getElem? (i := 2) rfl))) (mvT hZ (hw _ (List.mem_of_getElem? (i := 3) rfl))) (by decide) (backOf (W := 0) (rm1 l Z a0 hw [] (r14 - (4 : Int32)) (r27 - (2 : Int32)) h0 n0 Z0) hZ (hw _ (List.mem_of_getElem? (i := 3) rfl)) (hw _ (List.mem_of_getElem? (i := 2) rfl)) (by decide) (by decide)) (g := (mkF m 35 #[.val (.int p1), .val (.int p2), .val (.int p3), .val (.int (r14 - (4 : Int32))), .val (.int (r27 - (2 : Int32)))] [(.int (r27 - (2 : Int32))), (.int (r14 - (4 : Int32)))])) rfl (by rw [hml]; rfl) (argsL := [(.int (r14 - (4 : Int32))), (.int (r27 - (2 : Int32)))]) (rest := []) (lenOf pd_0_0 rfl) rfl (by show 2 * 0 + _ ≤ _; exact Nat.le_of_eq rfl) (hb hby at_35) (fun _ _ => ⟨rfl, e0, (by decide : 0 + 0 ≤ _), (by decide : 0 + 0 ≤ _)⟩)
      dsimp only [Pt.U, Pt.locs, Pt.cells, Pt.slots] at X4 l4 y4 z4 st4 hQ4
      subst l4 y4 z4
      obtain ⟨rfl, N4q, q4'⟩ := hQ4
      have q4 : T4.heap = h0 := q4'
      have N4 := Fr.app N0 N4q
      obtain ⟨_, _, ⟨T5, L5, k5, n5⟩, -, X5, ⟨Lc5, hQ5, l5, y5, z5⟩, st5⟩ := Jvm.LawKit.callS X4 hx (y := (⟨"viewsmith/samples/TimeOfDayExistsPinLaw", "reference", "(II)Z"⟩ : MethodName)) hown (mvT hZ (hw _ (List.mem_of_getElem? (i := 4) rfl))) (mvT hZ (hw _ (List.mem_of_getElem? (i := 5) rfl))) (mvT hZ (hw _ (List.mem_of_getElem? (i := 6) rfl))) (mvT hZ (hw _ (List.mem_of_getElem? (i := 7) rfl))) (by decide) (backOf (W := 1) (rm2 l Z a0 hw [] (r14 - (4 : Int32)) (r27 - (2 : Int32)) T4.heap n0 (by rw [q4]; exact Z0)) hZ (hw _ (List.mem_of_getElem? (i := 7) rfl)) (hw _ (List.mem_of_getElem? (i := 6) rfl)) (by decide) (by decide)) (g := (mkF m 41 #[.val (.int p1), .val (.int p2), .val (.int p3), .val (.int (r14 - (4 : Int32))), .val (.int (r27 - (2 : Int32)))] [(.int (r27 - (2 : Int32))), (.int (r14 - (4 : Int32))), (.int (own_f1 (r14 - (4 : Int32)) (r27 - (2 : Int32))))])) rfl (by rw [hml]; rfl) (argsL := [(.int (r14 - (4 : Int32))), (.int (r27 - (2 : Int32)))]) (rest := [(.int (own_f1 (r14 - (4 : Int32)) (r27 - (2 : Int32))))]) (lenOf pd_0_0 rfl) rfl (by show 2 * 0 + _ ≤ _; exact Nat.le_of_eq rfl) (hb hby at_41) (fun _ _ => ⟨rfl, rfl, (by decide : 0 + 0 ≤ _), (by decide : 0 + 0 ≤ _)⟩)
      dsimp only [Pt.U, Pt.locs, Pt.cells, Pt.slots] at X5 l5 y5 z5 st5 hQ5
      subst l5 y5 z5
      obtain ⟨rfl, N5q, q5'⟩ := hQ5
      have q5 : T5.heap = h0 := q5'.trans q4
      have N5 := Fr.app N4 N5q
      obtain ⟨fs, hr, hrun, hended, hW, hsame⟩ := X5.leave (v := some (.int (1 : Int32))) (fun h => by rw [Bd.returns] at h; cases h)
      refine ⟨_, _, pre0 _ ?_, hrun, hended, _, _, rfl, ?_, ⟨_, rfl⟩, hW, hsame.mono (by decide) (by decide)⟩
      · show Steps p.tables e below (s₁.setTop (mkF m 0 #[.val (.int p1), .val (.int p2), .val (.int p3), .unset, .unset] [])) _
        refine XS.iloadN X0.here hx rfl (hb hby at_0) rfl ?_
        show Steps p.tables e below (s₁.setTop (mkF m 1 #[.val (.int p1), .val (.int p2), .val (.int p3), .unset, .unset] [(.int p1)])) _
        refine XS.istoreN X0.here hx rfl (hb hby at_1) rfl (l' := #[.val (.int p1), .val (.int p2), .val (.int p3), .val (.int p1), .unset]) rfl ?_
        show Steps p.tables e below (s₁.setTop (mkF m 2 #[.val (.int p1), .val (.int p2), .val (.int p3), .val (.int p1), .unset] [])) _
        refine XS.iloadN X0.here hx rfl (hb hby at_2) rfl ?_
        show Steps p.tables e below (s₁.setTop (mkF m 3 #[.val (.int p1), .val (.int p2), .val (.int p3), .val (.int p1), .unset] [(.int p2)])) _
        refine XS.istore X0.here hx rfl (hb hby at_3) rfl (l' := #[.val (.int p1), .val (.int p2), .val (.int p3), .val (.int p1), .val (.int p2)]) rfl ?_
        show Steps p.tables e below (s₁.setTop (mkF m 5 #[.val (.int p1), .val (.int p2), .val (.int p3), .val (.int p1), .val (.int p2)] [])) _
        refine XS.iloadN X0.here hx rfl (hb hby at_5) rfl ?_
        show Steps p.tables e below (s₁.setTop (mkF m 6 #[.val (.int p1), .val (.int p2), .val (.int p3), .val (.int p1), .val (.int p2)] [(.int p3)])) _
        refine XS.iconst X0.here hx rfl (hb hby at_6) ?_
        show Steps p.tables e below (s₁.setTop (mkF m 7 #[.val (.int p1), .val (.int p2), .val (.int p3), .val (.int p1), .val (.int p2)] [(.int (1 : Int32)), (.int p3)])) _
        refine XS.iand X0.here hx rfl (hb hby at_7) rfl ?_
        show Steps p.tables e below (s₁.setTop (mkF m 8 #[.val (.int p1), .val (.int p2), .val (.int p3), .val (.int p1), .val (.int p2)] [(.int (p3 &&& (1 : Int32)))])) _
        refine XS.ifNo X0.here hx rfl (hb hby at_8) rfl ((if0 _ _).trans (feq hc8).1) ?_
        show Steps p.tables e below (s₁.setTop (mkF m 11 #[.val (.int p1), .val (.int p2), .val (.int p3), .val (.int p1), .val (.int p2)] [])) _
        refine XS.iloadN X0.here hx rfl (hb hby at_11) rfl ?_
        show Steps p.tables e below (s₁.setTop (mkF m 12 #[.val (.int p1), .val (.int p2), .val (.int p3), .val (.int p1), .val (.int p2)] [(.int p1)])) _
        refine XS.bipush X0.here hx rfl (hb hby at_12) ?_
        show Steps p.tables e below (s₁.setTop (mkF m 14 #[.val (.int p1), .val (.int p2), .val (.int p3), .val (.int p1), .val (.int p2)] [(.int (32 : Int32)), (.int p1)])) _
        refine iremM X0 hx rfl (hb hby at_14) rfl (by decide) ?_
        rw [← hr14]
        show Steps p.tables e below (s₁.setTop (mkF m 15 #[.val (.int p1), .val (.int p2), .val (.int p3), .val (.int p1), .val (.int p2)] [(.int r14)])) _
        refine XS.iconst X0.here hx rfl (hb hby at_15) ?_
        show Steps p.tables e below (s₁.setTop (mkF m 16 #[.val (.int p1), .val (.int p2), .val (.int p3), .val (.int p1), .val (.int p2)] [(.int (4 : Int32)), (.int r14)])) _
        refine XS.isub X0.here hx rfl (hb hby at_16) rfl ?_
        show Steps p.tables e below (s₁.setTop (mkF m 17 #[.val (.int p1), .val (.int p2), .val (.int p3), .val (.int p1), .val (.int p2)] [(.int (r14 - (4 : Int32)))])) _
        refine XS.istoreN X0.here hx rfl (hb hby at_17) rfl (l' := #[.val (.int p1), .val (.int p2), .val (.int p3), .val (.int (r14 - (4 : Int32))), .val (.int p2)]) rfl ?_
        show Steps p.tables e below (s₁.setTop (mkF m 18 #[.val (.int p1), .val (.int p2), .val (.int p3), .val (.int (r14 - (4 : Int32))), .val (.int p2)] [])) _
        refine XS.iloadN X0.here hx rfl (hb hby at_18) rfl ?_
        show Steps p.tables e below (s₁.setTop (mkF m 19 #[.val (.int p1), .val (.int p2), .val (.int p3), .val (.int (r14 - (4 : Int32))), .val (.int p2)] [(.int p3)])) _
        refine XS.iconst X0.here hx rfl (hb hby at_19) ?_
        show Steps p.tables e below (s₁.setTop (mkF m 20 #[.val (.int p1), .val (.int p2), .val (.int p3), .val (.int (r14 - (4 : Int32))), .val (.int p2)] [(.int (2 : Int32)), (.int p3)])) _
        refine XS.iand X0.here hx rfl (hb hby at_20) rfl ?_
        show Steps p.tables e below (s₁.setTop (mkF m 21 #[.val (.int p1), .val (.int p2), .val (.int p3), .val (.int (r14 - (4 : Int32))), .val (.int p2)] [(.int (p3 &&& (2 : Int32)))])) _
        refine XS.ifNo X0.here hx rfl (hb hby at_21) rfl ((if0 _ _).trans (feq hc21).1) ?_
        show Steps p.tables e below (s₁.setTop (mkF m 24 #[.val (.int p1), .val (.int p2), .val (.int p3), .val (.int (r14 - (4 : Int32))), .val (.int p2)] [])) _
        refine XS.iloadN X0.here hx rfl (hb hby at_24) rfl ?_
        show Steps p.tables e below (s₁.setTop (mkF m 25 #[.val (.int p1), .val (.int p2), .val (.int p3), .val (.int (r14 - (4 : Int32))), .val (.int p2)] [(.int p2)])) _
        refine XS.bipush X0.here hx rfl (hb hby at_25) ?_
        show Steps p.tables e below (s₁.setTop (mkF m 27 #[.val (.int p1), .val (.int p2), .val (.int p3), .val (.int (r14 - (4 : Int32))), .val (.int p2)] [(.int (64 : Int32)), (.int p2)])) _
        refine iremM X0 hx rfl (hb hby at_27) rfl (by decide) ?_
        rw [← hr27]
        show Steps p.tables e below (s₁.setTop (mkF m 28 #[.val (.int p1), .val (.int p2), .val (.int p3), .val (.int (r14 - (4 : Int32))), .val (.int p2)] [(.int r27)])) _
        refine XS.iconst X0.here hx rfl (hb hby at_28) ?_
        show Steps p.tables e below (s₁.setTop (mkF m 29 #[.val (.int p1), .val (.int p2), .val (.int p3), .val (.int (r14 - (4 : Int32))), .val (.int p2)] [(.int (2 : Int32)), (.int r27)])) _
        refine XS.isub X0.here hx rfl (hb hby at_29) rfl ?_
        show Steps p.tables e below (s₁.setTop (mkF m 30 #[.val (.int p1), .val (.int p2), .val (.int p3), .val (.int (r14 - (4 : Int32))), .val (.int p2)] [(.int (r27 - (2 : Int32)))])) _
        refine XS.istore X0.here hx rfl (hb hby at_30) rfl (l' := #[.val (.int p1), .val (.int p2), .val (.int p3), .val (.int (r14 - (4 : Int32))), .val (.int (r27 - (2 : Int32)))]) rfl ?_
        show Steps p.tables e below (s₁.setTop (mkF m 32 #[.val (.int p1), .val (.int p2), .val (.int p3), .val (.int (r14 - (4 : Int32))), .val (.int (r27 - (2 : Int32)))] [])) _
        refine XS.iloadN X0.here hx rfl (hb hby at_32) rfl ?_
        show Steps p.tables e below (s₁.setTop (mkF m 33 #[.val (.int p1), .val (.int p2), .val (.int p3), .val (.int (r14 - (4 : Int32))), .val (.int (r27 - (2 : Int32)))] [(.int (r14 - (4 : Int32)))])) _
        refine XS.iload X0.here hx rfl (hb hby at_33) rfl ?_
        show Steps p.tables e below (s₁.setTop (mkF m 35 #[.val (.int p1), .val (.int p2), .val (.int p3), .val (.int (r14 - (4 : Int32))), .val (.int (r27 - (2 : Int32)))] [(.int (r27 - (2 : Int32))), (.int (r14 - (4 : Int32)))])) _
        refine st4 _ ?_
        show Steps p.tables e below (T4.setTop (mkF m 38 #[.val (.int p1), .val (.int p2), .val (.int p3), .val (.int (r14 - (4 : Int32))), .val (.int (r27 - (2 : Int32)))] [(.int (own_f1 (r14 - (4 : Int32)) (r27 - (2 : Int32))))])) _
        refine XS.iloadN X4.here hx rfl (hb hby at_38) rfl ?_
        show Steps p.tables e below (T4.setTop (mkF m 39 #[.val (.int p1), .val (.int p2), .val (.int p3), .val (.int (r14 - (4 : Int32))), .val (.int (r27 - (2 : Int32)))] [(.int (r14 - (4 : Int32))), (.int (own_f1 (r14 - (4 : Int32)) (r27 - (2 : Int32))))])) _
        refine XS.iload X4.here hx rfl (hb hby at_39) rfl ?_
        show Steps p.tables e below (T4.setTop (mkF m 41 #[.val (.int p1), .val (.int p2), .val (.int p3), .val (.int (r14 - (4 : Int32))), .val (.int (r27 - (2 : Int32)))] [(.int (r27 - (2 : Int32))), (.int (r14 - (4 : Int32))), (.int (own_f1 (r14 - (4 : Int32)) (r27 - (2 : Int32))))])) _
        refine st5 _ ?_
        show Steps p.tables e below (T5.setTop (mkF m 44 #[.val (.int p1), .val (.int p2), .val (.int p3), .val (.int (r14 - (4 : Int32))), .val (.int (r27 - (2 : Int32)))] [(.int (own_f2 (r14 - (4 : Int32)) (r27 - (2 : Int32)))), (.int (own_f1 (r14 - (4 : Int32)) (r27 - (2 : Int32))))])) _
        refine XS.icmpNo X5.here hx rfl (hb hby at_44) rfl (teq (own_eq _ _ : (own_f1 (r14 - (4 : Int32)) (r27 - (2 : Int32))) = (own_f2 (r14 - (4 : Int32)) (r27 - (2 : Int32))))).2 ?_
        show Steps p.tables e below (T5.setTop (mkF m 47 #[.val (.int p1), .val (.int p2), .val (.int p3), .val (.int (r14 - (4 : Int32))), .val (.int (r27 - (2 : Int32)))] [])) _
        refine XS.iconst X5.here hx rfl (hb hby at_47) ?_
        show Steps p.tables e below (T5.setTop (mkF m 48 #[.val (.int p1), .val (.int p2), .val (.int p3), .val (.int (r14 - (4 : Int32))), .val (.int (r27 - (2 : Int32)))] [(.int (1 : Int32))])) _
        refine XS.goto X5.here hx rfl (pc0 := 48) (pc' := 52) rfl (hb hby at_48) (by decide) (by decide) ?_
        show Steps p.tables e below (T5.setTop (mkF m 52 #[.val (.int p1), .val (.int p2), .val (.int p3), .val (.int (r14 - (4 : Int32))), .val (.int (r27 - (2 : Int32)))] [(.int (1 : Int32))])) _
        exact retN X5 hx (t := .boolean) Bd.returns (by simp) (hb hby at_52) hr
      · show Q0 Z p1 p2 p3 h0 n0 _ T5.heap _
        exact ⟨rfl, N5⟩
set_option maxRecDepth 65536 in
set_option maxHeartbeats 40000000 in
theorem comes_1 {Post : Tables → Env → Array Value → State → Outcome → State → Prop} (hpost : ∀ tb e args s v u, (limb_1_1.after args s (.returned v) u = true ∧ limb_1_2.after args s (.returned v) u = true ∧ True) → FrameEnd s (.returned v) u (Jvm.fieldLocs frame_1_writes args s ++ Jvm.arrayLocs frame_1_arrays args s ++ Jvm.staticLocs frame_1_statics s) 0 0 → Post tb e args s (.returned v) u) :
    ArmFor flags0 classFile x code maxLocals ret World_1 tables_1 room_1 Calls_1 rest_1 Pre_1 Post := by
  intro l hfl _ _ p e ha hc hk s m args below hf hA hF happ hP
  obtain ⟨hcalls, hrest, hpre⟩ := hP
  obtain ⟨-, -, -, hnamed, -, -, -, hat⟩ := (Spec.applies_iff hf).mp happ
  obtain ⟨hg, hn⟩ := and_e (Cond.before_iff.mp (show (Jvm.Cond.and given_1 narrow_1).before args s = true from hpre))
  obtain ⟨g6, g7⟩ := and_e hg
  obtain ⟨g8, g9⟩ := and_e g7
  obtain ⟨g10, g11⟩ := and_e g9
  obtain ⟨w0, w1, w2, rfl⟩ : ∃ w0 w1 w2 : Value, args = #[w0, w1, w2] := by
    have hs : args.size = 3 := by simpa [Cond.value, given_1] using g6
    obtain ⟨L⟩ := args
    match L, hs with
    | [w0, w1, w2], _ => exact ⟨w0, w1, w2, rfl⟩
  have hw := fun d (hd : d ∈ tables_1) => atoms_spec (ws := Jvm.Cond.code x code maxLocals ret :: tables_1) hat d (List.mem_cons_of_mem _ hd)
  have hfit : Fit s := fun {y c} hc i hi => by
    obtain ⟨ha, rfl⟩ := Array.getElem?_eq_some_iff.mp hc
    have q := List.all_eq_true.mp ((Array.all_eq_true_iff_forall_mem.mp hF) _ (Array.getElem_mem ha)) i (List.mem_range.mpr hi)
    simpa [Array.getElem?_eq_getElem hi] using q
  obtain ⟨i0, ei0⟩ := is_v g8
  obtain rfl : w0 = (.int i0) := Option.some.inj ei0
  obtain ⟨i1, ei1⟩ := is_v g10
  obtain rfl : w1 = (.int i1) := Option.some.inj ei1
  obtain ⟨i2, ei2⟩ := is_v g11
  obtain rfl : w2 = (.int i2) := Option.some.inj ei2
  obtain ⟨n, o, h1, h2, h3, _, L, rfl, ⟨rfl, N⟩, hq⟩ := rm0 l s _ hw tables_1 i0 i1 i2 s.heap s.heap.size (Nat.le_refl _) p e ha hc hk s m _ below hf ((Spec.applies_iff_loose hf).mp happ).1 ⟨rfl, State.Warmed39.refl s, rfl⟩ trivial
  refine ⟨n, _, h1, h2, h3, hpost _ _ _ _ _ _ ⟨Cond.after_iff.mpr rfl, Cond.after_iff.mpr (eq_i res_at (Term.int_eval (1)) rfl), trivial⟩ ⟨hq.1, hq.2.1, (hq.2.2.sift fun y hy => Or.inr (N y hy)).mono (by decide) (by decide)⟩⟩
theorem main_1_1 : Claimed_1_1 := comes_1 fun _ _ _ _ _ _ h hF => ⟨h.1, hF⟩
theorem main_1_2 : Claimed_1_2 := comes_1 fun _ _ _ _ _ _ h hF => ⟨h.2.1, hF⟩
end Jvm.Pilot.@@N@@
namespace Jvm.Pilot.@@N@@
open Jvm Jvm.ClassFile Sem Op Lib Jvm.Free Jvm.Stand Jvm.Pilot.@@N@@.Jvm.D
/-! MADE BY PROGRAM (witnessworld.py) out of the Statement's table words and the real class files: 10 classes; the members and pool entries that the words name. The judged class is class 1, her method 2. -/
namespace start1
open Jvm.ClassFile
def u (s : String) : CpInfo := .utf8 (stringToUtf16 s)
/-- a pool by its gaps: so many unusable entries, then the entry; so many at the end -/
def gap : Nat → List CpInfo → List CpInfo
  | 0, r => r
  | n + 1, r => .unusable :: gap n r
def poolList (es : List (Nat × CpInfo)) (last : Nat) : List CpInfo := es.foldr (fun e r => gap e.1 (e.2 :: r)) (gap last [])
def pool (es : List (Nat × CpInfo)) (last : Nat) : Array CpInfo := ⟨poolList es last⟩
def fileOf (pool : Array CpInfo) (this : Nat) (attrs : Array Attribute := #[]) (ms : Array MethodInfo := #[]) (fl : Nat := 33) (sup : Nat := 0) (ifs : Array Nat := #[]) (fds : Array FieldInfo := #[]) : ClassFile where
  minorVersion := 0
  majorVersion := 65
  constantPool := pool
  accessFlags := fl
  thisClass := this
  superClass := sup
  interfaces := ifs
  fields := fds
  methods := ms
  attributes := attrs
def plain (name : String) (sup : Option ClassId) : Class where
  name := name
  kind := .ordinary
  loader := none
  accessFlags := 33
  super := sup
  interfaces := #[]
  cf := none
  fields := #[]
  methods := #[]
  instanceTypes := #[]
  staticTypes := #[]
  resolved := #[]
  callSites := []
  init := .initialized
  statics := none
  mirror := none

def pool0 : Array CpInfo := pool [(5, u "<init>"), (0, u "()V"), (1, .class_ 10), (1, u "java/lang/Object")] 113

def k0m0 : Method := { name := "<init>", desc := "()V", sig := { parameters := [], returnType := none }, accessFlags := 1, code := none }
/-- java/lang/Object -/
def k0 : Class := { plain "java/lang/Object" none with
  accessFlags := 33
  interfaces := #[]
  cf := some (fileOf pool0 8 #[] #[{ accessFlags := 1, nameIndex := 5, descriptorIndex := 6, attributes := #[] }] 33 0 #[] #[])
  fields := #[]
  methods := #[k0m0]
  instanceTypes := #[]
  staticTypes := #[]
  resolved := Array.replicate 124 none
  statics := none }

def pool1 : Array CpInfo := pool [(2, .class_ 4), (1, u "java/lang/Object"), (0, u "<init>"), (0, u "()V"), (0, .long 4294967295), (1, .long 24), (1, .long 60), (1, .methodref 14 15), (0, .class_ 16), (0, .nameAndType 17 18), (0, u "viewsmith/samples/TimeOfDay"), (0, u "exists"), (0, u "(II)Z"), (0, .methodref 20 21), (0, .class_ 22), (0, .nameAndType 23 18), (0, u "viewsmith/samples/TimeOfDayExistsPinLaw"), (0, u "reference"), (3, u "law"), (0, u "(III)Z")] 2

def k1m0 : Method := { name := "<init>", desc := "()V", sig := { parameters := [], returnType := none }, accessFlags := 1, code := none }
def k1c1 : Code := { maxStack := 4, maxLocals := 6, code := method_2_code, exceptionTable := #[], attributes := #[] }
def k1m1 : Method := { name := "reference", desc := "(II)Z", sig := { parameters := [.int, .int], returnType := some .boolean }, accessFlags := 10, code := some k1c1 }
def k1c2 : Code := { maxStack := 3, maxLocals := 5, code := code, exceptionTable := #[], attributes := #[] }
def k1m2 : Method := { name := "law", desc := "(III)Z", sig := { parameters := [.int, .int, .int], returnType := some .boolean }, accessFlags := 9, code := some k1c2 }
/-- viewsmith/samples/TimeOfDayExistsPinLaw -/
def k1 : Class := { plain "viewsmith/samples/TimeOfDayExistsPinLaw" (some 0) with
  accessFlags := 49
  interfaces := #[]
  cf := some (fileOf pool1 20 #[] #[{ accessFlags := 1, nameIndex := 5, descriptorIndex := 6, attributes := #[] }, { accessFlags := 10, nameIndex := 23, descriptorIndex := 18, attributes := #[] }, { accessFlags := 9, nameIndex := 27, descriptorIndex := 28, attributes := #[] }] 49 2 #[] #[])
  fields := #[]
  methods := #[k1m0, k1m1, k1m2]
  instanceTypes := #[]
  staticTypes := #[]
  resolved := Array.replicate 31 none
  statics := none }

def pool2 : Array CpInfo := pool [(2, .class_ 4), (1, u "java/lang/Object"), (0, u "<init>"), (0, u "()V"), (0, .class_ 8), (0, u "java/lang/Record")] 13

def k2m0 : Method := { name := "<init>", desc := "()V", sig := { parameters := [], returnType := none }, accessFlags := 4, code := none }
/-- java/lang/Record -/
def k2 : Class := { plain "java/lang/Record" (some 0) with
  accessFlags := 1057
  interfaces := #[]
  cf := some (fileOf pool2 7 #[] #[{ accessFlags := 4, nameIndex := 5, descriptorIndex := 6, attributes := #[] }] 1057 2 #[] #[])
  fields := #[]
  methods := #[k2m0]
  instanceTypes := #[]
  staticTypes := #[]
  resolved := Array.replicate 22 none
  statics := none }

def pool3 : Array CpInfo := pool [(2, .class_ 4), (1, u "java/lang/Record"), (3, .class_ 10), (1, u "viewsmith/samples/TimeOfDay"), (0, u "exists"), (0, u "(II)Z"), (11, u "hour"), (0, u "I"), (2, u "minute"), (30, u "LAST_HOUR"), (2, u "LAST_MINUTE")] 39

def k3c0 : Code := { maxStack := 2, maxLocals := 2, code := prog_68_method_2_code, exceptionTable := #[], attributes := #[] }
def k3m0 : Method := { name := "exists", desc := "(II)Z", sig := { parameters := [.int, .int], returnType := some .boolean }, accessFlags := 8, code := some k3c0 }
/-- viewsmith/samples/TimeOfDay -/
def k3 : Class := { plain "viewsmith/samples/TimeOfDay" (some 2) with
  accessFlags := 49
  interfaces := #[]
  cf := some (fileOf pool3 8 #[] #[{ accessFlags := 8, nameIndex := 11, descriptorIndex := 12, attributes := #[] }] 49 2 #[] #[{ accessFlags := 18, nameIndex := 24, descriptorIndex := 25, attributes := #[] }, { accessFlags := 18, nameIndex := 28, descriptorIndex := 25, attributes := #[] }, { accessFlags := 26, nameIndex := 59, descriptorIndex := 25, attributes := #[] }, { accessFlags := 26, nameIndex := 62, descriptorIndex := 25, attributes := #[] }])
  fields := #[{ name := "hour", type := .int, accessFlags := 18, slot := 0, constantValue := 0 }, { name := "minute", type := .int, accessFlags := 18, slot := 1, constantValue := 0 }, { name := "LAST_HOUR", type := .int, accessFlags := 26, slot := 0, constantValue := 0 }, { name := "LAST_MINUTE", type := .int, accessFlags := 26, slot := 1, constantValue := 0 }]
  methods := #[k3m0]
  instanceTypes := #[.int, .int]
  staticTypes := #[.int, .int]
  resolved := Array.replicate 102 none
  statics := none }

def pool4 : Array CpInfo := pool [(1, u "java/lang/Cloneable"), (0, .class_ 1), (0, u "java/lang/Object"), (0, .class_ 3)] 3

/-- java/lang/Cloneable -/
def k4 : Class := { plain "java/lang/Cloneable" (some 0) with
  accessFlags := 1537
  interfaces := #[]
  cf := some (fileOf pool4 2 #[] #[] 1537 4 #[] #[])
  fields := #[]
  methods := #[]
  instanceTypes := #[]
  staticTypes := #[]
  resolved := Array.replicate 8 none
  statics := none }

def pool5 : Array CpInfo := pool [(1, u "java/io/Serializable"), (0, .class_ 1), (0, u "java/lang/Object"), (0, .class_ 3)] 3

/-- java/io/Serializable -/
def k5 : Class := { plain "java/io/Serializable" (some 0) with
  accessFlags := 1537
  interfaces := #[]
  cf := some (fileOf pool5 2 #[] #[] 1537 4 #[] #[])
  fields := #[]
  methods := #[]
  instanceTypes := #[]
  staticTypes := #[]
  resolved := Array.replicate 8 none
  statics := none }

/-- the primitive byte -/
def k6 : Class := { plain "byte" none with kind := .primitive 'B', accessFlags := 0x411 }
/-- [B -/
def k7 : Class := { plain "[B" (some 0) with kind := .array 6 .byte, interfaces := #[4, 5], accessFlags := 1041 }

/-- the primitive int -/
def k8 : Class := { plain "int" none with kind := .primitive 'I', accessFlags := 0x411 }
/-- [I -/
def k9 : Class := { plain "[I" (some 0) with kind := .array 8 .int, interfaces := #[4, 5], accessFlags := 1041 }

def heap : Heap := #[]
def classes : Array Class := #[k0, k1, k2, k3, k4, k5, k6, k7, k8, k9]
def interned : List (Array UInt16 × Addr) := []
def slotsUsed : Nat := 0
def theMethod : MethodId := ⟨1, 2⟩
def args0 : Array Value := #[.int 5, .int 7, .int 1]
def aboutOver (below : List Frame) : State where
  vm := { classes := classes, interned := interned.toArray }
  heap := heap
  slotsUsed := slotsUsed
  threads := #[{ frames := .invoking theMethod args0 :: below }]
def below0 : List Frame := [.native { method := ⟨0, 0⟩, args := #[] }]
def about1 : State := aboutOver below0
def p0 : Program := .bare "" "" ""
def e0 : Env := launch0.env 0 0 0
theorem w_frames : about1.frames = Frame.invoking theMethod args0 :: below0 := rfl
set_option maxRecDepth 65536 in
theorem w_args : argsFit about1.vm theMethod args0 = true := by decide +kernel
set_option maxRecDepth 65536 in
theorem w_heap : heapFits about1 = true := by decide +kernel
set_option maxRecDepth 65536 in
theorem w_runnable : about1.curStatus? = some .runnable := by decide +kernel
set_option maxRecDepth 65536 in
theorem w_alone : about1.alone = true := by decide +kernel
set_option maxRecDepth 65536 in
theorem w_named : about1.methodNamed? x = some theMethod := by decide +kernel
set_option maxRecDepth 65536 in
theorem w_hears : about1.hears theMethod below0 = true := by decide +kernel
set_option maxRecDepth 65536 in
theorem w_ripe : about1.ripe theMethod args0 below0 = true := by decide +kernel
theorem w_running : about1.status = .running := rfl
set_option maxRecDepth 65536 in
theorem w_room : about1.hasRoom e0.platform room_1 = true :=
  launch0.hasRoom_least _ room_1 (by decide +kernel) (by decide +kernel) (by decide +kernel) (by decide +kernel) (by decide +kernel) (by decide +kernel)
theorem allAtoms_all (ts : List Jvm.Cond) (a : Array Jvm.Value) (st : Jvm.State) : (allAtoms ts).before a st = ts.all (fun c => c.before a st) := by
  induction ts with
  | nil => rfl
  | cons c t ih =>
    show (Jvm.Cond.and c (allAtoms t)).before a st = _
    rw [Jvm.Cond.before_and, ih, List.all_cons]
def words1 : List Jvm.Cond := Jvm.Cond.code x code maxLocals ret :: tables_1
/-- a 'code' word, met by the world's own term for the bytes: nothing is compared byte by byte -/
theorem code_word {y : MethodName} {bytes : ByteArray} {mx : Nat} {rt : Option FieldType} {a : Array Value} {s : State} {m : MethodId} {meth : Method} {c : Code} (h1 : s.methodNamed? y = some m) (h2 : s.vm.method? m = some meth) (h3 : meth.code = some c) (h4 : c.code = bytes)
    (h5 : (c.maxLocals == mx && c.exceptionTable.isEmpty && decide (c.maxStack ≤ mostOperands) && decide (meth.sig.returnType = rt) && !meth.locks && decide (parseMethodDescriptor y.desc = some meth.sig)) = true) : (Jvm.Cond.code y bytes mx rt).before a s = true := by
  simp only [Bool.and_eq_true, beq_iff_eq, Bool.not_eq_true', decide_eq_true_eq] at h5
  obtain ⟨⟨⟨⟨⟨g1, g2⟩, g3⟩, g4⟩, g5⟩, g6⟩ := h5
  simp [Cond.before, Cond.holds, Cond.value, h1, h2, h3, h4, g1, g2, g3, g4, g5, g6]
def isCode : Jvm.Cond → Bool
  | .code _ _ _ _ => true
  | _ => false
theorem all_split {L : List Jvm.Cond} {P : Jvm.Cond → Bool} (h1 : L.all (fun c => isCode c || P c) = true) (h2 : ∀ c ∈ L.filter isCode, P c = true) : L.all P = true := by
  refine List.all_eq_true.mpr fun c hc => ?_
  have h := List.all_eq_true.mp h1 c hc
  rcases Bool.eq_false_or_eq_true (isCode c) with hi | hi
  · exact h2 c (List.mem_filter.mpr ⟨hc, hi⟩)
  · simpa [hi] using h
set_option maxRecDepth 65536 in
theorem w_c0 : (Jvm.Cond.code x code maxLocals ret).before args0 about1 = true := code_word (m := ⟨1, 2⟩) (meth := k1m2) (c := k1c2) (by decide +kernel) rfl rfl rfl (by decide +kernel)
set_option maxRecDepth 65536 in
theorem w_c1 : (Jvm.Cond.code ({ cls := "viewsmith/samples/TimeOfDay", name := "exists", desc := "(II)Z" } : Jvm.MethodName) prog_68_method_2_code (2 : Nat) (Option.some Jvm.ClassFile.FieldType.boolean)).before args0 about1 = true := code_word (m := ⟨3, 0⟩) (meth := k3m0) (c := k3c0) (by decide +kernel) rfl rfl rfl (by decide +kernel)
set_option maxRecDepth 65536 in
theorem w_c2 : (Jvm.Cond.code ({ cls := "viewsmith/samples/TimeOfDayExistsPinLaw", name := "reference", desc := "(II)Z" } : Jvm.MethodName) method_2_code (6 : Nat) (Option.some Jvm.ClassFile.FieldType.boolean)).before args0 about1 = true := code_word (m := ⟨1, 1⟩) (meth := k1m1) (c := k1c1) (by decide +kernel) rfl rfl rfl (by decide +kernel)
def codes1 : List Jvm.Cond := [Jvm.Cond.code x code maxLocals ret, Jvm.Cond.code ({ cls := "viewsmith/samples/TimeOfDay", name := "exists", desc := "(II)Z" } : Jvm.MethodName) prog_68_method_2_code (2 : Nat) (Option.some Jvm.ClassFile.FieldType.boolean), Jvm.Cond.code ({ cls := "viewsmith/samples/TimeOfDayExistsPinLaw", name := "reference", desc := "(II)Z" } : Jvm.MethodName) method_2_code (6 : Nat) (Option.some Jvm.ClassFile.FieldType.boolean)]
set_option maxRecDepth 65536 in
theorem codes_eq : words1.filter isCode = codes1 := rfl
theorem w_codes : ∀ c ∈ words1.filter isCode, c.before args0 about1 = true := by
  rw [codes_eq]
  intro c hc
  simp only [codes1, List.mem_cons, List.not_mem_nil, or_false] at hc
  rcases hc with rfl | rfl | rfl
  · exact w_c0
  · exact w_c1
  · exact w_c2
set_option maxRecDepth 65536 in
theorem w_t1 : words1.all (fun c => isCode c || c.before args0 about1) = true := by decide +kernel
theorem w_tables : (allAtoms (Jvm.Cond.code x code maxLocals ret :: tables_1)).before args0 about1 = true := by
  rw [allAtoms_all]
  show words1.all (fun c => c.before args0 about1) = true
  refine all_split ?_ w_codes
  rw [w_t1]
set_option maxRecDepth 65536 in
theorem w_case : (Jvm.Cond.and given_1 narrow_1).before args0 about1 = true := by decide +kernel
theorem w_applies : (headSpec (Jvm.Cond.code x code maxLocals ret :: tables_1) room_1).applies x e0.platform about1 = true :=
  (Spec.applies_iff w_frames).mpr ⟨w_running, w_runnable, w_alone, w_named, w_hears, w_ripe, w_room, w_tables⟩
theorem atStart : AtStart classFile x code maxLocals ret World_1 tables_1 room_1 Calls_1 rest_1 Pre_1 launch0 p0 e0 about1 theMethod args0 below0 :=
  ⟨lists_1, trivial, launch0.admits_env _ _ _, launch0.least_env, fairChoices_fair.cas, fairChoices_fair.clock, w_frames, w_args, w_heap, w_applies, trivial, trivial, w_case⟩
end start1
theorem witness_1 : WitnessClaimed_1 := ⟨start1.p0, start1.e0, start1.about1, start1.theMethod, start1.args0, start1.below0, start1.atStart⟩
end Jvm.Pilot.@@N@@
