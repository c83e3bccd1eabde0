import JvmDerived
import JvmDerived.Pilot.@@N@@Statement
import JvmDerived.Pilot.@@N@@Code
set_option linter.unusedVariables false
set_option linter.unusedSimpArgs false
namespace Jvm.RoadKit
open Sem ClassFile Op Lib Jvm.Stand Jvm.Free Jvm.LawKit
section New
variable {p : Program} {l : Launch} {e : Env} {R : Room} {s : State} {m : MethodId} {args : Array Value} {below : List Frame} {meth : Method} {c : Code} {T : State} {locs : List Loc} {cells slots : Nat}
theorem retI (X : Stand p l e R s m args below meth c T locs cells slots) (hx : p.tables.exec = Jvm.exec) {pc : Nat} {Ls : Array Slot} {z : Int32} {rest : List Value} (hret : meth.sig.returnType = some .int) (hd : decode c.code pc = .ok (.ireturn, 1)) {fs : List Frame}
    (hl : ∀ (f : JFrame) (acts : List Action), f.method = m → f.locked = none → f.entered = [] → (doReturn e (T.setTop f) acts (some (.int z))).1 = T.setFrames fs) : Steps p.tables e below (T.setTop (mkF m pc Ls (.int z :: rest))) (T.setFrames fs) := by
  have hm' : T.vm.method? m = some meth := X.method'
  have hn : narrow .int (.int z) = .int z := rfl
  show Steps p.tables e below (T.setTop { method := m, pc := pc, locals := Ls, stack := _ :: rest, locked := none }) _
  jvm_step X.here [X.here.top, hx, hd, hm', hret, hn]
  first | (intro acts; rw [hl _ acts rfl rfl rfl]) | rw [hl _ _ rfl rfl rfl]
  exact Steps.refl _
end New
end Jvm.RoadKit
namespace Jvm.Pilot.@@N@@
open Jvm Jvm.ClassFile Sem Op Lib Jvm.Free Jvm.Stand Jvm.LawKit Jvm.RoadKit Bundle Jvm.Pilot.@@N@@.Jvm.D
/-! Math.min on longs, and the numbers of the law -/
def own_min (x y : Int64) : Int64 := if (0 : Int32) < lcmpW x y then y else x
theorem own_min_at (x y : Int64) : (own_min x y).toInt ≤ x.toInt ∧ (own_min x y).toInt ≤ y.toInt ∧ ((own_min x y).toInt = x.toInt ∨ (own_min x y).toInt = y.toInt) := by
  unfold own_min
  by_cases h : (0 : Int32) < lcmpW x y
  · rw [if_pos h]
    rw [lw_gt, Int64.lt_iff_toInt_lt] at h
    omega
  · rw [if_neg h]
    rw [lw_gt, Int64.lt_iff_toInt_lt] at h
    omega
theorem own_start (q st : Int64) (h : st = own_min (q &&& (140737488355327 : Int64)) ((140737488355327 : Int64) - (2 : Int64))) : 0 ≤ st.toInt ∧ st.toInt ≤ 140737488355325 := by
  have e := c_maskL q 140737488355327 47 (by decide) (by decide)
  have p : ((2 ^ 47 : Nat) : Int) = 140737488355328 := by decide
  rw [p] at e
  have k : ((140737488355327 : Int64) - (2 : Int64)).toInt = 140737488355325 := by decide
  have m := own_min_at (q &&& (140737488355327 : Int64)) ((140737488355327 : Int64) - (2 : Int64))
  rw [← h, e, k] at m
  omega
theorem own_holder (p r : Int32) (h : r = ((p &&& (2147483647 : Int32)) % (65535 : Int32))) : 1 ≤ (r + (1 : Int32)).toInt ∧ (r + (1 : Int32)).toInt ≤ 65535 := by
  have a := (c_and p 2147483647 (by decide)).1
  have e := (c_irem (p &&& (2147483647 : Int32)) 65535 65535 (by decide)).1 a
  rw [← h] at e
  have k : (1 : Int32).toInt = 1 := by decide
  have s := c_iadd r 1
  have g := rng32 (r + 1)
  rw [k] at s
  omega
theorem own_shl (x : Int64) : x <<< ((16 : Int32) &&& 0x3f).toInt64 = x * (65536 : Int64) := shlmL (by decide)
theorem own_two (st : Int64) : st + (1 : Int64) + (1 : Int64) = st + (2 : Int64) := by rw [Int64.add_assoc]; rfl
theorem own_tok (g : Int64) (a : Int32) (h0 : 0 ≤ g.toInt) (h1 : g.toInt ≤ 140737488355327) (a0 : 1 ≤ a.toInt) (a1 : a.toInt ≤ 65535) : (g * (65536 : Int64) + a.toInt64).toInt = g.toInt * 65536 + a.toInt := by
  have e1 := c_lmul g 65536
  have k : (65536 : Int64).toInt = 65536 := by decide
  rw [k] at e1
  have r1 := rng64 (g * 65536)
  have f1 : (g * 65536).toInt = g.toInt * 65536 := by omega
  have e2 := c_ladd (g * 65536) a.toInt64
  have r2 := rng64 (g * 65536 + a.toInt64)
  rw [f1, c_i2l] at e2
  omega
theorem own_less (st : Int64) (a b : Int32) (s0 : 0 ≤ st.toInt ∧ st.toInt ≤ 140737488355325) (ha : 1 ≤ a.toInt ∧ a.toInt ≤ 65535) (hb : 1 ≤ b.toInt ∧ b.toInt ≤ 65535) : (st + (1 : Int64)) * (65536 : Int64) + a.toInt64 < (st + (2 : Int64)) * (65536 : Int64) + b.toInt64 := by
  have k1 : (1 : Int64).toInt = 1 := by decide
  have k2 : (2 : Int64).toInt = 2 := by decide
  have e1 := c_ladd st 1
  have e2 := c_ladd st 2
  have r1 := rng64 (st + 1)
  have r2 := rng64 (st + 2)
  rw [k1] at e1
  rw [k2] at e2
  have f1 : (st + 1).toInt = st.toInt + 1 := by omega
  have f2 : (st + 2).toInt = st.toInt + 2 := by omega
  rw [Int64.lt_iff_toInt_lt, own_tok (st + 1) a (by omega) (by omega) ha.1 ha.2, own_tok (st + 2) b (by omega) (by omega) hb.1 hb.2, f1, f2]
  omega
theorem d1_0 : decode jdk_29_method_70_code 0 = .ok (.lload_n 0, 1) := by decide +kernel
theorem d1_1 : decode jdk_29_method_70_code 1 = .ok (.lload_n 2, 1) := by decide +kernel
theorem d1_2 : decode jdk_29_method_70_code 2 = .ok (.lcmp, 1) := by decide +kernel
theorem d1_3 : decode jdk_29_method_70_code 3 = .ok (.ifCond .gt 7, 3) := by decide +kernel
theorem d1_6 : decode jdk_29_method_70_code 6 = .ok (.lload_n 0, 1) := by decide +kernel
theorem d1_7 : decode jdk_29_method_70_code 7 = .ok (.goto 4, 3) := by decide +kernel
theorem d1_10 : decode jdk_29_method_70_code 10 = .ok (.lload_n 2, 1) := by decide +kernel
theorem d1_11 : decode jdk_29_method_70_code 11 = .ok (.lreturn, 1) := by decide +kernel
theorem ef_1 (m : MethodId) (x0 : Int64) (x1 : Int64) : entryFrame m #[(.long x0), (.long x1)] 4 = mkF m 0 #[.val (.long x0), .second, .val (.long x1), .second] [] := by first | (simp [entryFrame, mkF, argsToLocals, Value.category]; done) | rfl
def Q1 (Z : State) (q1 : Int64) (q2 : Int64) (h0 : Heap) (n0 : Nat) (v : Option Value) (h : Heap) (L : List Loc) : Prop := v = some (.long (own_min q1 q2)) ∧ Fr n0 L ∧ h = h0
set_option maxRecDepth 65536 in
set_option maxHeartbeats 40000000 in
theorem rm1 (l : Launch) (Z : State) (a0 : Array Value) (hw : ∀ d ∈ tables_1, d.before a0 Z = true) (ws : List Jvm.Cond) (q1 : Int64) (q2 : Int64) (h0 : Heap) (n0 : Nat) (Z0 : n0 ≤ h0.size) :
    MetFree l (⟨"java/lang/Math", "min", "(JJ)J"⟩ : MethodName) (head1 (Jvm.Cond.code (⟨"java/lang/Math", "min", "(JJ)J"⟩ : MethodName) jdk_29_method_70_code 4 (some .long) :: ws) ({ frames := 0, cells := 0, slots := 0, locals := 0 } : Room)) (fun a U => a = #[(.long q1), (.long q2)] ∧ Z.Warmed39 U.vm ∧ U.heap = h0) (fun _ _ _ _ _ => True) (fun _ U o U' => ∃ v L, o = .returned v ∧ Q1 Z q1 q2 h0 n0 v U'.heap L ∧ FrameEnd U o U' L ({ frames := 0, cells := 0, slots := 0, locals := 0 } : Room).cells ({ frames := 0, cells := 0, slots := 0, locals := 0 } : Room).slots) := by
  refine MetFree.of_bodySF (Jvm.Free.JP.mathPlain rfl (by decide +kernel)) hisR ?_
  intro p e s m args below meth c s₁ Bd hml0 hP hK
  obtain ⟨rfl, hZ, hh⟩ := hP
  have hx := Bd.exec
  have hby := Bd.bytes
  have hml : c.maxLocals = 4 := hml0
  have hown : s.vm.findClass "java/lang/Math" = some m.cls := findClass_of_methodNamed Bd.named
  have hnm := (name_of_methodNamed Bd.named Bd.method).1
  have X0 : Stand p l e ({ frames := 0, cells := 0, slots := 0, locals := 0 } : Room) s m #[(.long q1), (.long q2)] below meth c s₁ [] 0 0 := Stand.of_body Bd
  have e0 : s₁.heap = h0 := by rw [← hh, Bd.state]; rfl
  have N0 := Fr.nil n0
  have pre0 : ∀ t, Steps p.tables e below (s₁.setTop (mkF m 0 #[.val (.long q1), .second, .val (.long q2), .second] [])) t → Steps p.tables e below (s₁.setTop (entryFrame m #[(.long q1), (.long q2)] 4)) t := fun t k => castTop (ef_1 m q1 q2) k
  by_cases hc3 : (0 : Int32) < (lcmpW q1 q2)
  · obtain ⟨fs, hr, hrun, hended, hW, hsame⟩ := X0.leave (v := some (.long q2)) (fun h => by rw [Bd.returns] at h; cases h)
    refine ⟨_, _, pre0 _ ?_, hrun, hended, _, _, rfl, ?_, ⟨_, rfl⟩, hW, hsame.mono (by decide) (by decide)⟩
    · show Steps p.tables e below (s₁.setTop (mkF m 0 #[.val (.long q1), .second, .val (.long q2), .second] [])) _
      refine XS.lloadN X0.here hx rfl (hb hby d1_0) rfl ?_
      show Steps p.tables e below (s₁.setTop (mkF m 1 #[.val (.long q1), .second, .val (.long q2), .second] [(.long q1)])) _
      refine XS.lloadN X0.here hx rfl (hb hby d1_1) rfl ?_
      show Steps p.tables e below (s₁.setTop (mkF m 2 #[.val (.long q1), .second, .val (.long q2), .second] [(.long q2), (.long q1)])) _
      refine XS.lcmp X0.here hx rfl (hb hby d1_2) rfl ?_
      show Steps p.tables e below (s₁.setTop (mkF m 3 #[.val (.long q1), .second, .val (.long q2), .second] [(.int (lcmpW q1 q2))])) _
      refine XS.ifYes X0.here hx rfl (pc0 := 3) (pc' := 10) rfl (hb hby d1_3) rfl ((if0 _ _).trans (tlt hc3).2.2.1) (by decide) (by decide) ?_
      show Steps p.tables e below (s₁.setTop (mkF m 10 #[.val (.long q1), .second, .val (.long q2), .second] [])) _
      refine XS.lloadN X0.here hx rfl (hb hby d1_10) rfl ?_
      show Steps p.tables e below (s₁.setTop (mkF m 11 #[.val (.long q1), .second, .val (.long q2), .second] [(.long q2)])) _
      exact X0.lreturnOut hx Bd.returns (hb hby d1_11) hr
    · show Q1 Z q1 q2 h0 n0 _ s₁.heap _
      rw [e0]
      exact ⟨(by simp [own_min, hc3]), N0, rfl⟩
  · obtain ⟨fs, hr, hrun, hended, hW, hsame⟩ := X0.leave (v := some (.long q1)) (fun h => by rw [Bd.returns] at h; cases h)
    refine ⟨_, _, pre0 _ ?_, hrun, hended, _, _, rfl, ?_, ⟨_, rfl⟩, hW, hsame.mono (by decide) (by decide)⟩
    · show Steps p.tables e below (s₁.setTop (mkF m 0 #[.val (.long q1), .second, .val (.long q2), .second] [])) _
      refine XS.lloadN X0.here hx rfl (hb hby d1_0) rfl ?_
      show Steps p.tables e below (s₁.setTop (mkF m 1 #[.val (.long q1), .second, .val (.long q2), .second] [(.long q1)])) _
      refine XS.lloadN X0.here hx rfl (hb hby d1_1) rfl ?_
      show Steps p.tables e below (s₁.setTop (mkF m 2 #[.val (.long q1), .second, .val (.long q2), .second] [(.long q2), (.long q1)])) _
      refine XS.lcmp X0.here hx rfl (hb hby d1_2) rfl ?_
      show Steps p.tables e below (s₁.setTop (mkF m 3 #[.val (.long q1), .second, .val (.long q2), .second] [(.int (lcmpW q1 q2))])) _
      refine XS.ifNo X0.here hx rfl (hb hby d1_3) rfl ((if0 _ _).trans (flt hc3).2.2.1) ?_
      show Steps p.tables e below (s₁.setTop (mkF m 6 #[.val (.long q1), .second, .val (.long q2), .second] [])) _
      refine XS.lloadN X0.here hx rfl (hb hby d1_6) rfl ?_
      show Steps p.tables e below (s₁.setTop (mkF m 7 #[.val (.long q1), .second, .val (.long q2), .second] [(.long q1)])) _
      refine XS.goto X0.here hx rfl (pc0 := 7) (pc' := 11) rfl (hb hby d1_7) (by decide) (by decide) ?_
      show Steps p.tables e below (s₁.setTop (mkF m 11 #[.val (.long q1), .second, .val (.long q2), .second] [(.long q1)])) _
      exact X0.lreturnOut hx Bd.returns (hb hby d1_11) hr
    · show Q1 Z q1 q2 h0 n0 _ s₁.heap _
      rw [e0]
      exact ⟨(by simp [own_min, hc3]), N0, rfl⟩
theorem d4_0 : decode jdk_71_method_1_code 0 = .ok (.aload_n 0, 1) := by decide +kernel
theorem d4_1 : decode jdk_71_method_1_code 1 = .ok (.invokespecial 1, 3) := by decide +kernel
theorem d4_4 : decode jdk_71_method_1_code 4 = .ok (.return_, 1) := by decide +kernel
theorem pn_4 : plainName "java/util/AbstractMap" = true := by first | (simp [plainName, overriddenIn]; done) | decide +kernel
theorem ef_4 (m : MethodId) (x0 : Addr) : entryFrame m #[(.ref x0)] 1 = mkF m 0 #[.val (.ref x0)] [] := by first | (simp [entryFrame, mkF, argsToLocals, Value.category]; done) | rfl
def Q4 (Z : State) (a1 : Addr) (h0 : Heap) (n0 : Nat) (v : Option Value) (h : Heap) (L : List Loc) : Prop := v = none ∧ Fr n0 L ∧ h = h0
set_option maxRecDepth 65536 in
set_option maxHeartbeats 40000000 in
theorem rm4 (l : Launch) (Z : State) (a0 : Array Value) (hw : ∀ d ∈ tables_1, d.before a0 Z = true) (ws : List Jvm.Cond) (a1 : Addr) (h0 : Heap) (n0 : Nat) (Z0 : n0 ≤ h0.size) :
    MetFree l (⟨"java/util/AbstractMap", "<init>", "()V"⟩ : MethodName) (head1 (Jvm.Cond.code (⟨"java/util/AbstractMap", "<init>", "()V"⟩ : MethodName) jdk_71_method_1_code 1 none :: ws) ({ frames := 1, cells := 0, slots := 0, locals := 12 } : Room)) (fun a U => a = #[(.ref a1)] ∧ Z.Warmed39 U.vm ∧ U.heap = h0) (fun _ _ _ _ _ => True) (fun _ U o U' => ∃ v L, o = .returned v ∧ Q4 Z a1 h0 n0 v U'.heap L ∧ FrameEnd U o U' L ({ frames := 1, cells := 0, slots := 0, locals := 12 } : Room).cells ({ frames := 1, cells := 0, slots := 0, locals := 12 } : Room).slots) := by
  refine MetFree.of_bodySF (plainFor_of_name pn_4) hisR ?_
  intro p e s m args below meth c s₁ Bd hml0 hP hK
  obtain ⟨rfl, hZ, hh⟩ := hP
  have hx := Bd.exec
  have hby := Bd.bytes
  have hml : c.maxLocals = 1 := hml0
  have hown : s.vm.findClass "java/util/AbstractMap" = some m.cls := findClass_of_methodNamed Bd.named
  have hnm := (name_of_methodNamed Bd.named Bd.method).1
  have X0 : Stand p l e ({ frames := 1, cells := 0, slots := 0, locals := 12 } : Room) s m #[(.ref a1)] below meth c s₁ [] 0 0 := Stand.of_body Bd
  have e0 : s₁.heap = h0 := by rw [← hh, Bd.state]; rfl
  have N0 := Fr.nil n0
  have pre0 : ∀ t, Steps p.tables e below (s₁.setTop (mkF m 0 #[.val (.ref a1)] [])) t → Steps p.tables e below (s₁.setTop (entryFrame m #[(.ref a1)] 1)) t := fun t k => castTop (ef_4 m a1) k
  obtain ⟨T2, X2, e2, st2⟩ := initO X0 hx hZ hown (hw _ (List.mem_of_getElem? (i := 26) rfl)) (hw _ (List.mem_of_getElem? (i := 27) rfl)) (hw _ (List.mem_of_getElem? (i := 28) rfl)) e0 (g := (mkF m 1 #[.val (.ref a1)] [(.ref a1)])) rfl (by rw [hml]; rfl) rfl (hb hby d4_1) (by decide) (W := 0) (by show 2 * 0 + _ ≤ _; exact Nat.le_of_eq rfl) (by decide)
  obtain ⟨fs, hr, hrun, hended, hW, hsame⟩ := X2.leave (v := none) (fun _ => rfl)
  refine ⟨_, _, pre0 _ ?_, hrun, hended, _, _, rfl, ?_, ⟨_, rfl⟩, hW, hsame.mono (by decide) (by decide)⟩
  · show Steps p.tables e below (s₁.setTop (mkF m 0 #[.val (.ref a1)] [])) _
    refine XS.aloadN X0.here hx rfl (hb hby d4_0) rfl rfl ?_
    show Steps p.tables e below (s₁.setTop (mkF m 1 #[.val (.ref a1)] [(.ref a1)])) _
    refine st2 _ ?_
    show Steps p.tables e below (T2.setTop (mkF m 4 #[.val (.ref a1)] [])) _
    exact X2.returnOut hx Bd.returns (hb hby d4_4) hr
  · show Q4 Z a1 h0 n0 _ T2.heap _
    rw [e2]
    exact ⟨rfl, N0, rfl⟩
theorem d7_0 : decode jdk_22_method_1_code 0 = .ok (.aload_n 0, 1) := by decide +kernel
theorem d7_1 : decode jdk_22_method_1_code 1 = .ok (.invokespecial 1, 3) := by decide +kernel
theorem d7_4 : decode jdk_22_method_1_code 4 = .ok (.return_, 1) := by decide +kernel
theorem pn_7 : plainName "java/util/AbstractCollection" = true := by first | (simp [plainName, overriddenIn]; done) | decide +kernel
theorem ef_7 (m : MethodId) (x0 : Addr) : entryFrame m #[(.ref x0)] 1 = mkF m 0 #[.val (.ref x0)] [] := by first | (simp [entryFrame, mkF, argsToLocals, Value.category]; done) | rfl
def Q7 (Z : State) (a1 : Addr) (h0 : Heap) (n0 : Nat) (v : Option Value) (h : Heap) (L : List Loc) : Prop := v = none ∧ Fr n0 L ∧ h = h0
set_option maxRecDepth 65536 in
set_option maxHeartbeats 40000000 in
theorem rm7 (l : Launch) (Z : State) (a0 : Array Value) (hw : ∀ d ∈ tables_1, d.before a0 Z = true) (ws : List Jvm.Cond) (a1 : Addr) (h0 : Heap) (n0 : Nat) (Z0 : n0 ≤ h0.size) :
    MetFree l (⟨"java/util/AbstractCollection", "<init>", "()V"⟩ : MethodName) (head1 (Jvm.Cond.code (⟨"java/util/AbstractCollection", "<init>", "()V"⟩ : MethodName) jdk_22_method_1_code 1 none :: ws) ({ frames := 1, cells := 0, slots := 0, locals := 12 } : Room)) (fun a U => a = #[(.ref a1)] ∧ Z.Warmed39 U.vm ∧ U.heap = h0) (fun _ _ _ _ _ => True) (fun _ U o U' => ∃ v L, o = .returned v ∧ Q7 Z a1 h0 n0 v U'.heap L ∧ FrameEnd U o U' L ({ frames := 1, cells := 0, slots := 0, locals := 12 } : Room).cells ({ frames := 1, cells := 0, slots := 0, locals := 12 } : Room).slots) := by
  refine MetFree.of_bodySF (plainFor_of_name pn_7) hisR ?_
  intro p e s m args below meth c s₁ Bd hml0 hP hK
  obtain ⟨rfl, hZ, hh⟩ := hP
  have hx := Bd.exec
  have hby := Bd.bytes
  have hml : c.maxLocals = 1 := hml0
  have hown : s.vm.findClass "java/util/AbstractCollection" = some m.cls := findClass_of_methodNamed Bd.named
  have hnm := (name_of_methodNamed Bd.named Bd.method).1
  have X0 : Stand p l e ({ frames := 1, cells := 0, slots := 0, locals := 12 } : Room) s m #[(.ref a1)] below meth c s₁ [] 0 0 := Stand.of_body Bd
  have e0 : s₁.heap = h0 := by rw [← hh, Bd.state]; rfl
  have N0 := Fr.nil n0
  have pre0 : ∀ t, Steps p.tables e below (s₁.setTop (mkF m 0 #[.val (.ref a1)] [])) t → Steps p.tables e below (s₁.setTop (entryFrame m #[(.ref a1)] 1)) t := fun t k => castTop (ef_7 m a1) k
  obtain ⟨T2, X2, e2, st2⟩ := initO X0 hx hZ hown (hw _ (List.mem_of_getElem? (i := 47) rfl)) (hw _ (List.mem_of_getElem? (i := 27) rfl)) (hw _ (List.mem_of_getElem? (i := 28) rfl)) e0 (g := (mkF m 1 #[.val (.ref a1)] [(.ref a1)])) rfl (by rw [hml]; rfl) rfl (hb hby d7_1) (by decide) (W := 0) (by show 2 * 0 + _ ≤ _; exact Nat.le_of_eq rfl) (by decide)
  obtain ⟨fs, hr, hrun, hended, hW, hsame⟩ := X2.leave (v := none) (fun _ => rfl)
  refine ⟨_, _, pre0 _ ?_, hrun, hended, _, _, rfl, ?_, ⟨_, rfl⟩, hW, hsame.mono (by decide) (by decide)⟩
  · show Steps p.tables e below (s₁.setTop (mkF m 0 #[.val (.ref a1)] [])) _
    refine XS.aloadN X0.here hx rfl (hb hby d7_0) rfl rfl ?_
    show Steps p.tables e below (s₁.setTop (mkF m 1 #[.val (.ref a1)] [(.ref a1)])) _
    refine st2 _ ?_
    show Steps p.tables e below (T2.setTop (mkF m 4 #[.val (.ref a1)] [])) _
    exact X2.returnOut hx Bd.returns (hb hby d7_4) hr
  · show Q7 Z a1 h0 n0 _ T2.heap _
    rw [e2]
    exact ⟨rfl, N0, rfl⟩
theorem d3_0 : decode jdk_2729_method_1_code 0 = .ok (.aload_n 0, 1) := by decide +kernel
theorem d3_1 : decode jdk_2729_method_1_code 1 = .ok (.invokespecial 1, 3) := by decide +kernel
theorem d3_4 : decode jdk_2729_method_1_code 4 = .ok (.aload_n 0, 1) := by decide +kernel
theorem d3_5 : decode jdk_2729_method_1_code 5 = .ok (.iconst 0, 1) := by decide +kernel
theorem d3_6 : decode jdk_2729_method_1_code 6 = .ok (.putfield 7, 3) := by decide +kernel
theorem d3_9 : decode jdk_2729_method_1_code 9 = .ok (.aload_n 0, 1) := by decide +kernel
theorem d3_10 : decode jdk_2729_method_1_code 10 = .ok (.iconst 0, 1) := by decide +kernel
theorem d3_11 : decode jdk_2729_method_1_code 11 = .ok (.putfield 13, 3) := by decide +kernel
theorem d3_14 : decode jdk_2729_method_1_code 14 = .ok (.aload_n 0, 1) := by decide +kernel
theorem d3_15 : decode jdk_2729_method_1_code 15 = .ok (.aconst_null, 1) := by decide +kernel
theorem d3_16 : decode jdk_2729_method_1_code 16 = .ok (.putfield 16, 3) := by decide +kernel
theorem d3_19 : decode jdk_2729_method_1_code 19 = .ok (.return_, 1) := by decide +kernel
theorem pn_3 : plainName "java/util/TreeMap" = true := by first | (simp [plainName, overriddenIn]; done) | decide +kernel
theorem pd_3_2 : parseMethodDescriptor "()V" = some ⟨[], none⟩ := by decide +kernel
theorem ef_3 (m : MethodId) (x0 : Addr) : entryFrame m #[(.ref x0)] 1 = mkF m 0 #[.val (.ref x0)] [] := by first | (simp [entryFrame, mkF, argsToLocals, Value.category]; done) | rfl
def Q3 (Z : State) (a1 : Addr) (u_size_a1 : Value) (u_modCount_a1 : Value) (u_comparator_a1 : Value) (h0 : Heap) (n0 : Nat) (v : Option Value) (h : Heap) (L : List Loc) : Prop := v = none ∧ Fr n0 L ∧ Keep h0 h [a1]
set_option maxRecDepth 65536 in
set_option maxHeartbeats 40000000 in
theorem rm3 (l : Launch) (Z : State) (a0 : Array Value) (hw : ∀ d ∈ tables_1, d.before a0 Z = true) (ws : List Jvm.Cond) (a1 : Addr) (u_size_a1 : Value) (u_modCount_a1 : Value) (u_comparator_a1 : Value) (h0 : Heap) (n0 : Nat) (Z0 : n0 ≤ h0.size) (E_a1 : Exa Z h0 a1 "java/util/TreeMap") (F_size_a1 : Fld Z h0 a1 "java/util/TreeMap" "size" "I" u_size_a1) (g_a1 : n0 ≤ a1) (F_modCount_a1 : Fld Z h0 a1 "java/util/TreeMap" "modCount" "I" u_modCount_a1) (F_comparator_a1 : Fld Z h0 a1 "java/util/TreeMap" "comparator" "Ljava/util/Comparator;" u_comparator_a1) :
    MetFree l (⟨"java/util/TreeMap", "<init>", "()V"⟩ : MethodName) (head1 (Jvm.Cond.code (⟨"java/util/TreeMap", "<init>", "()V"⟩ : MethodName) jdk_2729_method_1_code 1 none :: ws) ({ frames := 2, cells := 0, slots := 0, locals := 24 } : Room)) (fun a U => a = #[(.ref a1)] ∧ Z.Warmed39 U.vm ∧ U.heap = h0) (fun _ _ _ _ _ => True) (fun _ U o U' => ∃ v L, o = .returned v ∧ Q3 Z a1 u_size_a1 u_modCount_a1 u_comparator_a1 h0 n0 v U'.heap L ∧ FrameEnd U o U' L ({ frames := 2, cells := 0, slots := 0, locals := 24 } : Room).cells ({ frames := 2, cells := 0, slots := 0, locals := 24 } : Room).slots) := by
  refine MetFree.of_bodySF (plainFor_of_name pn_3) hisR ?_
  intro p e s m args below meth c s₁ Bd hml0 hP hK
  obtain ⟨rfl, hZ, hh⟩ := hP
  have hx := Bd.exec
  have hby := Bd.bytes
  have hml : c.maxLocals = 1 := hml0
  have hown : s.vm.findClass "java/util/TreeMap" = some m.cls := findClass_of_methodNamed Bd.named
  have hnm := (name_of_methodNamed Bd.named Bd.method).1
  have X0 : Stand p l e ({ frames := 2, cells := 0, slots := 0, locals := 24 } : Room) s m #[(.ref a1)] below meth c s₁ [] 0 0 := Stand.of_body Bd
  have e0 : s₁.heap = h0 := by rw [← hh, Bd.state]; rfl
  have N0 := Fr.nil n0
  have pre0 : ∀ t, Steps p.tables e below (s₁.setTop (mkF m 0 #[.val (.ref a1)] [])) t → Steps p.tables e below (s₁.setTop (entryFrame m #[(.ref a1)] 1)) t := fun t k => castTop (ef_3 m a1) k
  obtain ⟨_, _, ⟨T2, L2, k2, n2⟩, -, X2, ⟨Lc2, hQ2, l2, y2, z2⟩, st2⟩ := X0.specialBack hx (y := (⟨"java/util/AbstractMap", "<init>", "()V"⟩ : MethodName)) rfl hown (mvT hZ (hw _ (List.mem_of_getElem? (i := 20) rfl))) (mvT hZ (hw _ (List.mem_of_getElem? (i := 21) rfl))) (mvT hZ (hw _ (List.mem_of_getElem? (i := 25) rfl))) (by decide) (backOf (W := 0) (rm4 l Z a0 hw [] a1 h0 n0 Z0) hZ (hw _ (List.mem_of_getElem? (i := 25) rfl)) (hw _ (List.mem_of_getElem? (i := 24) rfl)) (by decide) (by decide)) (g := (mkF m 1 #[.val (.ref a1)] [(.ref a1)])) rfl (by rw [hml]; rfl) (Steps.refl _) (a := a1) (argsL := []) (rest := []) (lenOf pd_3_2 rfl) rfl (by show 2 * 0 + _ ≤ _; exact Nat.le_of_eq rfl) (hb hby d3_1) (fun _ _ => ⟨rfl, e0, (by decide : 0 + 0 ≤ _), (by decide : 0 + 0 ≤ _)⟩)
  dsimp only [Pt.U, Pt.locs, Pt.cells, Pt.slots] at X2 l2 y2 z2 st2 hQ2
  subst l2 y2 z2
  obtain ⟨rfl, N2q, q2⟩ := hQ2
  have K2q : Keep h0 T2.heap [] := by rw [q2]; exact Keep.refl _ _
  have KC2 : Keep h0 T2.heap [a1] := by rw [q2]; exact Keep.refl _ _
  have N2 := Fr.app N0 N2q
  obtain ⟨T3, h3, X3, e3, W3, st3⟩ := putF X2 hx hZ hown (host := "") (Or.inl (hw _ (List.mem_of_getElem? (i := 29) rfl))) Via.refl rfl (F_size_a1.keep K2q nin0) (E_a1.keep K2q) (Or.inl (hw _ (List.mem_of_getElem? (i := 30) rfl))) (hw _ (List.mem_of_getElem? (i := 15) rfl)) (ty := .int) (by decide) rfl rfl (g := (mkF m 6 #[.val (.ref a1)] [(.int (0 : Int32)), (.ref a1)])) rfl rfl (hb hby d3_6)
  have Fw3 := (F_size_a1.keep K2q nin0).same W3      -- the field now holds (.int (0 : Int32))
  have K3 : Keep h0 h3 [a1] := KC2.wr W3 (Or.inl (List.mem_of_getElem? (i := 0) rfl))
  have N3 := Fr.snoc X3 N2 g_a1
  obtain ⟨T4, h4, X4, e4, W4, st4⟩ := putF X3 hx hZ hown (host := "") (Or.inl (hw _ (List.mem_of_getElem? (i := 31) rfl))) Via.refl e3 ((F_modCount_a1.keep K2q nin0).other W3 (Or.inr (slot_ne (Or.inl (hw _ (List.mem_of_getElem? (i := 32) rfl))) (Or.inl (hw _ (List.mem_of_getElem? (i := 30) rfl))) (by decide) (t := .int) (t' := .int) (by decide) (by decide)))) ((E_a1.keep K2q).wr W3) (Or.inl (hw _ (List.mem_of_getElem? (i := 32) rfl))) (hw _ (List.mem_of_getElem? (i := 15) rfl)) (ty := .int) (by decide) rfl rfl (g := (mkF m 11 #[.val (.ref a1)] [(.int (0 : Int32)), (.ref a1)])) rfl rfl (hb hby d3_11)
  have Fw4 := ((F_modCount_a1.keep K2q nin0).other W3 (Or.inr (slot_ne (Or.inl (hw _ (List.mem_of_getElem? (i := 32) rfl))) (Or.inl (hw _ (List.mem_of_getElem? (i := 30) rfl))) (by decide) (t := .int) (t' := .int) (by decide) (by decide)))).same W4      -- the field now holds (.int (0 : Int32))
  have K4 : Keep h0 h4 [a1] := K3.wr W4 (Or.inl (List.mem_of_getElem? (i := 0) rfl))
  have N4 := Fr.snoc X4 N3 g_a1
  obtain ⟨T5, h5, X5, e5, W5, st5⟩ := putF X4 hx hZ hown (host := "") (Or.inl (hw _ (List.mem_of_getElem? (i := 33) rfl))) Via.refl e4 (((F_comparator_a1.keep K2q nin0).other W3 (Or.inr (slot_ne (Or.inr (hw _ (List.mem_of_getElem? (i := 34) rfl))) (Or.inl (hw _ (List.mem_of_getElem? (i := 30) rfl))) (by decide) (t := (.object "java/util/Comparator")) (t' := .int) (by decide) (by decide)))).other W4 (Or.inr (slot_ne (Or.inr (hw _ (List.mem_of_getElem? (i := 34) rfl))) (Or.inl (hw _ (List.mem_of_getElem? (i := 32) rfl))) (by decide) (t := (.object "java/util/Comparator")) (t' := .int) (by decide) (by decide)))) (((E_a1.keep K2q).wr W3).wr W4) (Or.inr ⟨(hw _ (List.mem_of_getElem? (i := 34) rfl)), rfl, hnm⟩) (hw _ (List.mem_of_getElem? (i := 15) rfl)) (ty := (.object "java/util/Comparator")) (by decide) rfl rfl (g := (mkF m 16 #[.val (.ref a1)] [.null, (.ref a1)])) rfl rfl (hb hby d3_16)
  have Fw5 := (((F_comparator_a1.keep K2q nin0).other W3 (Or.inr (slot_ne (Or.inr (hw _ (List.mem_of_getElem? (i := 34) rfl))) (Or.inl (hw _ (List.mem_of_getElem? (i := 30) rfl))) (by decide) (t := (.object "java/util/Comparator")) (t' := .int) (by decide) (by decide)))).other W4 (Or.inr (slot_ne (Or.inr (hw _ (List.mem_of_getElem? (i := 34) rfl))) (Or.inl (hw _ (List.mem_of_getElem? (i := 32) rfl))) (by decide) (t := (.object "java/util/Comparator")) (t' := .int) (by decide) (by decide)))).same W5      -- the field now holds .null
  have K5 : Keep h0 h5 [a1] := K4.wr W5 (Or.inl (List.mem_of_getElem? (i := 0) rfl))
  have N5 := Fr.snoc X5 N4 g_a1
  obtain ⟨fs, hr, hrun, hended, hW, hsame⟩ := X5.leave (v := none) (fun _ => rfl)
  refine ⟨_, _, pre0 _ ?_, hrun, hended, _, _, rfl, ?_, ⟨_, rfl⟩, hW, hsame.mono (by decide) (by decide)⟩
  · show Steps p.tables e below (s₁.setTop (mkF m 0 #[.val (.ref a1)] [])) _
    refine XS.aloadN X0.here hx rfl (hb hby d3_0) rfl rfl ?_
    show Steps p.tables e below (s₁.setTop (mkF m 1 #[.val (.ref a1)] [(.ref a1)])) _
    refine st2.trans ?_
    show Steps p.tables e below (T2.setTop (mkF m 4 #[.val (.ref a1)] [])) _
    refine XS.aloadN X2.here hx rfl (hb hby d3_4) rfl rfl ?_
    show Steps p.tables e below (T2.setTop (mkF m 5 #[.val (.ref a1)] [(.ref a1)])) _
    refine XS.iconst X2.here hx rfl (hb hby d3_5) ?_
    show Steps p.tables e below (T2.setTop (mkF m 6 #[.val (.ref a1)] [(.int (0 : Int32)), (.ref a1)])) _
    refine st3 _ ?_
    show Steps p.tables e below (T3.setTop (mkF m 9 #[.val (.ref a1)] [])) _
    refine XS.aloadN X3.here hx rfl (hb hby d3_9) rfl rfl ?_
    show Steps p.tables e below (T3.setTop (mkF m 10 #[.val (.ref a1)] [(.ref a1)])) _
    refine XS.iconst X3.here hx rfl (hb hby d3_10) ?_
    show Steps p.tables e below (T3.setTop (mkF m 11 #[.val (.ref a1)] [(.int (0 : Int32)), (.ref a1)])) _
    refine st4 _ ?_
    show Steps p.tables e below (T4.setTop (mkF m 14 #[.val (.ref a1)] [])) _
    refine XS.aloadN X4.here hx rfl (hb hby d3_14) rfl rfl ?_
    show Steps p.tables e below (T4.setTop (mkF m 15 #[.val (.ref a1)] [(.ref a1)])) _
    refine XS.aconstNull X4.here hx rfl (hb hby d3_15) ?_
    show Steps p.tables e below (T4.setTop (mkF m 16 #[.val (.ref a1)] [.null, (.ref a1)])) _
    refine st5 _ ?_
    show Steps p.tables e below (T5.setTop (mkF m 19 #[.val (.ref a1)] [])) _
    exact X5.returnOut hx Bd.returns (hb hby d3_19) hr
  · show Q3 Z a1 u_size_a1 u_modCount_a1 u_comparator_a1 h0 n0 _ T5.heap _
    rw [e5]
    exact ⟨rfl, N5, K5⟩
theorem d6_0 : decode jdk_21_method_3_code 0 = .ok (.aload_n 0, 1) := by decide +kernel
theorem d6_1 : decode jdk_21_method_3_code 1 = .ok (.invokespecial 42, 3) := by decide +kernel
theorem d6_4 : decode jdk_21_method_3_code 4 = .ok (.aload_n 0, 1) := by decide +kernel
theorem d6_5 : decode jdk_21_method_3_code 5 = .ok (.bipush 17, 2) := by decide +kernel
theorem d6_7 : decode jdk_21_method_3_code 7 = .ok (.anewarray 47, 3) := by decide +kernel
theorem d6_10 : decode jdk_21_method_3_code 10 = .ok (.putfield 3, 3) := by decide +kernel
theorem d6_13 : decode jdk_21_method_3_code 13 = .ok (.return_, 1) := by decide +kernel
theorem pn_6 : plainName "java/util/ArrayDeque" = true := by first | (simp [plainName, overriddenIn]; done) | decide +kernel
theorem pd_6_2 : parseMethodDescriptor "()V" = some ⟨[], none⟩ := by decide +kernel
theorem ef_6 (m : MethodId) (x0 : Addr) : entryFrame m #[(.ref x0)] 1 = mkF m 0 #[.val (.ref x0)] [] := by first | (simp [entryFrame, mkF, argsToLocals, Value.category]; done) | rfl
def Q6 (Z : State) (a1 : Addr) (u_elements_a1 : Value) (h0 : Heap) (n0 : Nat) (v : Option Value) (h : Heap) (L : List Loc) : Prop := v = none ∧ Fr n0 L ∧ Keep h0 h [a1]
set_option maxRecDepth 65536 in
set_option maxHeartbeats 40000000 in
theorem rm6 (l : Launch) (Z : State) (a0 : Array Value) (hw : ∀ d ∈ tables_1, d.before a0 Z = true) (ws : List Jvm.Cond) (a1 : Addr) (u_elements_a1 : Value) (h0 : Heap) (n0 : Nat) (Z0 : n0 ≤ h0.size) (E_a1 : Exa Z h0 a1 "java/util/ArrayDeque") (F_elements_a1 : Fld Z h0 a1 "java/util/ArrayDeque" "elements" "[Ljava/lang/Object;" u_elements_a1) (g_a1 : n0 ≤ a1) :
    MetFree l (⟨"java/util/ArrayDeque", "<init>", "()V"⟩ : MethodName) (head1 (Jvm.Cond.code (⟨"java/util/ArrayDeque", "<init>", "()V"⟩ : MethodName) jdk_21_method_3_code 1 none :: ws) ({ frames := 2, cells := 1, slots := 17, locals := 24 } : Room)) (fun a U => a = #[(.ref a1)] ∧ Z.Warmed39 U.vm ∧ U.heap = h0) (fun _ _ _ _ _ => True) (fun _ U o U' => ∃ v L, o = .returned v ∧ Q6 Z a1 u_elements_a1 h0 n0 v U'.heap L ∧ FrameEnd U o U' L ({ frames := 2, cells := 1, slots := 17, locals := 24 } : Room).cells ({ frames := 2, cells := 1, slots := 17, locals := 24 } : Room).slots) := by
  refine MetFree.of_bodySF (plainFor_of_name pn_6) hisR ?_
  intro p e s m args below meth c s₁ Bd hml0 hP hK
  obtain ⟨rfl, hZ, hh⟩ := hP
  have hx := Bd.exec
  have hby := Bd.bytes
  have hml : c.maxLocals = 1 := hml0
  have hown : s.vm.findClass "java/util/ArrayDeque" = some m.cls := findClass_of_methodNamed Bd.named
  have hnm := (name_of_methodNamed Bd.named Bd.method).1
  have X0 : Stand p l e ({ frames := 2, cells := 1, slots := 17, locals := 24 } : Room) s m #[(.ref a1)] below meth c s₁ [] 0 0 := Stand.of_body Bd
  have e0 : s₁.heap = h0 := by rw [← hh, Bd.state]; rfl
  have N0 := Fr.nil n0
  have pre0 : ∀ t, Steps p.tables e below (s₁.setTop (mkF m 0 #[.val (.ref a1)] [])) t → Steps p.tables e below (s₁.setTop (entryFrame m #[(.ref a1)] 1)) t := fun t k => castTop (ef_6 m a1) k
  obtain ⟨_, _, ⟨T2, L2, k2, n2⟩, -, X2, ⟨Lc2, hQ2, l2, y2, z2⟩, st2⟩ := X0.specialBack hx (y := (⟨"java/util/AbstractCollection", "<init>", "()V"⟩ : MethodName)) rfl hown (mvT hZ (hw _ (List.mem_of_getElem? (i := 41) rfl))) (mvT hZ (hw _ (List.mem_of_getElem? (i := 42) rfl))) (mvT hZ (hw _ (List.mem_of_getElem? (i := 46) rfl))) (by decide) (backOf (W := 0) (rm7 l Z a0 hw [] a1 h0 n0 Z0) hZ (hw _ (List.mem_of_getElem? (i := 46) rfl)) (hw _ (List.mem_of_getElem? (i := 45) rfl)) (by decide) (by decide)) (g := (mkF m 1 #[.val (.ref a1)] [(.ref a1)])) rfl (by rw [hml]; rfl) (Steps.refl _) (a := a1) (argsL := []) (rest := []) (lenOf pd_6_2 rfl) rfl (by show 2 * 0 + _ ≤ _; exact Nat.le_of_eq rfl) (hb hby d6_1) (fun _ _ => ⟨rfl, e0, (by decide : 0 + 0 ≤ _), (by decide : 0 + 0 ≤ _)⟩)
  dsimp only [Pt.U, Pt.locs, Pt.cells, Pt.slots] at X2 l2 y2 z2 st2 hQ2
  subst l2 y2 z2
  obtain ⟨rfl, N2q, q2⟩ := hQ2
  have K2q : Keep h0 T2.heap [] := by rw [q2]; exact Keep.refl _ _
  have KC2 : Keep h0 T2.heap [a1] := by rw [q2]; exact Keep.refl _ _
  have N2 := Fr.app N0 N2q
  obtain ⟨T3, h3, k3, X3, e3, E3, A3, O3, st3⟩ := newR X2 hx hZ hown (hw _ (List.mem_of_getElem? (i := 48) rfl)) (hw _ (List.mem_of_getElem? (i := 49) rfl)) rfl (g := (mkF m 7 #[.val (.ref a1)] [(.int (17 : Int32)), (.ref a1)])) rfl (hb hby d6_7) rfl (by decide) (cap := 17) (by decide) (by decide) (by decide) (by decide)
  obtain ⟨b3, g3⟩ : ∃ z, z = T2.heap.size := ⟨_, rfl⟩      -- the fresh array's address
  rw [← g3] at A3 st3
  have V_b3 := Arv.new A3 (by decide)      -- Arv Z h3 b3 k3 (.object "java/lang/Object") (17 : Int32) [] .null; O3: what may lie in it (Sto.ofV)
  have g_b3 : n0 ≤ b3 := Nat.le_trans (Nat.le_trans Z0 K2q.1) (Nat.le_of_eq g3.symm)
  have sz_b3 : h0.size ≤ b3 := (Nat.le_trans KC2.1 (Nat.le_of_eq g3.symm))
  have K3 : Keep h0 h3 [a1] := KC2.ext E3
  obtain ⟨T4, h4, X4, e4, W4, st4⟩ := putF X3 hx hZ hown (host := "") (Or.inl (hw _ (List.mem_of_getElem? (i := 50) rfl))) Via.refl e3 ((F_elements_a1.keep K2q nin0).ext E3) ((E_a1.keep K2q).ext E3) (Or.inl (hw _ (List.mem_of_getElem? (i := 51) rfl))) (hw _ (List.mem_of_getElem? (i := 36) rfl)) (ty := (.array (.object "java/lang/Object"))) (by decide) rfl rfl (g := (mkF m 10 #[.val (.ref a1)] [(.ref b3), (.ref a1)])) rfl rfl (hb hby d6_10)
  have Fw4 := ((F_elements_a1.keep K2q nin0).ext E3).same W4      -- the field now holds (.ref b3)
  have K4 : Keep h0 h4 [a1] := K3.wr W4 (Or.inl (List.mem_of_getElem? (i := 0) rfl))
  have N4 := Fr.snoc X4 N2 g_a1
  obtain ⟨fs, hr, hrun, hended, hW, hsame⟩ := X4.leave (v := none) (fun _ => rfl)
  refine ⟨_, _, pre0 _ ?_, hrun, hended, _, _, rfl, ?_, ⟨_, rfl⟩, hW, hsame.mono (by decide) (by decide)⟩
  · show Steps p.tables e below (s₁.setTop (mkF m 0 #[.val (.ref a1)] [])) _
    refine XS.aloadN X0.here hx rfl (hb hby d6_0) rfl rfl ?_
    show Steps p.tables e below (s₁.setTop (mkF m 1 #[.val (.ref a1)] [(.ref a1)])) _
    refine st2.trans ?_
    show Steps p.tables e below (T2.setTop (mkF m 4 #[.val (.ref a1)] [])) _
    refine XS.aloadN X2.here hx rfl (hb hby d6_4) rfl rfl ?_
    show Steps p.tables e below (T2.setTop (mkF m 5 #[.val (.ref a1)] [(.ref a1)])) _
    refine XS.bipush X2.here hx rfl (hb hby d6_5) ?_
    show Steps p.tables e below (T2.setTop (mkF m 7 #[.val (.ref a1)] [(.int (17 : Int32)), (.ref a1)])) _
    refine st3 _ ?_
    show Steps p.tables e below (T3.setTop (mkF m 10 #[.val (.ref a1)] [(.ref b3), (.ref a1)])) _
    refine st4 _ ?_
    show Steps p.tables e below (T4.setTop (mkF m 13 #[.val (.ref a1)] [])) _
    exact X4.returnOut hx Bd.returns (hb hby d6_13) hr
  · show Q6 Z a1 u_elements_a1 h0 n0 _ T4.heap _
    rw [e4]
    exact ⟨rfl, N4, K4⟩
theorem d8_0 : decode prog_55_method_3_code 0 = .ok (.aload_n 0, 1) := by decide +kernel
theorem d8_1 : decode prog_55_method_3_code 1 = .ok (.invokespecial 61, 3) := by decide +kernel
theorem d8_4 : decode prog_55_method_3_code 4 = .ok (.aload_n 0, 1) := by decide +kernel
theorem d8_5 : decode prog_55_method_3_code 5 = .ok (.lload_n 1, 1) := by decide +kernel
theorem d8_6 : decode prog_55_method_3_code 6 = .ok (.putfield 64, 3) := by decide +kernel
theorem d8_9 : decode prog_55_method_3_code 9 = .ok (.aload_n 0, 1) := by decide +kernel
theorem d8_10 : decode prog_55_method_3_code 10 = .ok (.lload_n 3, 1) := by decide +kernel
theorem d8_11 : decode prog_55_method_3_code 11 = .ok (.putfield 68, 3) := by decide +kernel
theorem d8_14 : decode prog_55_method_3_code 14 = .ok (.aload_n 0, 1) := by decide +kernel
theorem d8_15 : decode prog_55_method_3_code 15 = .ok (.aload 5, 2) := by decide +kernel
theorem d8_17 : decode prog_55_method_3_code 17 = .ok (.putfield 71, 3) := by decide +kernel
theorem d8_20 : decode prog_55_method_3_code 20 = .ok (.aload_n 0, 1) := by decide +kernel
theorem d8_21 : decode prog_55_method_3_code 21 = .ok (.aload 6, 2) := by decide +kernel
theorem d8_23 : decode prog_55_method_3_code 23 = .ok (.putfield 75, 3) := by decide +kernel
theorem d8_26 : decode prog_55_method_3_code 26 = .ok (.aload_n 0, 1) := by decide +kernel
theorem d8_27 : decode prog_55_method_3_code 27 = .ok (.lload 7, 2) := by decide +kernel
theorem d8_29 : decode prog_55_method_3_code 29 = .ok (.putfield 79, 3) := by decide +kernel
theorem d8_32 : decode prog_55_method_3_code 32 = .ok (.return_, 1) := by decide +kernel
theorem pn_8 : plainName "com/example/usher/usher/Token" = true := by first | (simp [plainName, overriddenIn]; done) | decide +kernel
theorem ef_8 (m : MethodId) (x0 : Addr) (x1 : Int64) (x2 : Int64) (x3 : Addr) (x4 : Addr) (x5 : Int64) : entryFrame m #[(.ref x0), (.long x1), (.long x2), (.ref x3), (.ref x4), (.long x5)] 9 = mkF m 0 #[.val (.ref x0), .val (.long x1), .second, .val (.long x2), .second, .val (.ref x3), .val (.ref x4), .val (.long x5), .second] [] := by first | (simp [entryFrame, mkF, argsToLocals, Value.category]; done) | rfl
def Q8 (Z : State) (a1 : Addr) (q2 : Int64) (q3 : Int64) (a4 : Addr) (a5 : Addr) (q6 : Int64) (u_start_a1 : Value) (u_grants_a1 : Value) (u_granted_a1 : Value) (u_queue_a1 : Value) (u_epoch_a1 : Value) (h0 : Heap) (n0 : Nat) (v : Option Value) (h : Heap) (L : List Loc) : Prop := v = none ∧ Fr n0 L ∧ Keep h0 h [a1] ∧ Exa Z h a1 "com/example/usher/usher/Token" ∧ Fld Z h a1 "com/example/usher/usher/Token" "start" "J" (.long q2) ∧ Fld Z h a1 "com/example/usher/usher/Token" "grants" "J" (.long q3) ∧ Fld Z h a1 "com/example/usher/usher/Token" "granted" "Ljava/util/Map;" (.ref a4) ∧ Fld Z h a1 "com/example/usher/usher/Token" "queue" "Ljava/util/Deque;" (.ref a5) ∧ Fld Z h a1 "com/example/usher/usher/Token" "epoch" "J" (.long q6)
set_option maxRecDepth 65536 in
set_option maxHeartbeats 40000000 in
theorem rm8 (l : Launch) (Z : State) (a0 : Array Value) (hw : ∀ d ∈ tables_1, d.before a0 Z = true) (ws : List Jvm.Cond) (a1 : Addr) (q2 : Int64) (q3 : Int64) (a4 : Addr) (a5 : Addr) (q6 : Int64) (u_start_a1 : Value) (u_grants_a1 : Value) (u_granted_a1 : Value) (u_queue_a1 : Value) (u_epoch_a1 : Value) (h0 : Heap) (n0 : Nat) (Z0 : n0 ≤ h0.size) (E_a1 : Exa Z h0 a1 "com/example/usher/usher/Token") (F_start_a1 : Fld Z h0 a1 "com/example/usher/usher/Token" "start" "J" u_start_a1) (g_a1 : n0 ≤ a1) (F_grants_a1 : Fld Z h0 a1 "com/example/usher/usher/Token" "grants" "J" u_grants_a1) (F_granted_a1 : Fld Z h0 a1 "com/example/usher/usher/Token" "granted" "Ljava/util/Map;" u_granted_a1) (F_queue_a1 : Fld Z h0 a1 "com/example/usher/usher/Token" "queue" "Ljava/util/Deque;" u_queue_a1) (F_epoch_a1 : Fld Z h0 a1 "com/example/usher/usher/Token" "epoch" "J" u_epoch_a1) :
    MetFree l (⟨"com/example/usher/usher/Token", "<init>", "(JJLjava/util/Map;Ljava/util/Deque;J)V"⟩ : MethodName) (head1 (Jvm.Cond.code (⟨"com/example/usher/usher/Token", "<init>", "(JJLjava/util/Map;Ljava/util/Deque;J)V"⟩ : MethodName) prog_55_method_3_code 9 none :: ws) ({ frames := 1, cells := 0, slots := 0, locals := 12 } : Room)) (fun a U => a = #[(.ref a1), (.long q2), (.long q3), (.ref a4), (.ref a5), (.long q6)] ∧ Z.Warmed39 U.vm ∧ U.heap = h0) (fun _ _ _ _ _ => True) (fun _ U o U' => ∃ v L, o = .returned v ∧ Q8 Z a1 q2 q3 a4 a5 q6 u_start_a1 u_grants_a1 u_granted_a1 u_queue_a1 u_epoch_a1 h0 n0 v U'.heap L ∧ FrameEnd U o U' L ({ frames := 1, cells := 0, slots := 0, locals := 12 } : Room).cells ({ frames := 1, cells := 0, slots := 0, locals := 12 } : Room).slots) := by
  refine MetFree.of_bodySF (plainFor_of_name pn_8) hisR ?_
  intro p e s m args below meth c s₁ Bd hml0 hP hK
  obtain ⟨rfl, hZ, hh⟩ := hP
  have hx := Bd.exec
  have hby := Bd.bytes
  have hml : c.maxLocals = 9 := hml0
  have hown : s.vm.findClass "com/example/usher/usher/Token" = some m.cls := findClass_of_methodNamed Bd.named
  have hnm := (name_of_methodNamed Bd.named Bd.method).1
  have X0 : Stand p l e ({ frames := 1, cells := 0, slots := 0, locals := 12 } : Room) s m #[(.ref a1), (.long q2), (.long q3), (.ref a4), (.ref a5), (.long q6)] below meth c s₁ [] 0 0 := Stand.of_body Bd
  have e0 : s₁.heap = h0 := by rw [← hh, Bd.state]; rfl
  have N0 := Fr.nil n0
  have pre0 : ∀ t, Steps p.tables e below (s₁.setTop (mkF m 0 #[.val (.ref a1), .val (.long q2), .second, .val (.long q3), .second, .val (.ref a4), .val (.ref a5), .val (.long q6), .second] [])) t → Steps p.tables e below (s₁.setTop (entryFrame m #[(.ref a1), (.long q2), (.long q3), (.ref a4), (.ref a5), (.long q6)] 9)) t := fun t k => castTop (ef_8 m a1 q2 q3 a4 a5 q6) k
  obtain ⟨T7, X7, e7, st7⟩ := initO X0 hx hZ hown (hw _ (List.mem_of_getElem? (i := 55) rfl)) (hw _ (List.mem_of_getElem? (i := 27) rfl)) (hw _ (List.mem_of_getElem? (i := 28) rfl)) e0 (g := (mkF m 1 #[.val (.ref a1), .val (.long q2), .second, .val (.long q3), .second, .val (.ref a4), .val (.ref a5), .val (.long q6), .second] [(.ref a1)])) rfl (by rw [hml]; rfl) rfl (hb hby d8_1) (by decide) (W := 0) (by show 2 * 0 + _ ≤ _; exact Nat.le_of_eq rfl) (by decide)
  obtain ⟨T8, h8, X8, e8, W8, st8⟩ := putF X7 hx hZ hown (host := "") (Or.inl (hw _ (List.mem_of_getElem? (i := 56) rfl))) Via.refl e7 F_start_a1 E_a1 (Or.inr ⟨(hw _ (List.mem_of_getElem? (i := 57) rfl)), rfl, hnm⟩) (hw _ (List.mem_of_getElem? (i := 9) rfl)) (ty := .long) (by decide) rfl rfl (g := (mkF m 6 #[.val (.ref a1), .val (.long q2), .second, .val (.long q3), .second, .val (.ref a4), .val (.ref a5), .val (.long q6), .second] [(.long q2), (.ref a1)])) rfl rfl (hb hby d8_6)
  have Fw8 := F_start_a1.same W8      -- the field now holds (.long q2)
  have K8 : Keep h0 h8 [a1] := (Keep.refl h0 [a1]).wr W8 (Or.inl (List.mem_of_getElem? (i := 0) rfl))
  have N8 := Fr.snoc X8 N0 g_a1
  obtain ⟨T9, h9, X9, e9, W9, st9⟩ := putF X8 hx hZ hown (host := "") (Or.inl (hw _ (List.mem_of_getElem? (i := 58) rfl))) Via.refl e8 (F_grants_a1.other W8 (Or.inr (slot_ne (Or.inl (hw _ (List.mem_of_getElem? (i := 59) rfl))) (Or.inr (hw _ (List.mem_of_getElem? (i := 57) rfl))) (by decide) (t := .long) (t' := .long) (by decide) (by decide)))) (E_a1.wr W8) (Or.inl (hw _ (List.mem_of_getElem? (i := 59) rfl))) (hw _ (List.mem_of_getElem? (i := 9) rfl)) (ty := .long) (by decide) rfl rfl (g := (mkF m 11 #[.val (.ref a1), .val (.long q2), .second, .val (.long q3), .second, .val (.ref a4), .val (.ref a5), .val (.long q6), .second] [(.long q3), (.ref a1)])) rfl rfl (hb hby d8_11)
  have Fw9 := (F_grants_a1.other W8 (Or.inr (slot_ne (Or.inl (hw _ (List.mem_of_getElem? (i := 59) rfl))) (Or.inr (hw _ (List.mem_of_getElem? (i := 57) rfl))) (by decide) (t := .long) (t' := .long) (by decide) (by decide)))).same W9      -- the field now holds (.long q3)
  have K9 : Keep h0 h9 [a1] := K8.wr W9 (Or.inl (List.mem_of_getElem? (i := 0) rfl))
  have N9 := Fr.snoc X9 N8 g_a1
  obtain ⟨T10, h10, X10, e10, W10, st10⟩ := putF X9 hx hZ hown (host := "") (Or.inl (hw _ (List.mem_of_getElem? (i := 60) rfl))) Via.refl e9 ((F_granted_a1.other W8 (Or.inr (slot_ne (Or.inr (hw _ (List.mem_of_getElem? (i := 61) rfl))) (Or.inr (hw _ (List.mem_of_getElem? (i := 57) rfl))) (by decide) (t := (.object "java/util/Map")) (t' := .long) (by decide) (by decide)))).other W9 (Or.inr (slot_ne (Or.inr (hw _ (List.mem_of_getElem? (i := 61) rfl))) (Or.inl (hw _ (List.mem_of_getElem? (i := 59) rfl))) (by decide) (t := (.object "java/util/Map")) (t' := .long) (by decide) (by decide)))) ((E_a1.wr W8).wr W9) (Or.inr ⟨(hw _ (List.mem_of_getElem? (i := 61) rfl)), rfl, hnm⟩) (hw _ (List.mem_of_getElem? (i := 9) rfl)) (ty := (.object "java/util/Map")) (by decide) rfl rfl (g := (mkF m 17 #[.val (.ref a1), .val (.long q2), .second, .val (.long q3), .second, .val (.ref a4), .val (.ref a5), .val (.long q6), .second] [(.ref a4), (.ref a1)])) rfl rfl (hb hby d8_17)
  have Fw10 := ((F_granted_a1.other W8 (Or.inr (slot_ne (Or.inr (hw _ (List.mem_of_getElem? (i := 61) rfl))) (Or.inr (hw _ (List.mem_of_getElem? (i := 57) rfl))) (by decide) (t := (.object "java/util/Map")) (t' := .long) (by decide) (by decide)))).other W9 (Or.inr (slot_ne (Or.inr (hw _ (List.mem_of_getElem? (i := 61) rfl))) (Or.inl (hw _ (List.mem_of_getElem? (i := 59) rfl))) (by decide) (t := (.object "java/util/Map")) (t' := .long) (by decide) (by decide)))).same W10      -- the field now holds (.ref a4)
  have K10 : Keep h0 h10 [a1] := K9.wr W10 (Or.inl (List.mem_of_getElem? (i := 0) rfl))
  have N10 := Fr.snoc X10 N9 g_a1
  obtain ⟨T11, h11, X11, e11, W11, st11⟩ := putF X10 hx hZ hown (host := "") (Or.inl (hw _ (List.mem_of_getElem? (i := 62) rfl))) Via.refl e10 (((F_queue_a1.other W8 (Or.inr (slot_ne (Or.inr (hw _ (List.mem_of_getElem? (i := 63) rfl))) (Or.inr (hw _ (List.mem_of_getElem? (i := 57) rfl))) (by decide) (t := (.object "java/util/Deque")) (t' := .long) (by decide) (by decide)))).other W9 (Or.inr (slot_ne (Or.inr (hw _ (List.mem_of_getElem? (i := 63) rfl))) (Or.inl (hw _ (List.mem_of_getElem? (i := 59) rfl))) (by decide) (t := (.object "java/util/Deque")) (t' := .long) (by decide) (by decide)))).other W10 (Or.inr (slot_ne (Or.inr (hw _ (List.mem_of_getElem? (i := 63) rfl))) (Or.inr (hw _ (List.mem_of_getElem? (i := 61) rfl))) (by decide) (t := (.object "java/util/Deque")) (t' := (.object "java/util/Map")) (by decide) (by decide)))) (((E_a1.wr W8).wr W9).wr W10) (Or.inr ⟨(hw _ (List.mem_of_getElem? (i := 63) rfl)), rfl, hnm⟩) (hw _ (List.mem_of_getElem? (i := 9) rfl)) (ty := (.object "java/util/Deque")) (by decide) rfl rfl (g := (mkF m 23 #[.val (.ref a1), .val (.long q2), .second, .val (.long q3), .second, .val (.ref a4), .val (.ref a5), .val (.long q6), .second] [(.ref a5), (.ref a1)])) rfl rfl (hb hby d8_23)
  have Fw11 := (((F_queue_a1.other W8 (Or.inr (slot_ne (Or.inr (hw _ (List.mem_of_getElem? (i := 63) rfl))) (Or.inr (hw _ (List.mem_of_getElem? (i := 57) rfl))) (by decide) (t := (.object "java/util/Deque")) (t' := .long) (by decide) (by decide)))).other W9 (Or.inr (slot_ne (Or.inr (hw _ (List.mem_of_getElem? (i := 63) rfl))) (Or.inl (hw _ (List.mem_of_getElem? (i := 59) rfl))) (by decide) (t := (.object "java/util/Deque")) (t' := .long) (by decide) (by decide)))).other W10 (Or.inr (slot_ne (Or.inr (hw _ (List.mem_of_getElem? (i := 63) rfl))) (Or.inr (hw _ (List.mem_of_getElem? (i := 61) rfl))) (by decide) (t := (.object "java/util/Deque")) (t' := (.object "java/util/Map")) (by decide) (by decide)))).same W11      -- the field now holds (.ref a5)
  have K11 : Keep h0 h11 [a1] := K10.wr W11 (Or.inl (List.mem_of_getElem? (i := 0) rfl))
  have N11 := Fr.snoc X11 N10 g_a1
  obtain ⟨T12, h12, X12, e12, W12, st12⟩ := putF X11 hx hZ hown (host := "") (Or.inl (hw _ (List.mem_of_getElem? (i := 64) rfl))) Via.refl e11 ((((F_epoch_a1.other W8 (Or.inr (slot_ne (Or.inl (hw _ (List.mem_of_getElem? (i := 65) rfl))) (Or.inr (hw _ (List.mem_of_getElem? (i := 57) rfl))) (by decide) (t := .long) (t' := .long) (by decide) (by decide)))).other W9 (Or.inr (slot_ne (Or.inl (hw _ (List.mem_of_getElem? (i := 65) rfl))) (Or.inl (hw _ (List.mem_of_getElem? (i := 59) rfl))) (by decide) (t := .long) (t' := .long) (by decide) (by decide)))).other W10 (Or.inr (slot_ne (Or.inl (hw _ (List.mem_of_getElem? (i := 65) rfl))) (Or.inr (hw _ (List.mem_of_getElem? (i := 61) rfl))) (by decide) (t := .long) (t' := (.object "java/util/Map")) (by decide) (by decide)))).other W11 (Or.inr (slot_ne (Or.inl (hw _ (List.mem_of_getElem? (i := 65) rfl))) (Or.inr (hw _ (List.mem_of_getElem? (i := 63) rfl))) (by decide) (t := .long) (t' := (.object "java/util/Deque")) (by decide) (by decide)))) ((((E_a1.wr W8).wr W9).wr W10).wr W11) (Or.inl (hw _ (List.mem_of_getElem? (i := 65) rfl))) (hw _ (List.mem_of_getElem? (i := 9) rfl)) (ty := .long) (by decide) rfl rfl (g := (mkF m 29 #[.val (.ref a1), .val (.long q2), .second, .val (.long q3), .second, .val (.ref a4), .val (.ref a5), .val (.long q6), .second] [(.long q6), (.ref a1)])) rfl rfl (hb hby d8_29)
  have Fw12 := ((((F_epoch_a1.other W8 (Or.inr (slot_ne (Or.inl (hw _ (List.mem_of_getElem? (i := 65) rfl))) (Or.inr (hw _ (List.mem_of_getElem? (i := 57) rfl))) (by decide) (t := .long) (t' := .long) (by decide) (by decide)))).other W9 (Or.inr (slot_ne (Or.inl (hw _ (List.mem_of_getElem? (i := 65) rfl))) (Or.inl (hw _ (List.mem_of_getElem? (i := 59) rfl))) (by decide) (t := .long) (t' := .long) (by decide) (by decide)))).other W10 (Or.inr (slot_ne (Or.inl (hw _ (List.mem_of_getElem? (i := 65) rfl))) (Or.inr (hw _ (List.mem_of_getElem? (i := 61) rfl))) (by decide) (t := .long) (t' := (.object "java/util/Map")) (by decide) (by decide)))).other W11 (Or.inr (slot_ne (Or.inl (hw _ (List.mem_of_getElem? (i := 65) rfl))) (Or.inr (hw _ (List.mem_of_getElem? (i := 63) rfl))) (by decide) (t := .long) (t' := (.object "java/util/Deque")) (by decide) (by decide)))).same W12      -- the field now holds (.long q6)
  have K12 : Keep h0 h12 [a1] := K11.wr W12 (Or.inl (List.mem_of_getElem? (i := 0) rfl))
  have N12 := Fr.snoc X12 N11 g_a1
  obtain ⟨fs, hr, hrun, hended, hW, hsame⟩ := X12.leave (v := none) (fun _ => rfl)
  refine ⟨_, _, pre0 _ ?_, hrun, hended, _, _, rfl, ?_, ⟨_, rfl⟩, hW, hsame.mono (by decide) (by decide)⟩
  · show Steps p.tables e below (s₁.setTop (mkF m 0 #[.val (.ref a1), .val (.long q2), .second, .val (.long q3), .second, .val (.ref a4), .val (.ref a5), .val (.long q6), .second] [])) _
    refine XS.aloadN X0.here hx rfl (hb hby d8_0) rfl rfl ?_
    show Steps p.tables e below (s₁.setTop (mkF m 1 #[.val (.ref a1), .val (.long q2), .second, .val (.long q3), .second, .val (.ref a4), .val (.ref a5), .val (.long q6), .second] [(.ref a1)])) _
    refine st7 _ ?_
    show Steps p.tables e below (T7.setTop (mkF m 4 #[.val (.ref a1), .val (.long q2), .second, .val (.long q3), .second, .val (.ref a4), .val (.ref a5), .val (.long q6), .second] [])) _
    refine XS.aloadN X7.here hx rfl (hb hby d8_4) rfl rfl ?_
    show Steps p.tables e below (T7.setTop (mkF m 5 #[.val (.ref a1), .val (.long q2), .second, .val (.long q3), .second, .val (.ref a4), .val (.ref a5), .val (.long q6), .second] [(.ref a1)])) _
    refine XS.lloadN X7.here hx rfl (hb hby d8_5) rfl ?_
    show Steps p.tables e below (T7.setTop (mkF m 6 #[.val (.ref a1), .val (.long q2), .second, .val (.long q3), .second, .val (.ref a4), .val (.ref a5), .val (.long q6), .second] [(.long q2), (.ref a1)])) _
    refine st8 _ ?_
    show Steps p.tables e below (T8.setTop (mkF m 9 #[.val (.ref a1), .val (.long q2), .second, .val (.long q3), .second, .val (.ref a4), .val (.ref a5), .val (.long q6), .second] [])) _
    refine XS.aloadN X8.here hx rfl (hb hby d8_9) rfl rfl ?_
    show Steps p.tables e below (T8.setTop (mkF m 10 #[.val (.ref a1), .val (.long q2), .second, .val (.long q3), .second, .val (.ref a4), .val (.ref a5), .val (.long q6), .second] [(.ref a1)])) _
    refine XS.lloadN X8.here hx rfl (hb hby d8_10) rfl ?_
    show Steps p.tables e below (T8.setTop (mkF m 11 #[.val (.ref a1), .val (.long q2), .second, .val (.long q3), .second, .val (.ref a4), .val (.ref a5), .val (.long q6), .second] [(.long q3), (.ref a1)])) _
    refine st9 _ ?_
    show Steps p.tables e below (T9.setTop (mkF m 14 #[.val (.ref a1), .val (.long q2), .second, .val (.long q3), .second, .val (.ref a4), .val (.ref a5), .val (.long q6), .second] [])) _
    refine XS.aloadN X9.here hx rfl (hb hby d8_14) rfl rfl ?_
    show Steps p.tables e below (T9.setTop (mkF m 15 #[.val (.ref a1), .val (.long q2), .second, .val (.long q3), .second, .val (.ref a4), .val (.ref a5), .val (.long q6), .second] [(.ref a1)])) _
    refine XS.aload X9.here hx rfl (hb hby d8_15) rfl rfl ?_
    show Steps p.tables e below (T9.setTop (mkF m 17 #[.val (.ref a1), .val (.long q2), .second, .val (.long q3), .second, .val (.ref a4), .val (.ref a5), .val (.long q6), .second] [(.ref a4), (.ref a1)])) _
    refine st10 _ ?_
    show Steps p.tables e below (T10.setTop (mkF m 20 #[.val (.ref a1), .val (.long q2), .second, .val (.long q3), .second, .val (.ref a4), .val (.ref a5), .val (.long q6), .second] [])) _
    refine XS.aloadN X10.here hx rfl (hb hby d8_20) rfl rfl ?_
    show Steps p.tables e below (T10.setTop (mkF m 21 #[.val (.ref a1), .val (.long q2), .second, .val (.long q3), .second, .val (.ref a4), .val (.ref a5), .val (.long q6), .second] [(.ref a1)])) _
    refine XS.aload X10.here hx rfl (hb hby d8_21) rfl rfl ?_
    show Steps p.tables e below (T10.setTop (mkF m 23 #[.val (.ref a1), .val (.long q2), .second, .val (.long q3), .second, .val (.ref a4), .val (.ref a5), .val (.long q6), .second] [(.ref a5), (.ref a1)])) _
    refine st11 _ ?_
    show Steps p.tables e below (T11.setTop (mkF m 26 #[.val (.ref a1), .val (.long q2), .second, .val (.long q3), .second, .val (.ref a4), .val (.ref a5), .val (.long q6), .second] [])) _
    refine XS.aloadN X11.here hx rfl (hb hby d8_26) rfl rfl ?_
    show Steps p.tables e below (T11.setTop (mkF m 27 #[.val (.ref a1), .val (.long q2), .second, .val (.long q3), .second, .val (.ref a4), .val (.ref a5), .val (.long q6), .second] [(.ref a1)])) _
    refine XS.lload X11.here hx rfl (hb hby d8_27) rfl ?_
    show Steps p.tables e below (T11.setTop (mkF m 29 #[.val (.ref a1), .val (.long q2), .second, .val (.long q3), .second, .val (.ref a4), .val (.ref a5), .val (.long q6), .second] [(.long q6), (.ref a1)])) _
    refine st12 _ ?_
    show Steps p.tables e below (T12.setTop (mkF m 32 #[.val (.ref a1), .val (.long q2), .second, .val (.long q3), .second, .val (.ref a4), .val (.ref a5), .val (.long q6), .second] [])) _
    exact X12.returnOut hx Bd.returns (hb hby d8_32) hr
  · show Q8 Z a1 q2 q3 a4 a5 q6 u_start_a1 u_grants_a1 u_granted_a1 u_queue_a1 u_epoch_a1 h0 n0 _ T12.heap _
    rw [e12]
    exact ⟨rfl, N12, K12, (((((E_a1.wr W8).wr W9).wr W10).wr W11).wr W12), ((((Fw8.other W9 (Or.inr (slot_ne (Or.inr (hw _ (List.mem_of_getElem? (i := 57) rfl))) (Or.inl (hw _ (List.mem_of_getElem? (i := 59) rfl))) (by decide) (t := .long) (t' := .long) (by decide) (by decide)))).other W10 (Or.inr (slot_ne (Or.inr (hw _ (List.mem_of_getElem? (i := 57) rfl))) (Or.inr (hw _ (List.mem_of_getElem? (i := 61) rfl))) (by decide) (t := .long) (t' := (.object "java/util/Map")) (by decide) (by decide)))).other W11 (Or.inr (slot_ne (Or.inr (hw _ (List.mem_of_getElem? (i := 57) rfl))) (Or.inr (hw _ (List.mem_of_getElem? (i := 63) rfl))) (by decide) (t := .long) (t' := (.object "java/util/Deque")) (by decide) (by decide)))).other W12 (Or.inr (slot_ne (Or.inr (hw _ (List.mem_of_getElem? (i := 57) rfl))) (Or.inl (hw _ (List.mem_of_getElem? (i := 65) rfl))) (by decide) (t := .long) (t' := .long) (by decide) (by decide)))), (((Fw9.other W10 (Or.inr (slot_ne (Or.inl (hw _ (List.mem_of_getElem? (i := 59) rfl))) (Or.inr (hw _ (List.mem_of_getElem? (i := 61) rfl))) (by decide) (t := .long) (t' := (.object "java/util/Map")) (by decide) (by decide)))).other W11 (Or.inr (slot_ne (Or.inl (hw _ (List.mem_of_getElem? (i := 59) rfl))) (Or.inr (hw _ (List.mem_of_getElem? (i := 63) rfl))) (by decide) (t := .long) (t' := (.object "java/util/Deque")) (by decide) (by decide)))).other W12 (Or.inr (slot_ne (Or.inl (hw _ (List.mem_of_getElem? (i := 59) rfl))) (Or.inl (hw _ (List.mem_of_getElem? (i := 65) rfl))) (by decide) (t := .long) (t' := .long) (by decide) (by decide)))), ((Fw10.other W11 (Or.inr (slot_ne (Or.inr (hw _ (List.mem_of_getElem? (i := 61) rfl))) (Or.inr (hw _ (List.mem_of_getElem? (i := 63) rfl))) (by decide) (t := (.object "java/util/Map")) (t' := (.object "java/util/Deque")) (by decide) (by decide)))).other W12 (Or.inr (slot_ne (Or.inr (hw _ (List.mem_of_getElem? (i := 61) rfl))) (Or.inl (hw _ (List.mem_of_getElem? (i := 65) rfl))) (by decide) (t := (.object "java/util/Map")) (t' := .long) (by decide) (by decide)))), (Fw11.other W12 (Or.inr (slot_ne (Or.inr (hw _ (List.mem_of_getElem? (i := 63) rfl))) (Or.inl (hw _ (List.mem_of_getElem? (i := 65) rfl))) (by decide) (t := (.object "java/util/Deque")) (t' := .long) (by decide) (by decide)))), Fw12⟩
theorem own_into {h0 h h' : Heap} {ws : List Addr} (K : Keep h0 h []) (K' : Keep h h' ws) : Keep h0 h' ws := by
  refine ⟨Nat.le_trans K.1 K'.1, fun x c q r => K'.2.1 x c (K.2.1 x c q nin0) r, fun x c q => ?_⟩
  exact K'.2.2 x c (K.2.1 x c q nin0)
theorem d2_0 : decode prog_55_method_1_code 0 = .ok (.aload_n 0, 1) := by decide +kernel
theorem d2_1 : decode prog_55_method_1_code 1 = .ok (.lload_n 1, 1) := by decide +kernel
theorem d2_2 : decode prog_55_method_1_code 2 = .ok (.lload_n 1, 1) := by decide +kernel
theorem d2_3 : decode prog_55_method_1_code 3 = .ok (.new 1, 3) := by decide +kernel
theorem d2_6 : decode prog_55_method_1_code 6 = .ok (.dup, 1) := by decide +kernel
theorem d2_7 : decode prog_55_method_1_code 7 = .ok (.invokespecial 3, 3) := by decide +kernel
theorem d2_10 : decode prog_55_method_1_code 10 = .ok (.new 7, 3) := by decide +kernel
theorem d2_13 : decode prog_55_method_1_code 13 = .ok (.dup, 1) := by decide +kernel
theorem d2_14 : decode prog_55_method_1_code 14 = .ok (.invokespecial 9, 3) := by decide +kernel
theorem d2_17 : decode prog_55_method_1_code 17 = .ok (.lconst 0, 1) := by decide +kernel
theorem d2_18 : decode prog_55_method_1_code 18 = .ok (.invokespecial 10, 3) := by decide +kernel
theorem d2_21 : decode prog_55_method_1_code 21 = .ok (.return_, 1) := by decide +kernel
theorem pn_2 : plainName "com/example/usher/usher/Token" = true := by first | (simp [plainName, overriddenIn]; done) | decide +kernel
theorem pd_2_2 : parseMethodDescriptor "()V" = some ⟨[], none⟩ := by decide +kernel
theorem pd_2_3 : parseMethodDescriptor "(JJLjava/util/Map;Ljava/util/Deque;J)V" = some ⟨[.long, .long, (.object "java/util/Map"), (.object "java/util/Deque"), .long], none⟩ := by decide +kernel
theorem ef_2 (m : MethodId) (x0 : Addr) (x1 : Int64) : entryFrame m #[(.ref x0), (.long x1)] 3 = mkF m 0 #[.val (.ref x0), .val (.long x1), .second] [] := by first | (simp [entryFrame, mkF, argsToLocals, Value.category]; done) | rfl
def Q2 (Z : State) (a1 : Addr) (q2 : Int64) (h0 : Heap) (n0 : Nat) (v : Option Value) (h : Heap) (L : List Loc) : Prop := v = none ∧ Fr n0 L ∧ Keep h0 h [a1] ∧ Exa Z h a1 "com/example/usher/usher/Token" ∧ Fld Z h a1 "com/example/usher/usher/Token" "grants" "J" (.long q2)
set_option maxRecDepth 65536 in
set_option maxHeartbeats 40000000 in
theorem rm2 (l : Launch) (Z : State) (a0 : Array Value) (hw : ∀ d ∈ tables_1, d.before a0 Z = true) (ws : List Jvm.Cond) (a1 : Addr) (q2 : Int64) (h0 : Heap) (n0 : Nat) (Z0 : n0 ≤ h0.size) (E_a1 : Exa Z h0 a1 "com/example/usher/usher/Token") (g_a1 : n0 ≤ a1) (F_start_a1 : Fld Z h0 a1 "com/example/usher/usher/Token" "start" "J" (.long (0 : Int64))) (F_grants_a1 : Fld Z h0 a1 "com/example/usher/usher/Token" "grants" "J" (.long (0 : Int64))) (F_granted_a1 : Fld Z h0 a1 "com/example/usher/usher/Token" "granted" "Ljava/util/Map;" .null) (F_queue_a1 : Fld Z h0 a1 "com/example/usher/usher/Token" "queue" "Ljava/util/Deque;" .null) (F_epoch_a1 : Fld Z h0 a1 "com/example/usher/usher/Token" "epoch" "J" (.long (0 : Int64))) :
    MetFree l (⟨"com/example/usher/usher/Token", "<init>", "(J)V"⟩ : MethodName) (head1 (Jvm.Cond.code (⟨"com/example/usher/usher/Token", "<init>", "(J)V"⟩ : MethodName) prog_55_method_1_code 3 none :: ws) ({ frames := 3, cells := 3, slots := 29, locals := 43 } : Room)) (fun a U => a = #[(.ref a1), (.long q2)] ∧ Z.Warmed39 U.vm ∧ U.heap = h0) (fun _ _ _ _ _ => True) (fun _ U o U' => ∃ v L, o = .returned v ∧ Q2 Z a1 q2 h0 n0 v U'.heap L ∧ FrameEnd U o U' L ({ frames := 3, cells := 3, slots := 29, locals := 43 } : Room).cells ({ frames := 3, cells := 3, slots := 29, locals := 43 } : Room).slots) := by
  refine MetFree.of_bodySF (plainFor_of_name pn_2) hisR ?_
  intro p e s m args below meth c s₁ Bd hml0 hP hK
  obtain ⟨rfl, hZ, hh⟩ := hP
  have hx := Bd.exec
  have hby := Bd.bytes
  have hml : c.maxLocals = 3 := hml0
  have hown : s.vm.findClass "com/example/usher/usher/Token" = some m.cls := findClass_of_methodNamed Bd.named
  have hnm := (name_of_methodNamed Bd.named Bd.method).1
  have X0 : Stand p l e ({ frames := 3, cells := 3, slots := 29, locals := 43 } : Room) s m #[(.ref a1), (.long q2)] below meth c s₁ [] 0 0 := Stand.of_body Bd
  have e0 : s₁.heap = h0 := by rw [← hh, Bd.state]; rfl
  have N0 := Fr.nil n0
  have pre0 : ∀ t, Steps p.tables e below (s₁.setTop (mkF m 0 #[.val (.ref a1), .val (.long q2), .second] [])) t → Steps p.tables e below (s₁.setTop (entryFrame m #[(.ref a1), (.long q2)] 3)) t := fun t k => castTop (ef_2 m a1 q2) k
  obtain ⟨T3, h3, X3, e3, E3, A3, D3, -, st3⟩ := newO X0 hx hZ hown (hw _ (List.mem_of_getElem? (i := 14) rfl)) (hw _ (List.mem_of_getElem? (i := 15) rfl)) (hw _ (List.mem_of_getElem? (i := 16) rfl)) e0 (g := (mkF m 3 #[.val (.ref a1), .val (.long q2), .second] [(.long q2), (.long q2), (.ref a1)])) rfl (hb hby d2_3) (by decide) (by decide)
  obtain ⟨b3, g3⟩ : ∃ z, z = h0.size := ⟨_, rfl⟩      -- the fresh object's address
  rw [← g3] at A3 D3 st3      -- A3 : Exa Z h3 b3 "java/util/TreeMap"; E3 : Ext h0 h3 (carries every older fact: .ext E3)
  have F_size_b3 : Fld Z h3 b3 "java/util/TreeMap" "size" "I" (.int (0 : Int32)) := D3 (Or.inl (hw _ (List.mem_of_getElem? (i := 30) rfl))) (ty := .int) (by decide)
  have F_modCount_b3 : Fld Z h3 b3 "java/util/TreeMap" "modCount" "I" (.int (0 : Int32)) := D3 (Or.inl (hw _ (List.mem_of_getElem? (i := 32) rfl))) (ty := .int) (by decide)
  have F_comparator_b3 : Fld Z h3 b3 "java/util/TreeMap" "comparator" "Ljava/util/Comparator;" .null := D3 (Or.inr (hw _ (List.mem_of_getElem? (i := 34) rfl))) (ty := (.object "java/util/Comparator")) (by decide)
  have E_b3 := A3
  have g_b3 : n0 ≤ b3 := Nat.le_trans Z0 (Nat.le_of_eq g3.symm)
  have sz_b3 : h0.size ≤ b3 := (Nat.le_trans (Keep.refl h0 []).1 (Nat.le_of_eq g3.symm))
  have K3 : Keep h0 h3 [] := (Keep.refl h0 []).ext E3
  obtain ⟨_, _, ⟨T4, L4, k4, n4⟩, -, X4, ⟨Lc4, hQ4, l4, y4, z4⟩, st4⟩ := X3.specialBack hx (y := (⟨"java/util/TreeMap", "<init>", "()V"⟩ : MethodName)) rfl hown (mvT hZ (hw _ (List.mem_of_getElem? (i := 17) rfl))) (mvT hZ (hw _ (List.mem_of_getElem? (i := 18) rfl))) (mvT hZ (hw _ (List.mem_of_getElem? (i := 19) rfl))) (by decide) (backOf (W := 6) (rm3 l Z a0 hw [] b3 (.int (0 : Int32)) (.int (0 : Int32)) .null h3 n0 (Nat.le_trans Z0 E3.1) E_b3 F_size_b3 g_b3 F_modCount_b3 F_comparator_b3) hZ (hw _ (List.mem_of_getElem? (i := 19) rfl)) (hw _ (List.mem_of_getElem? (i := 16) rfl)) (by decide) (by decide)) (g := (mkF m 7 #[.val (.ref a1), .val (.long q2), .second] [(.ref b3), (.ref b3), (.long q2), (.long q2), (.ref a1)])) rfl (by rw [hml]; rfl) (Steps.refl _) (a := b3) (argsL := []) (rest := [(.ref b3), (.long q2), (.long q2), (.ref a1)]) (lenOf pd_2_2 rfl) rfl (by show 2 * 0 + _ ≤ _; exact Nat.le_of_eq rfl) (hb hby d2_7) (fun _ _ => ⟨rfl, e3, (by decide : 1 + 0 ≤ _), (by decide : 9 + 0 ≤ _)⟩)
  dsimp only [Pt.U, Pt.locs, Pt.cells, Pt.slots] at X4 l4 y4 z4 st4 hQ4
  subst l4 y4 z4
  obtain ⟨rfl, N4q, K4q⟩ := hQ4
  have K04 : Keep h0 T4.heap [] := K3.trans K4q (allS (Or.inr sz_b3) all0)
  have N4 := Fr.app N0 N4q
  obtain ⟨T5, h5, X5, e5, E5, A5, D5, -, st5⟩ := newO X4 hx hZ hown (hw _ (List.mem_of_getElem? (i := 35) rfl)) (hw _ (List.mem_of_getElem? (i := 36) rfl)) (hw _ (List.mem_of_getElem? (i := 37) rfl)) rfl (g := (mkF m 10 #[.val (.ref a1), .val (.long q2), .second] [(.ref b3), (.long q2), (.long q2), (.ref a1)])) rfl (hb hby d2_10) (by decide) (by decide)
  obtain ⟨b5, g5⟩ : ∃ z, z = T4.heap.size := ⟨_, rfl⟩      -- the fresh object's address
  rw [← g5] at A5 D5 st5      -- A5 : Exa Z h5 b5 "java/util/ArrayDeque"; E5 : Ext T4.heap h5 (carries every older fact: .ext E5)
  have F_elements_b5 : Fld Z h5 b5 "java/util/ArrayDeque" "elements" "[Ljava/lang/Object;" .null := D5 (Or.inl (hw _ (List.mem_of_getElem? (i := 51) rfl))) (ty := (.array (.object "java/lang/Object"))) (by decide)
  have E_b5 := A5
  have g_b5 : n0 ≤ b5 := Nat.le_trans (Nat.le_trans (Nat.le_trans Z0 E3.1) K4q.1) (Nat.le_of_eq g5.symm)
  have sz_b5 : h0.size ≤ b5 := (Nat.le_trans K04.1 (Nat.le_of_eq g5.symm))
  have K5 : Keep h0 h5 [] := K04.ext E5
  obtain ⟨_, _, ⟨T6, L6, k6, n6⟩, -, X6, ⟨Lc6, hQ6, l6, y6, z6⟩, st6⟩ := X5.specialBack hx (y := (⟨"java/util/ArrayDeque", "<init>", "()V"⟩ : MethodName)) rfl hown (mvT hZ (hw _ (List.mem_of_getElem? (i := 38) rfl))) (mvT hZ (hw _ (List.mem_of_getElem? (i := 39) rfl))) (mvT hZ (hw _ (List.mem_of_getElem? (i := 40) rfl))) (by decide) (backOf (W := 7) (rm6 l Z a0 hw [] b5 .null h5 n0 (Nat.le_trans Z0 K5.1) E_b5 F_elements_b5 g_b5) hZ (hw _ (List.mem_of_getElem? (i := 40) rfl)) (hw _ (List.mem_of_getElem? (i := 37) rfl)) (by decide) (by decide)) (g := (mkF m 14 #[.val (.ref a1), .val (.long q2), .second] [(.ref b5), (.ref b5), (.ref b3), (.long q2), (.long q2), (.ref a1)])) rfl (by rw [hml]; rfl) (Steps.refl _) (a := b5) (argsL := []) (rest := [(.ref b5), (.ref b3), (.long q2), (.long q2), (.ref a1)]) (lenOf pd_2_2 rfl) rfl (by show 2 * 0 + _ ≤ _; exact Nat.le_of_eq rfl) (hb hby d2_14) (fun _ _ => ⟨rfl, e5, (by decide : 2 + 1 ≤ _), (by decide : 12 + 17 ≤ _)⟩)
  dsimp only [Pt.U, Pt.locs, Pt.cells, Pt.slots] at X6 l6 y6 z6 st6 hQ6
  subst l6 y6 z6
  obtain ⟨rfl, N6q, K6q⟩ := hQ6
  have K06 : Keep h0 T6.heap [] := K5.trans K6q (allS (Or.inr sz_b5) all0)
  have N6 := Fr.app N4 N6q
  obtain ⟨_, _, ⟨T7, L7, k7, n7⟩, -, X7, ⟨Lc7, hQ7, l7, y7, z7⟩, st7⟩ := X6.specialBack hx (y := (⟨"com/example/usher/usher/Token", "<init>", "(JJLjava/util/Map;Ljava/util/Deque;J)V"⟩ : MethodName)) rfl hown (mvT hZ (hw _ (List.mem_of_getElem? (i := 52) rfl))) (mvT hZ (hw _ (List.mem_of_getElem? (i := 53) rfl))) (mvT hZ (hw _ (List.mem_of_getElem? (i := 54) rfl))) (by decide) (backOf (W := 0) (rm8 l Z a0 hw [] a1 q2 q2 b3 b5 (0 : Int64) _ _ _ _ _ T6.heap n0 (Nat.le_trans Z0 K06.1) (E_a1.keep K06) (F_start_a1.keep K06 nin0) g_a1 (F_grants_a1.keep K06 nin0) (F_granted_a1.keep K06 nin0) (F_queue_a1.keep K06 nin0) (F_epoch_a1.keep K06 nin0)) hZ (hw _ (List.mem_of_getElem? (i := 54) rfl)) (hw _ (List.mem_of_getElem? (i := 10) rfl)) (by decide) (by decide)) (g := (mkF m 18 #[.val (.ref a1), .val (.long q2), .second] [(.long (0 : Int64)), (.ref b5), (.ref b3), (.long q2), (.long q2), (.ref a1)])) rfl (by rw [hml]; rfl) (Steps.refl _) (a := a1) (argsL := [(.long q2), (.long q2), (.ref b3), (.ref b5), (.long (0 : Int64))]) (rest := []) (lenOf pd_2_3 rfl) rfl (by show 2 * 0 + _ ≤ _; exact Nat.le_of_eq rfl) (hb hby d2_18) (fun _ _ => ⟨rfl, rfl, (by decide : 3 + 0 ≤ _), (by decide : 29 + 0 ≤ _)⟩)
  dsimp only [Pt.U, Pt.locs, Pt.cells, Pt.slots] at X7 l7 y7 z7 st7 hQ7
  subst l7 y7 z7
  obtain ⟨rfl, N7q, K7q, E7q, -, G7q, -⟩ := hQ7
  have K07 : Keep h0 T7.heap [a1] := own_into K06 K7q
  have N7 := Fr.app N6 N7q
  obtain ⟨fs, hr, hrun, hended, hW, hsame⟩ := X7.leave (v := none) (fun _ => rfl)
  refine ⟨_, _, pre0 _ ?_, hrun, hended, _, _, rfl, ?_, ⟨_, rfl⟩, hW, hsame.mono (by decide) (by decide)⟩
  · show Steps p.tables e below (s₁.setTop (mkF m 0 #[.val (.ref a1), .val (.long q2), .second] [])) _
    refine XS.aloadN X0.here hx rfl (hb hby d2_0) rfl rfl ?_
    show Steps p.tables e below (s₁.setTop (mkF m 1 #[.val (.ref a1), .val (.long q2), .second] [(.ref a1)])) _
    refine XS.lloadN X0.here hx rfl (hb hby d2_1) rfl ?_
    show Steps p.tables e below (s₁.setTop (mkF m 2 #[.val (.ref a1), .val (.long q2), .second] [(.long q2), (.ref a1)])) _
    refine XS.lloadN X0.here hx rfl (hb hby d2_2) rfl ?_
    show Steps p.tables e below (s₁.setTop (mkF m 3 #[.val (.ref a1), .val (.long q2), .second] [(.long q2), (.long q2), (.ref a1)])) _
    refine st3 _ ?_
    show Steps p.tables e below (T3.setTop (mkF m 6 #[.val (.ref a1), .val (.long q2), .second] [(.ref b3), (.long q2), (.long q2), (.ref a1)])) _
    refine XS.dup X3.here hx rfl (hb hby d2_6) rfl rfl ?_
    show Steps p.tables e below (T3.setTop (mkF m 7 #[.val (.ref a1), .val (.long q2), .second] [(.ref b3), (.ref b3), (.long q2), (.long q2), (.ref a1)])) _
    refine st4.trans ?_
    show Steps p.tables e below (T4.setTop (mkF m 10 #[.val (.ref a1), .val (.long q2), .second] [(.ref b3), (.long q2), (.long q2), (.ref a1)])) _
    refine st5 _ ?_
    show Steps p.tables e below (T5.setTop (mkF m 13 #[.val (.ref a1), .val (.long q2), .second] [(.ref b5), (.ref b3), (.long q2), (.long q2), (.ref a1)])) _
    refine XS.dup X5.here hx rfl (hb hby d2_13) rfl rfl ?_
    show Steps p.tables e below (T5.setTop (mkF m 14 #[.val (.ref a1), .val (.long q2), .second] [(.ref b5), (.ref b5), (.ref b3), (.long q2), (.long q2), (.ref a1)])) _
    refine st6.trans ?_
    show Steps p.tables e below (T6.setTop (mkF m 17 #[.val (.ref a1), .val (.long q2), .second] [(.ref b5), (.ref b3), (.long q2), (.long q2), (.ref a1)])) _
    refine XS.lconst X6.here hx rfl (hb hby d2_17) ?_
    show Steps p.tables e below (T6.setTop (mkF m 18 #[.val (.ref a1), .val (.long q2), .second] [(.long (0 : Int64)), (.ref b5), (.ref b3), (.long q2), (.long q2), (.ref a1)])) _
    refine st7.trans ?_
    show Steps p.tables e below (T7.setTop (mkF m 21 #[.val (.ref a1), .val (.long q2), .second] [])) _
    exact X7.returnOut hx Bd.returns (hb hby d2_21) hr
  · show Q2 Z a1 q2 h0 n0 _ T7.heap _
    exact ⟨rfl, N7, K07, E7q, G7q⟩
theorem d9_0 : decode prog_55_method_6_code 0 = .ok (.aload_n 0, 1) := by decide +kernel
theorem d9_1 : decode prog_55_method_6_code 1 = .ok (.getfield 68, 3) := by decide +kernel
theorem d9_4 : decode prog_55_method_6_code 4 = .ok (.lreturn, 1) := by decide +kernel
theorem pn_9 : plainName "com/example/usher/usher/Token" = true := by first | (simp [plainName, overriddenIn]; done) | decide +kernel
theorem ef_9 (m : MethodId) (x0 : Addr) : entryFrame m #[(.ref x0)] 1 = mkF m 0 #[.val (.ref x0)] [] := by first | (simp [entryFrame, mkF, argsToLocals, Value.category]; done) | rfl
def Q9 (Z : State) (a1 : Addr) (w2 : Int64) (h0 : Heap) (n0 : Nat) (v : Option Value) (h : Heap) (L : List Loc) : Prop := v = some (.long w2) ∧ Fr n0 L ∧ h = h0
set_option maxRecDepth 65536 in
set_option maxHeartbeats 40000000 in
theorem rm9 (l : Launch) (Z : State) (a0 : Array Value) (hw : ∀ d ∈ tables_1, d.before a0 Z = true) (ws : List Jvm.Cond) (a1 : Addr) (w2 : Int64) (h0 : Heap) (n0 : Nat) (Z0 : n0 ≤ h0.size) (F_grants_a1 : Fld Z h0 a1 "com/example/usher/usher/Token" "grants" "J" (.long w2)) :
    MetFree l (⟨"com/example/usher/usher/Token", "getGrants", "()J"⟩ : MethodName) (head1 (Jvm.Cond.code (⟨"com/example/usher/usher/Token", "getGrants", "()J"⟩ : MethodName) prog_55_method_6_code 1 (some .long) :: ws) ({ frames := 0, cells := 0, slots := 0, locals := 0 } : Room)) (fun a U => a = #[(.ref a1)] ∧ Z.Warmed39 U.vm ∧ U.heap = h0) (fun _ _ _ _ _ => True) (fun _ U o U' => ∃ v L, o = .returned v ∧ Q9 Z a1 w2 h0 n0 v U'.heap L ∧ FrameEnd U o U' L ({ frames := 0, cells := 0, slots := 0, locals := 0 } : Room).cells ({ frames := 0, cells := 0, slots := 0, locals := 0 } : Room).slots) := by
  refine MetFree.of_bodySF (plainFor_of_name pn_9) hisR ?_
  intro p e s m args below meth c s₁ Bd hml0 hP hK
  obtain ⟨rfl, hZ, hh⟩ := hP
  have hx := Bd.exec
  have hby := Bd.bytes
  have hml : c.maxLocals = 1 := hml0
  have hown : s.vm.findClass "com/example/usher/usher/Token" = some m.cls := findClass_of_methodNamed Bd.named
  have hnm := (name_of_methodNamed Bd.named Bd.method).1
  have X0 : Stand p l e ({ frames := 0, cells := 0, slots := 0, locals := 0 } : Room) s m #[(.ref a1)] below meth c s₁ [] 0 0 := Stand.of_body Bd
  have e0 : s₁.heap = h0 := by rw [← hh, Bd.state]; rfl
  have N0 := Fr.nil n0
  have pre0 : ∀ t, Steps p.tables e below (s₁.setTop (mkF m 0 #[.val (.ref a1)] [])) t → Steps p.tables e below (s₁.setTop (entryFrame m #[(.ref a1)] 1)) t := fun t k => castTop (ef_9 m a1) k
  obtain ⟨T3, X3, e3, st3⟩ := getF X0 hx hZ hown (host := "") (Or.inl (hw _ (List.mem_of_getElem? (i := 58) rfl))) Via.refl e0 F_grants_a1 (g := (mkF m 1 #[.val (.ref a1)] [(.ref a1)])) rfl rfl (hb hby d9_1)
  obtain ⟨fs, hr, hrun, hended, hW, hsame⟩ := X3.leave (v := some (.long w2)) (fun h => by rw [Bd.returns] at h; cases h)
  refine ⟨_, _, pre0 _ ?_, hrun, hended, _, _, rfl, ?_, ⟨_, rfl⟩, hW, hsame.mono (by decide) (by decide)⟩
  · show Steps p.tables e below (s₁.setTop (mkF m 0 #[.val (.ref a1)] [])) _
    refine XS.aloadN X0.here hx rfl (hb hby d9_0) rfl rfl ?_
    show Steps p.tables e below (s₁.setTop (mkF m 1 #[.val (.ref a1)] [(.ref a1)])) _
    refine st3 _ ?_
    show Steps p.tables e below (T3.setTop (mkF m 4 #[.val (.ref a1)] [(.long w2)])) _
    exact X3.lreturnOut hx Bd.returns (hb hby d9_4) hr
  · show Q9 Z a1 w2 h0 n0 _ T3.heap _
    rw [e3]
    exact ⟨rfl, N0, rfl⟩
theorem d11_0 : decode prog_27_method_2_code 0 = .ok (.lload_n 0, 1) := by decide +kernel
theorem d11_1 : decode prog_27_method_2_code 1 = .ok (.bipush 16, 2) := by decide +kernel
theorem d11_3 : decode prog_27_method_2_code 3 = .ok (.lshl, 1) := by decide +kernel
theorem d11_4 : decode prog_27_method_2_code 4 = .ok (.iload_n 2, 1) := by decide +kernel
theorem d11_5 : decode prog_27_method_2_code 5 = .ok (.i2l, 1) := by decide +kernel
theorem d11_6 : decode prog_27_method_2_code 6 = .ok (.ladd, 1) := by decide +kernel
theorem d11_7 : decode prog_27_method_2_code 7 = .ok (.lreturn, 1) := by decide +kernel
theorem pn_11 : plainName "com/example/usher/usher/Node" = true := by first | (simp [plainName, overriddenIn]; done) | decide +kernel
theorem ef_11 (m : MethodId) (x0 : Int64) (x1 : Int32) : entryFrame m #[(.long x0), (.int x1)] 3 = mkF m 0 #[.val (.long x0), .second, .val (.int x1)] [] := by first | (simp [entryFrame, mkF, argsToLocals, Value.category]; done) | rfl
def Q11 (Z : State) (q1 : Int64) (p2 : Int32) (h0 : Heap) (n0 : Nat) (v : Option Value) (h : Heap) (L : List Loc) : Prop := v = some (.long ((q1 <<< ((16 : Int32) &&& 0x3f).toInt64) + (p2.toInt64))) ∧ Fr n0 L ∧ h = h0
set_option maxRecDepth 65536 in
set_option maxHeartbeats 40000000 in
theorem rm11 (l : Launch) (Z : State) (a0 : Array Value) (hw : ∀ d ∈ tables_1, d.before a0 Z = true) (ws : List Jvm.Cond) (q1 : Int64) (p2 : Int32) (h0 : Heap) (n0 : Nat) (Z0 : n0 ≤ h0.size) :
    MetFree l (⟨"com/example/usher/usher/Node", "fencingToken", "(JI)J"⟩ : MethodName) (head1 (Jvm.Cond.code (⟨"com/example/usher/usher/Node", "fencingToken", "(JI)J"⟩ : MethodName) prog_27_method_2_code 3 (some .long) :: ws) ({ frames := 0, cells := 0, slots := 0, locals := 0 } : Room)) (fun a U => a = #[(.long q1), (.int p2)] ∧ Z.Warmed39 U.vm ∧ U.heap = h0) (fun _ _ _ _ _ => True) (fun _ U o U' => ∃ v L, o = .returned v ∧ Q11 Z q1 p2 h0 n0 v U'.heap L ∧ FrameEnd U o U' L ({ frames := 0, cells := 0, slots := 0, locals := 0 } : Room).cells ({ frames := 0, cells := 0, slots := 0, locals := 0 } : Room).slots) := by
  refine MetFree.of_bodySF (plainFor_of_name pn_11) hisR ?_
  intro p e s m args below meth c s₁ Bd hml0 hP hK
  obtain ⟨rfl, hZ, hh⟩ := hP
  have hx := Bd.exec
  have hby := Bd.bytes
  have hml : c.maxLocals = 3 := hml0
  have hown : s.vm.findClass "com/example/usher/usher/Node" = some m.cls := findClass_of_methodNamed Bd.named
  have hnm := (name_of_methodNamed Bd.named Bd.method).1
  have X0 : Stand p l e ({ frames := 0, cells := 0, slots := 0, locals := 0 } : Room) s m #[(.long q1), (.int p2)] below meth c s₁ [] 0 0 := Stand.of_body Bd
  have e0 : s₁.heap = h0 := by rw [← hh, Bd.state]; rfl
  have N0 := Fr.nil n0
  have pre0 : ∀ t, Steps p.tables e below (s₁.setTop (mkF m 0 #[.val (.long q1), .second, .val (.int p2)] [])) t → Steps p.tables e below (s₁.setTop (entryFrame m #[(.long q1), (.int p2)] 3)) t := fun t k => castTop (ef_11 m q1 p2) k
  obtain ⟨fs, hr, hrun, hended, hW, hsame⟩ := X0.leave (v := some (.long ((q1 <<< ((16 : Int32) &&& 0x3f).toInt64) + (p2.toInt64)))) (fun h => by rw [Bd.returns] at h; cases h)
  refine ⟨_, _, pre0 _ ?_, hrun, hended, _, _, rfl, ?_, ⟨_, rfl⟩, hW, hsame.mono (by decide) (by decide)⟩
  · show Steps p.tables e below (s₁.setTop (mkF m 0 #[.val (.long q1), .second, .val (.int p2)] [])) _
    refine XS.lloadN X0.here hx rfl (hb hby d11_0) rfl ?_
    show Steps p.tables e below (s₁.setTop (mkF m 1 #[.val (.long q1), .second, .val (.int p2)] [(.long q1)])) _
    refine XS.bipush X0.here hx rfl (hb hby d11_1) ?_
    show Steps p.tables e below (s₁.setTop (mkF m 3 #[.val (.long q1), .second, .val (.int p2)] [(.int (16 : Int32)), (.long q1)])) _
    refine XS.lshl X0.here hx rfl (hb hby d11_3) rfl ?_
    show Steps p.tables e below (s₁.setTop (mkF m 4 #[.val (.long q1), .second, .val (.int p2)] [(.long (q1 <<< ((16 : Int32) &&& 0x3f).toInt64))])) _
    refine XS.iloadN X0.here hx rfl (hb hby d11_4) rfl ?_
    show Steps p.tables e below (s₁.setTop (mkF m 5 #[.val (.long q1), .second, .val (.int p2)] [(.int p2), (.long (q1 <<< ((16 : Int32) &&& 0x3f).toInt64))])) _
    refine XS.i2l X0.here hx rfl (hb hby d11_5) rfl ?_
    show Steps p.tables e below (s₁.setTop (mkF m 6 #[.val (.long q1), .second, .val (.int p2)] [(.long (p2.toInt64)), (.long (q1 <<< ((16 : Int32) &&& 0x3f).toInt64))])) _
    refine XS.ladd X0.here hx rfl (hb hby d11_6) rfl ?_
    show Steps p.tables e below (s₁.setTop (mkF m 7 #[.val (.long q1), .second, .val (.int p2)] [(.long ((q1 <<< ((16 : Int32) &&& 0x3f).toInt64) + (p2.toInt64)))])) _
    exact X0.lreturnOut hx Bd.returns (hb hby d11_7) hr
  · show Q11 Z q1 p2 h0 n0 _ s₁.heap _
    rw [e0]
    exact ⟨rfl, N0, rfl⟩
theorem d10_0 : decode prog_55_method_7_code 0 = .ok (.aload_n 0, 1) := by decide +kernel
theorem d10_1 : decode prog_55_method_7_code 1 = .ok (.dup, 1) := by decide +kernel
theorem d10_2 : decode prog_55_method_7_code 2 = .ok (.getfield 68, 3) := by decide +kernel
theorem d10_5 : decode prog_55_method_7_code 5 = .ok (.lconst 1, 1) := by decide +kernel
theorem d10_6 : decode prog_55_method_7_code 6 = .ok (.ladd, 1) := by decide +kernel
theorem d10_7 : decode prog_55_method_7_code 7 = .ok (.putfield 68, 3) := by decide +kernel
theorem d10_10 : decode prog_55_method_7_code 10 = .ok (.aload_n 0, 1) := by decide +kernel
theorem d10_11 : decode prog_55_method_7_code 11 = .ok (.getfield 68, 3) := by decide +kernel
theorem d10_14 : decode prog_55_method_7_code 14 = .ok (.iload_n 1, 1) := by decide +kernel
theorem d10_15 : decode prog_55_method_7_code 15 = .ok (.invokestatic 152, 3) := by decide +kernel
theorem d10_18 : decode prog_55_method_7_code 18 = .ok (.lreturn, 1) := by decide +kernel
theorem pn_10 : plainName "com/example/usher/usher/Token" = true := by first | (simp [plainName, overriddenIn]; done) | decide +kernel
theorem pd_10_6 : parseMethodDescriptor "(JI)J" = some ⟨[.long, .int], some .long⟩ := by decide +kernel
theorem ef_10 (m : MethodId) (x0 : Addr) (x1 : Int32) : entryFrame m #[(.ref x0), (.int x1)] 2 = mkF m 0 #[.val (.ref x0), .val (.int x1)] [] := by first | (simp [entryFrame, mkF, argsToLocals, Value.category]; done) | rfl
def Q10 (Z : State) (a1 : Addr) (p2 : Int32) (w3 : Int64) (h0 : Heap) (n0 : Nat) (v : Option Value) (h : Heap) (L : List Loc) : Prop := v = some (.long (((w3 + (1 : Int64)) <<< ((16 : Int32) &&& 0x3f).toInt64) + (p2.toInt64))) ∧ Fr n0 L ∧ Keep h0 h [a1] ∧ Exa Z h a1 "com/example/usher/usher/Token" ∧ Fld Z h a1 "com/example/usher/usher/Token" "grants" "J" (.long (w3 + (1 : Int64)))
set_option maxRecDepth 65536 in
set_option maxHeartbeats 40000000 in
theorem rm10 (l : Launch) (Z : State) (a0 : Array Value) (hw : ∀ d ∈ tables_1, d.before a0 Z = true) (ws : List Jvm.Cond) (a1 : Addr) (p2 : Int32) (w3 : Int64) (h0 : Heap) (n0 : Nat) (Z0 : n0 ≤ h0.size) (F_grants_a1 : Fld Z h0 a1 "com/example/usher/usher/Token" "grants" "J" (.long w3)) (E_a1 : Exa Z h0 a1 "com/example/usher/usher/Token") (g_a1 : n0 ≤ a1) :
    MetFree l (⟨"com/example/usher/usher/Token", "grant", "(I)J"⟩ : MethodName) (head1 (Jvm.Cond.code (⟨"com/example/usher/usher/Token", "grant", "(I)J"⟩ : MethodName) prog_55_method_7_code 2 (some .long) :: ws) ({ frames := 1, cells := 0, slots := 0, locals := 14 } : Room)) (fun a U => a = #[(.ref a1), (.int p2)] ∧ Z.Warmed39 U.vm ∧ U.heap = h0) (fun _ _ _ _ _ => True) (fun _ U o U' => ∃ v L, o = .returned v ∧ Q10 Z a1 p2 w3 h0 n0 v U'.heap L ∧ FrameEnd U o U' L ({ frames := 1, cells := 0, slots := 0, locals := 14 } : Room).cells ({ frames := 1, cells := 0, slots := 0, locals := 14 } : Room).slots) := by
  refine MetFree.of_bodySF (plainFor_of_name pn_10) hisR ?_
  intro p e s m args below meth c s₁ Bd hml0 hP hK
  obtain ⟨rfl, hZ, hh⟩ := hP
  have hx := Bd.exec
  have hby := Bd.bytes
  have hml : c.maxLocals = 2 := hml0
  have hown : s.vm.findClass "com/example/usher/usher/Token" = some m.cls := findClass_of_methodNamed Bd.named
  have hnm := (name_of_methodNamed Bd.named Bd.method).1
  have X0 : Stand p l e ({ frames := 1, cells := 0, slots := 0, locals := 14 } : Room) s m #[(.ref a1), (.int p2)] below meth c s₁ [] 0 0 := Stand.of_body Bd
  have e0 : s₁.heap = h0 := by rw [← hh, Bd.state]; rfl
  have N0 := Fr.nil n0
  have pre0 : ∀ t, Steps p.tables e below (s₁.setTop (mkF m 0 #[.val (.ref a1), .val (.int p2)] [])) t → Steps p.tables e below (s₁.setTop (entryFrame m #[(.ref a1), (.int p2)] 2)) t := fun t k => castTop (ef_10 m a1 p2) k
  obtain ⟨T4, X4, e4, st4⟩ := getF X0 hx hZ hown (host := "") (Or.inl (hw _ (List.mem_of_getElem? (i := 58) rfl))) Via.refl e0 F_grants_a1 (g := (mkF m 2 #[.val (.ref a1), .val (.int p2)] [(.ref a1), (.ref a1)])) rfl rfl (hb hby d10_2)
  obtain ⟨T5, h5, X5, e5, W5, st5⟩ := putF X4 hx hZ hown (host := "") (Or.inl (hw _ (List.mem_of_getElem? (i := 58) rfl))) Via.refl e4 F_grants_a1 E_a1 (Or.inl (hw _ (List.mem_of_getElem? (i := 59) rfl))) (hw _ (List.mem_of_getElem? (i := 9) rfl)) (ty := .long) (by decide) rfl rfl (g := (mkF m 7 #[.val (.ref a1), .val (.int p2)] [(.long (w3 + (1 : Int64))), (.ref a1)])) rfl rfl (hb hby d10_7)
  have Fw5 := F_grants_a1.same W5      -- the field now holds (.long (w3 + (1 : Int64)))
  have K5 : Keep h0 h5 [a1] := (Keep.refl h0 [a1]).wr W5 (Or.inl (List.mem_of_getElem? (i := 0) rfl))
  have N5 := Fr.snoc X5 N0 g_a1
  obtain ⟨T6, X6, e6, st6⟩ := getF X5 hx hZ hown (host := "") (Or.inl (hw _ (List.mem_of_getElem? (i := 58) rfl))) Via.refl e5 Fw5 (g := (mkF m 11 #[.val (.ref a1), .val (.int p2)] [(.ref a1)])) rfl rfl (hb hby d10_11)
  obtain ⟨_, _, ⟨T7, L7, k7, n7⟩, -, X7, ⟨Lc7, hQ7, l7, y7, z7⟩, st7⟩ := Jvm.LawKit.callS X6 hx (y := (⟨"com/example/usher/usher/Node", "fencingToken", "(JI)J"⟩ : MethodName)) hown (mvT hZ (hw _ (List.mem_of_getElem? (i := 76) rfl))) (mvT hZ (hw _ (List.mem_of_getElem? (i := 77) rfl))) (mvT hZ (hw _ (List.mem_of_getElem? (i := 78) rfl))) (mvT hZ (hw _ (List.mem_of_getElem? (i := 79) rfl))) (by decide) (backOf (W := 0) (rm11 l Z a0 hw [] (w3 + (1 : Int64)) p2 h5 n0 (Nat.le_trans Z0 K5.1)) hZ (hw _ (List.mem_of_getElem? (i := 79) rfl)) (hw _ (List.mem_of_getElem? (i := 78) rfl)) (by decide) (by decide)) (g := (mkF m 15 #[.val (.ref a1), .val (.int p2)] [(.int p2), (.long (w3 + (1 : Int64)))])) rfl (by rw [hml]; rfl) (argsL := [(.long (w3 + (1 : Int64))), (.int p2)]) (rest := []) (lenOf pd_10_6 rfl) rfl (by show 2 * 0 + _ ≤ _; exact Nat.le_of_eq rfl) (hb hby d10_15) (fun _ _ => ⟨rfl, e6, (by decide : 0 + 0 ≤ _), (by decide : 0 + 0 ≤ _)⟩)
  dsimp only [Pt.U, Pt.locs, Pt.cells, Pt.slots] at X7 l7 y7 z7 st7 hQ7
  subst l7 y7 z7
  obtain ⟨rfl, N7q, q7⟩ := hQ7
  have N7 := Fr.app N5 N7q
  obtain ⟨fs, hr, hrun, hended, hW, hsame⟩ := X7.leave (v := some (.long (((w3 + (1 : Int64)) <<< ((16 : Int32) &&& 0x3f).toInt64) + (p2.toInt64)))) (fun h => by rw [Bd.returns] at h; cases h)
  refine ⟨_, _, pre0 _ ?_, hrun, hended, _, _, rfl, ?_, ⟨_, rfl⟩, hW, hsame.mono (by decide) (by decide)⟩
  · show Steps p.tables e below (s₁.setTop (mkF m 0 #[.val (.ref a1), .val (.int p2)] [])) _
    refine XS.aloadN X0.here hx rfl (hb hby d10_0) rfl rfl ?_
    show Steps p.tables e below (s₁.setTop (mkF m 1 #[.val (.ref a1), .val (.int p2)] [(.ref a1)])) _
    refine XS.dup X0.here hx rfl (hb hby d10_1) rfl rfl ?_
    show Steps p.tables e below (s₁.setTop (mkF m 2 #[.val (.ref a1), .val (.int p2)] [(.ref a1), (.ref a1)])) _
    refine st4 _ ?_
    show Steps p.tables e below (T4.setTop (mkF m 5 #[.val (.ref a1), .val (.int p2)] [(.long w3), (.ref a1)])) _
    refine XS.lconst X4.here hx rfl (hb hby d10_5) ?_
    show Steps p.tables e below (T4.setTop (mkF m 6 #[.val (.ref a1), .val (.int p2)] [(.long (1 : Int64)), (.long w3), (.ref a1)])) _
    refine XS.ladd X4.here hx rfl (hb hby d10_6) rfl ?_
    show Steps p.tables e below (T4.setTop (mkF m 7 #[.val (.ref a1), .val (.int p2)] [(.long (w3 + (1 : Int64))), (.ref a1)])) _
    refine st5 _ ?_
    show Steps p.tables e below (T5.setTop (mkF m 10 #[.val (.ref a1), .val (.int p2)] [])) _
    refine XS.aloadN X5.here hx rfl (hb hby d10_10) rfl rfl ?_
    show Steps p.tables e below (T5.setTop (mkF m 11 #[.val (.ref a1), .val (.int p2)] [(.ref a1)])) _
    refine st6 _ ?_
    show Steps p.tables e below (T6.setTop (mkF m 14 #[.val (.ref a1), .val (.int p2)] [(.long (w3 + (1 : Int64)))])) _
    refine XS.iloadN X6.here hx rfl (hb hby d10_14) rfl ?_
    show Steps p.tables e below (T6.setTop (mkF m 15 #[.val (.ref a1), .val (.int p2)] [(.int p2), (.long (w3 + (1 : Int64)))])) _
    refine st7 _ ?_
    show Steps p.tables e below (T7.setTop (mkF m 18 #[.val (.ref a1), .val (.int p2)] [(.long (((w3 + (1 : Int64)) <<< ((16 : Int32) &&& 0x3f).toInt64) + (p2.toInt64)))])) _
    exact X7.lreturnOut hx Bd.returns (hb hby d10_18) hr
  · show Q10 Z a1 p2 w3 h0 n0 _ T7.heap _
    exact ⟨rfl, N7, (by rw [q7]; exact K5), (by rw [q7]; exact E_a1.wr W5), (by rw [q7]; exact Fw5)⟩
theorem pn_0 : plainName "com/example/usher/usher/TokenGrantPinLaw" = true := by first | (simp [plainName, overriddenIn]; done) | decide +kernel
theorem pd_0_0 : parseMethodDescriptor "(JJ)J" = some ⟨[.long, .long], some .long⟩ := by decide +kernel
theorem pd_0_1 : parseMethodDescriptor "(J)V" = some ⟨[.long], none⟩ := by decide +kernel
theorem pd_0_2 : parseMethodDescriptor "()J" = some ⟨[], some .long⟩ := by decide +kernel
theorem pd_0_3 : parseMethodDescriptor "(I)J" = some ⟨[.int], some .long⟩ := by decide +kernel
theorem ef_0 (m : MethodId) (x0 : Int64) (x1 : Int32) (x2 : Int32) : entryFrame m #[(.long x0), (.int x1), (.int x2)] maxLocals = mkF m 0 #[.val (.long x0), .second, .val (.int x1), .val (.int x2), .unset, .unset, .unset, .unset, .unset, .unset, .unset, .unset, .unset, .unset, .unset, .unset, .unset, .unset, .unset, .unset, .unset, .unset, .unset, .unset] [] := by first | (simp [entryFrame, mkF, argsToLocals, Value.category, maxLocals]; done) | rfl
def Q0 (Z : State) (q1 : Int64) (p2 : Int32) (p3 : Int32) (h0 : Heap) (n0 : Nat) (v : Option Value) (h : Heap) (L : List Loc) : Prop := v = some (.int (1 : Int32)) ∧ Fr n0 L
set_option maxRecDepth 65536 in
set_option maxHeartbeats 40000000 in
theorem rm0 (l : Launch) (Z : State) (a0 : Array Value) (hw : ∀ d ∈ tables_1, d.before a0 Z = true) (ws : List Jvm.Cond) (q1 : Int64) (p2 : Int32) (p3 : Int32) (h0 : Heap) (n0 : Nat) (Z0 : n0 ≤ h0.size) :
    MetFree l x (head1 (Jvm.Cond.code x code maxLocals ret :: ws) room_1) (fun a U => a = #[(.long q1), (.int p2), (.int p3)] ∧ Z.Warmed39 U.vm ∧ U.heap = h0) (fun _ _ _ _ _ => True) (fun _ U o U' => ∃ v L, o = .returned v ∧ Q0 Z q1 p2 p3 h0 n0 v U'.heap L ∧ FrameEnd U o U' L room_1.cells room_1.slots) := by
  refine MetFree.of_bodySF (plainFor_of_name pn_0) hisR ?_
  intro p e s m args below meth c s₁ Bd hml0 hP hK
  obtain ⟨rfl, hZ, hh⟩ := hP
  have hx := Bd.exec
  have hby := Bd.bytes
  have hml : c.maxLocals = 24 := hml0
  have hown : s.vm.findClass "com/example/usher/usher/TokenGrantPinLaw" = some m.cls := findClass_of_methodNamed Bd.named
  have hnm := (name_of_methodNamed Bd.named Bd.method).1
  have X0 : Stand p l e room_1 s m #[(.long q1), (.int p2), (.int p3)] below meth c s₁ [] 0 0 := Stand.of_body Bd
  have e0 : s₁.heap = h0 := by rw [← hh, Bd.state]; rfl
  have N0 := Fr.nil n0
  have pre0 : ∀ t, Steps p.tables e below (s₁.setTop (mkF m 0 #[.val (.long q1), .second, .val (.int p2), .val (.int p3), .unset, .unset, .unset, .unset, .unset, .unset, .unset, .unset, .unset, .unset, .unset, .unset, .unset, .unset, .unset, .unset, .unset, .unset, .unset, .unset] [])) t → Steps p.tables e below (s₁.setTop (entryFrame m #[(.long q1), (.int p2), (.int p3)] maxLocals)) t := fun t k => castTop (ef_0 m q1 p2 p3) k
  have hc135 : ¬ ((1 : Int32) = (0 : Int32)) := by decide
  obtain ⟨_, _, ⟨T4, L4, k4, n4⟩, -, X4, ⟨Lc4, hQ4, l4, y4, z4⟩, st4⟩ := Jvm.LawKit.callS X0 hx (y := (⟨"java/lang/Math", "min", "(JJ)J"⟩ : MethodName)) hown (mvT hZ (hw _ (List.mem_of_getElem? (i := 2) rfl))) (mvT hZ (hw _ (List.mem_of_getElem? (i := 3) rfl))) (mvT hZ (hw _ (List.mem_of_getElem? (i := 4) rfl))) (mvT hZ (hw _ (List.mem_of_getElem? (i := 5) rfl))) (by decide) (backOf (W := 0) (rm1 l Z a0 hw [] (q1 &&& (140737488355327 : Int64)) ((140737488355327 : Int64) - (2 : Int64)) h0 n0 Z0) hZ (hw _ (List.mem_of_getElem? (i := 5) rfl)) (hw _ (List.mem_of_getElem? (i := 4) rfl)) (by decide) (by decide)) (g := (mkF m 15 #[.val (.long q1), .second, .val (.int p2), .val (.int p3), .val (.long (140737488355327 : Int64)), .second, .unset, .unset, .unset, .unset, .unset, .unset, .unset, .unset, .unset, .unset, .unset, .unset, .unset, .unset, .unset, .unset, .unset, .unset] [(.long ((140737488355327 : Int64) - (2 : Int64))), (.long (q1 &&& (140737488355327 : Int64)))])) rfl (by rw [hml]; rfl) (argsL := [(.long (q1 &&& (140737488355327 : Int64))), (.long ((140737488355327 : Int64) - (2 : Int64)))]) (rest := []) (lenOf pd_0_0 rfl) rfl (by show 2 * 0 + _ ≤ _; exact Nat.le_of_eq rfl) (hb hby at_15) (fun _ _ => ⟨rfl, e0, (by decide : 0 + 0 ≤ _), (by decide : 0 + 0 ≤ _)⟩)
  dsimp only [Pt.U, Pt.locs, Pt.cells, Pt.slots] at X4 l4 y4 z4 st4 hQ4
  subst l4 y4 z4
  obtain ⟨st, hst⟩ : ∃ z, z = own_min (q1 &&& (140737488355327 : Int64)) ((140737488355327 : Int64) - (2 : Int64)) := ⟨_, rfl⟩
  obtain ⟨hv4, N4q, q4⟩ := hQ4
  rw [← hst] at hv4
  subst hv4
  have Z_T4 : n0 ≤ T4.heap.size := by rw [q4]; exact Z0
  have N4 := Fr.app N0 N4q
  obtain ⟨r26, hr26⟩ : ∃ z : Int32, z = ((p2 &&& (2147483647 : Int32)) % (65535 : Int32)) := ⟨_, rfl⟩
  obtain ⟨r37, hr37⟩ : ∃ z : Int32, z = ((p3 &&& (2147483647 : Int32)) % (65535 : Int32)) := ⟨_, rfl⟩
  obtain ⟨T5, h5, X5, e5, E5, A5, D5, -, st5⟩ := newO X4 hx hZ hown (hw _ (List.mem_of_getElem? (i := 8) rfl)) (hw _ (List.mem_of_getElem? (i := 9) rfl)) (hw _ (List.mem_of_getElem? (i := 10) rfl)) rfl (g := (mkF m 42 #[.val (.long q1), .second, .val (.int p2), .val (.int p3), .val (.long (140737488355327 : Int64)), .second, .val (.long st), .second, .val (.int (r26 + (1 : Int32))), .val (.int (r37 + (1 : Int32))), .unset, .unset, .unset, .unset, .unset, .unset, .unset, .unset, .unset, .unset, .unset, .unset, .unset, .unset] [])) rfl (hb hby at_42) (by decide) (by decide)
  obtain ⟨b5, g5⟩ : ∃ z, z = T4.heap.size := ⟨_, rfl⟩      -- the fresh object's address
  rw [← g5] at A5 D5 st5      -- A5 : Exa Z h5 b5 "com/example/usher/usher/Token"; E5 : Ext T4.heap h5 (carries every older fact: .ext E5)
  have F_start_b5 : Fld Z h5 b5 "com/example/usher/usher/Token" "start" "J" (.long (0 : Int64)) := D5 (Or.inr (hw _ (List.mem_of_getElem? (i := 57) rfl))) (ty := .long) (by decide)
  have F_grants_b5 : Fld Z h5 b5 "com/example/usher/usher/Token" "grants" "J" (.long (0 : Int64)) := D5 (Or.inl (hw _ (List.mem_of_getElem? (i := 59) rfl))) (ty := .long) (by decide)
  have F_granted_b5 : Fld Z h5 b5 "com/example/usher/usher/Token" "granted" "Ljava/util/Map;" .null := D5 (Or.inr (hw _ (List.mem_of_getElem? (i := 61) rfl))) (ty := (.object "java/util/Map")) (by decide)
  have F_queue_b5 : Fld Z h5 b5 "com/example/usher/usher/Token" "queue" "Ljava/util/Deque;" .null := D5 (Or.inr (hw _ (List.mem_of_getElem? (i := 63) rfl))) (ty := (.object "java/util/Deque")) (by decide)
  have F_epoch_b5 : Fld Z h5 b5 "com/example/usher/usher/Token" "epoch" "J" (.long (0 : Int64)) := D5 (Or.inl (hw _ (List.mem_of_getElem? (i := 65) rfl))) (ty := .long) (by decide)
  have E_b5 := A5
  have g_b5 : n0 ≤ b5 := Nat.le_trans Z_T4 (Nat.le_of_eq g5.symm)
  have Z_h5 : n0 ≤ h5.size := Nat.le_trans Z_T4 E5.1
  skip
  obtain ⟨_, _, ⟨T6, L6, k6, n6⟩, -, X6, ⟨Lc6, hQ6, l6, y6, z6⟩, st6⟩ := X5.specialBack hx (y := (⟨"com/example/usher/usher/Token", "<init>", "(J)V"⟩ : MethodName)) rfl hown (mvT hZ (hw _ (List.mem_of_getElem? (i := 11) rfl))) (mvT hZ (hw _ (List.mem_of_getElem? (i := 12) rfl))) (mvT hZ (hw _ (List.mem_of_getElem? (i := 13) rfl))) (by decide) (backOf (W := 1) (rm2 l Z a0 hw [] b5 st h5 n0 Z_h5 E_b5 g_b5 F_start_b5 F_grants_b5 F_granted_b5 F_queue_b5 F_epoch_b5) hZ (hw _ (List.mem_of_getElem? (i := 13) rfl)) (hw _ (List.mem_of_getElem? (i := 10) rfl)) (by decide) (by decide)) (g := (mkF m 48 #[.val (.long q1), .second, .val (.int p2), .val (.int p3), .val (.long (140737488355327 : Int64)), .second, .val (.long st), .second, .val (.int (r26 + (1 : Int32))), .val (.int (r37 + (1 : Int32))), .unset, .unset, .unset, .unset, .unset, .unset, .unset, .unset, .unset, .unset, .unset, .unset, .unset, .unset] [(.long st), (.ref b5), (.ref b5)])) rfl (by rw [hml]; rfl) (Steps.refl _) (a := b5) (argsL := [(.long st)]) (rest := [(.ref b5)]) (lenOf pd_0_1 rfl) rfl (by show 2 * 0 + _ ≤ _; exact Nat.le_of_eq rfl) (hb hby at_48) (fun _ _ => ⟨rfl, e5, (by decide : 1 + 3 ≤ _), (by decide : 5 + 29 ≤ _)⟩)
  dsimp only [Pt.U, Pt.locs, Pt.cells, Pt.slots] at X6 l6 y6 z6 st6 hQ6
  subst l6 y6 z6
  obtain ⟨rfl, N6q, K6q, E_T6, G_T6⟩ := hQ6
  have Z_T6 : n0 ≤ T6.heap.size := Nat.le_trans Z_h5 K6q.1
  have N6 := Fr.app N4 N6q
  obtain ⟨cq7, kq7, q7a, q7b, q7c⟩ := isOf hZ rfl (E_T6)
  obtain ⟨_, _, ⟨T7, L7, k7, n7⟩, -, X7, ⟨Lc7, hQ7, l7, y7, z7⟩, st7⟩ := X6.virtualBack hx (y := (⟨"com/example/usher/usher/Token", "getGrants", "()J"⟩ : MethodName)) (z := (⟨"com/example/usher/usher/Token", "getGrants", "()J"⟩ : MethodName)) hown (mvT hZ (hw _ (List.mem_of_getElem? (i := 66) rfl))) (mvT hZ (hw _ (List.mem_of_getElem? (i := 67) rfl))) (notFace_of_selects (args := #[]) (mvT hZ (hw _ (List.mem_of_getElem? (i := 69) rfl)))) (mvT hZ (hw _ (List.mem_of_getElem? (i := 69) rfl))) (mvT hZ (hw _ (List.mem_of_getElem? (i := 68) rfl))) (by decide) (backOf (W := 0) (rm9 l Z a0 hw [] b5 st T6.heap n0 Z_T6 G_T6) hZ (hw _ (List.mem_of_getElem? (i := 70) rfl)) (hw _ (List.mem_of_getElem? (i := 10) rfl)) (by decide) (by decide)) q7a q7c (g := (mkF m 55 #[.val (.long q1), .second, .val (.int p2), .val (.int p3), .val (.long (140737488355327 : Int64)), .second, .val (.long st), .second, .val (.int (r26 + (1 : Int32))), .val (.int (r37 + (1 : Int32))), .val (.ref b5), .unset, .unset, .unset, .unset, .unset, .unset, .unset, .unset, .unset, .unset, .unset, .unset, .unset] [(.ref b5)])) rfl (by rw [hml]; rfl) (Steps.refl _) (argsL := []) (rest := []) (lenOf pd_0_2 rfl) rfl (by show 2 * 0 + _ ≤ _; exact Nat.le_of_eq rfl) (hb hby at_55) (fun _ _ => ⟨rfl, rfl, (by decide : 4 + 0 ≤ _), (by decide : 34 + 0 ≤ _)⟩)
  dsimp only [Pt.U, Pt.locs, Pt.cells, Pt.slots] at X7 l7 y7 z7 st7 hQ7
  subst l7 y7 z7
  obtain ⟨rfl, N7q, q7⟩ := hQ7
  have Z_T7 : n0 ≤ T7.heap.size := by rw [q7]; exact Z_T6
  have E_T7 : Exa Z T7.heap b5 "com/example/usher/usher/Token" := by rw [q7]; exact E_T6
  have G_T7 : Fld Z T7.heap b5 "com/example/usher/usher/Token" "grants" "J" (.long st) := by rw [q7]; exact G_T6
  have N7 := Fr.app N6 N7q
  obtain ⟨cq8, kq8, q8a, q8b, q8c⟩ := isOf hZ rfl (E_T7)
  obtain ⟨_, _, ⟨T8, L8, k8, n8⟩, -, X8, ⟨Lc8, hQ8, l8, y8, z8⟩, st8⟩ := X7.virtualBack hx (y := (⟨"com/example/usher/usher/Token", "grant", "(I)J"⟩ : MethodName)) (z := (⟨"com/example/usher/usher/Token", "grant", "(I)J"⟩ : MethodName)) hown (mvT hZ (hw _ (List.mem_of_getElem? (i := 71) rfl))) (mvT hZ (hw _ (List.mem_of_getElem? (i := 72) rfl))) (notFace_of_selects (args := #[]) (mvT hZ (hw _ (List.mem_of_getElem? (i := 74) rfl)))) (mvT hZ (hw _ (List.mem_of_getElem? (i := 74) rfl))) (mvT hZ (hw _ (List.mem_of_getElem? (i := 73) rfl))) (by decide) (backOf (W := 0) (rm10 l Z a0 hw [] b5 (r26 + (1 : Int32)) st T7.heap n0 Z_T7 G_T7 E_T7 g_b5) hZ (hw _ (List.mem_of_getElem? (i := 75) rfl)) (hw _ (List.mem_of_getElem? (i := 10) rfl)) (by decide) (by decide)) q8a q8c (g := (mkF m 75 #[.val (.long q1), .second, .val (.int p2), .val (.int p3), .val (.long (140737488355327 : Int64)), .second, .val (.long st), .second, .val (.int (r26 + (1 : Int32))), .val (.int (r37 + (1 : Int32))), .val (.ref b5), .val (.int (1 : Int32)), .unset, .unset, .unset, .unset, .unset, .unset, .unset, .unset, .unset, .unset, .unset, .unset] [(.int (r26 + (1 : Int32))), (.ref b5)])) rfl (by rw [hml]; rfl) (Steps.refl _) (argsL := [(.int (r26 + (1 : Int32)))]) (rest := []) (lenOf pd_0_3 rfl) rfl (by show 2 * 0 + _ ≤ _; exact Nat.le_of_eq rfl) (hb hby at_75) (fun _ _ => ⟨rfl, rfl, (by decide : 4 + 0 ≤ _), (by decide : 34 + 0 ≤ _)⟩)
  dsimp only [Pt.U, Pt.locs, Pt.cells, Pt.slots] at X8 l8 y8 z8 st8 hQ8
  subst l8 y8 z8
  obtain ⟨t8, ht8⟩ : ∃ z, z = (((st + (1 : Int64)) <<< ((16 : Int32) &&& 0x3f).toInt64) + ((r26 + (1 : Int32)).toInt64)) := ⟨_, rfl⟩
  obtain ⟨hv8, N8q, K8q, E_T8, G_T8⟩ := hQ8
  rw [← ht8] at hv8
  subst hv8
  have Z_T8 : n0 ≤ T8.heap.size := Nat.le_trans Z_T7 K8q.1
  have N8 := Fr.app N7 N8q
  obtain ⟨cq9, kq9, q9a, q9b, q9c⟩ := isOf hZ rfl (E_T8)
  obtain ⟨_, _, ⟨T9, L9, k9, n9⟩, -, X9, ⟨Lc9, hQ9, l9, y9, z9⟩, st9⟩ := X8.virtualBack hx (y := (⟨"com/example/usher/usher/Token", "getGrants", "()J"⟩ : MethodName)) (z := (⟨"com/example/usher/usher/Token", "getGrants", "()J"⟩ : MethodName)) hown (mvT hZ (hw _ (List.mem_of_getElem? (i := 66) rfl))) (mvT hZ (hw _ (List.mem_of_getElem? (i := 67) rfl))) (notFace_of_selects (args := #[]) (mvT hZ (hw _ (List.mem_of_getElem? (i := 69) rfl)))) (mvT hZ (hw _ (List.mem_of_getElem? (i := 69) rfl))) (mvT hZ (hw _ (List.mem_of_getElem? (i := 68) rfl))) (by decide) (backOf (W := 0) (rm9 l Z a0 hw [] b5 (st + (1 : Int64)) T8.heap n0 Z_T8 G_T8) hZ (hw _ (List.mem_of_getElem? (i := 70) rfl)) (hw _ (List.mem_of_getElem? (i := 10) rfl)) (by decide) (by decide)) q9a q9c (g := (mkF m 82 #[.val (.long q1), .second, .val (.int p2), .val (.int p3), .val (.long (140737488355327 : Int64)), .second, .val (.long st), .second, .val (.int (r26 + (1 : Int32))), .val (.int (r37 + (1 : Int32))), .val (.ref b5), .val (.int (1 : Int32)), .val (.long t8), .second, .unset, .unset, .unset, .unset, .unset, .unset, .unset, .unset, .unset, .unset] [(.ref b5)])) rfl (by rw [hml]; rfl) (Steps.refl _) (argsL := []) (rest := []) (lenOf pd_0_2 rfl) rfl (by show 2 * 0 + _ ≤ _; exact Nat.le_of_eq rfl) (hb hby at_82) (fun _ _ => ⟨rfl, rfl, (by decide : 4 + 0 ≤ _), (by decide : 34 + 0 ≤ _)⟩)
  dsimp only [Pt.U, Pt.locs, Pt.cells, Pt.slots] at X9 l9 y9 z9 st9 hQ9
  subst l9 y9 z9
  obtain ⟨rfl, N9q, q9⟩ := hQ9
  have Z_T9 : n0 ≤ T9.heap.size := by rw [q9]; exact Z_T8
  have E_T9 : Exa Z T9.heap b5 "com/example/usher/usher/Token" := by rw [q9]; exact E_T8
  have G_T9 : Fld Z T9.heap b5 "com/example/usher/usher/Token" "grants" "J" (.long (st + (1 : Int64))) := by rw [q9]; exact G_T8
  have N9 := Fr.app N8 N9q
  obtain ⟨cq10, kq10, q10a, q10b, q10c⟩ := isOf hZ rfl (E_T9)
  obtain ⟨_, _, ⟨T10, L10, k10, n10⟩, -, X10, ⟨Lc10, hQ10, l10, y10, z10⟩, st10⟩ := X9.virtualBack hx (y := (⟨"com/example/usher/usher/Token", "grant", "(I)J"⟩ : MethodName)) (z := (⟨"com/example/usher/usher/Token", "grant", "(I)J"⟩ : MethodName)) hown (mvT hZ (hw _ (List.mem_of_getElem? (i := 71) rfl))) (mvT hZ (hw _ (List.mem_of_getElem? (i := 72) rfl))) (notFace_of_selects (args := #[]) (mvT hZ (hw _ (List.mem_of_getElem? (i := 74) rfl)))) (mvT hZ (hw _ (List.mem_of_getElem? (i := 74) rfl))) (mvT hZ (hw _ (List.mem_of_getElem? (i := 73) rfl))) (by decide) (backOf (W := 0) (rm10 l Z a0 hw [] b5 (r37 + (1 : Int32)) (st + (1 : Int64)) T9.heap n0 Z_T9 G_T9 E_T9 g_b5) hZ (hw _ (List.mem_of_getElem? (i := 75) rfl)) (hw _ (List.mem_of_getElem? (i := 10) rfl)) (by decide) (by decide)) q10a q10c (g := (mkF m 91 #[.val (.long q1), .second, .val (.int p2), .val (.int p3), .val (.long (140737488355327 : Int64)), .second, .val (.long st), .second, .val (.int (r26 + (1 : Int32))), .val (.int (r37 + (1 : Int32))), .val (.ref b5), .val (.int (1 : Int32)), .val (.long t8), .second, .val (.long (st + (1 : Int64))), .second, .unset, .unset, .unset, .unset, .unset, .unset, .unset, .unset] [(.int (r37 + (1 : Int32))), (.ref b5)])) rfl (by rw [hml]; rfl) (Steps.refl _) (argsL := [(.int (r37 + (1 : Int32)))]) (rest := []) (lenOf pd_0_3 rfl) rfl (by show 2 * 0 + _ ≤ _; exact Nat.le_of_eq rfl) (hb hby at_91) (fun _ _ => ⟨rfl, rfl, (by decide : 4 + 0 ≤ _), (by decide : 34 + 0 ≤ _)⟩)
  dsimp only [Pt.U, Pt.locs, Pt.cells, Pt.slots] at X10 l10 y10 z10 st10 hQ10
  subst l10 y10 z10
  obtain ⟨t10, ht10⟩ : ∃ z, z = ((((st + (1 : Int64)) + (1 : Int64)) <<< ((16 : Int32) &&& 0x3f).toInt64) + ((r37 + (1 : Int32)).toInt64)) := ⟨_, rfl⟩
  obtain ⟨hv10, N10q, K10q, E_T10, G_T10⟩ := hQ10
  rw [← ht10] at hv10
  subst hv10
  have Z_T10 : n0 ≤ T10.heap.size := Nat.le_trans Z_T9 K10q.1
  have N10 := Fr.app N9 N10q
  obtain ⟨cq11, kq11, q11a, q11b, q11c⟩ := isOf hZ rfl (E_T10)
  obtain ⟨_, _, ⟨T11, L11, k11, n11⟩, -, X11, ⟨Lc11, hQ11, l11, y11, z11⟩, st11⟩ := X10.virtualBack hx (y := (⟨"com/example/usher/usher/Token", "getGrants", "()J"⟩ : MethodName)) (z := (⟨"com/example/usher/usher/Token", "getGrants", "()J"⟩ : MethodName)) hown (mvT hZ (hw _ (List.mem_of_getElem? (i := 66) rfl))) (mvT hZ (hw _ (List.mem_of_getElem? (i := 67) rfl))) (notFace_of_selects (args := #[]) (mvT hZ (hw _ (List.mem_of_getElem? (i := 69) rfl)))) (mvT hZ (hw _ (List.mem_of_getElem? (i := 69) rfl))) (mvT hZ (hw _ (List.mem_of_getElem? (i := 68) rfl))) (by decide) (backOf (W := 0) (rm9 l Z a0 hw [] b5 ((st + (1 : Int64)) + (1 : Int64)) T10.heap n0 Z_T10 G_T10) hZ (hw _ (List.mem_of_getElem? (i := 70) rfl)) (hw _ (List.mem_of_getElem? (i := 10) rfl)) (by decide) (by decide)) q11a q11c (g := (mkF m 98 #[.val (.long q1), .second, .val (.int p2), .val (.int p3), .val (.long (140737488355327 : Int64)), .second, .val (.long st), .second, .val (.int (r26 + (1 : Int32))), .val (.int (r37 + (1 : Int32))), .val (.ref b5), .val (.int (1 : Int32)), .val (.long t8), .second, .val (.long (st + (1 : Int64))), .second, .val (.long t10), .second, .unset, .unset, .unset, .unset, .unset, .unset] [(.ref b5)])) rfl (by rw [hml]; rfl) (Steps.refl _) (argsL := []) (rest := []) (lenOf pd_0_2 rfl) rfl (by show 2 * 0 + _ ≤ _; exact Nat.le_of_eq rfl) (hb hby at_98) (fun _ _ => ⟨rfl, rfl, (by decide : 4 + 0 ≤ _), (by decide : 34 + 0 ≤ _)⟩)
  dsimp only [Pt.U, Pt.locs, Pt.cells, Pt.slots] at X11 l11 y11 z11 st11 hQ11
  subst l11 y11 z11
  obtain ⟨rfl, N11q, q11⟩ := hQ11
  have Z_T11 : n0 ≤ T11.heap.size := by rw [q11]; exact Z_T10
  have E_T11 : Exa Z T11.heap b5 "com/example/usher/usher/Token" := by rw [q11]; exact E_T10
  have G_T11 : Fld Z T11.heap b5 "com/example/usher/usher/Token" "grants" "J" (.long ((st + (1 : Int64)) + (1 : Int64))) := by rw [q11]; exact G_T10
  have N11 := Fr.app N10 N11q
  obtain ⟨fs, hr, hrun, hended, hW, hsame⟩ := X11.leave (v := some (.int (1 : Int32))) (fun h => by rw [Bd.returns] at h; cases h)
  refine ⟨_, _, pre0 _ ?_, hrun, hended, _, _, rfl, ?_, ⟨_, rfl⟩, hW, hsame.mono (by decide) (by decide)⟩
  · show Steps p.tables e below (s₁.setTop (mkF m 0 #[.val (.long q1), .second, .val (.int p2), .val (.int p3), .unset, .unset, .unset, .unset, .unset, .unset, .unset, .unset, .unset, .unset, .unset, .unset, .unset, .unset, .unset, .unset, .unset, .unset, .unset, .unset] [])) _
    refine X0.ldc2Long hx hown (mvT hZ (hw _ (List.mem_of_getElem? (i := 0) rfl))) (g := (mkF m 0 #[.val (.long q1), .second, .val (.int p2), .val (.int p3), .unset, .unset, .unset, .unset, .unset, .unset, .unset, .unset, .unset, .unset, .unset, .unset, .unset, .unset, .unset, .unset, .unset, .unset, .unset, .unset] [])) rfl (hb hby at_0) _ ?_
    show Steps p.tables e below (s₁.setTop (mkF m 3 #[.val (.long q1), .second, .val (.int p2), .val (.int p3), .unset, .unset, .unset, .unset, .unset, .unset, .unset, .unset, .unset, .unset, .unset, .unset, .unset, .unset, .unset, .unset, .unset, .unset, .unset, .unset] [(.long (140737488355327 : Int64))])) _
    refine XS.lstore X0.here hx rfl (hb hby at_3) rfl (l' := #[.val (.long q1), .second, .val (.int p2), .val (.int p3), .val (.long (140737488355327 : Int64)), .second, .unset, .unset, .unset, .unset, .unset, .unset, .unset, .unset, .unset, .unset, .unset, .unset, .unset, .unset, .unset, .unset, .unset, .unset]) rfl ?_
    show Steps p.tables e below (s₁.setTop (mkF m 5 #[.val (.long q1), .second, .val (.int p2), .val (.int p3), .val (.long (140737488355327 : Int64)), .second, .unset, .unset, .unset, .unset, .unset, .unset, .unset, .unset, .unset, .unset, .unset, .unset, .unset, .unset, .unset, .unset, .unset, .unset] [])) _
    refine XS.lloadN X0.here hx rfl (hb hby at_5) rfl ?_
    show Steps p.tables e below (s₁.setTop (mkF m 6 #[.val (.long q1), .second, .val (.int p2), .val (.int p3), .val (.long (140737488355327 : Int64)), .second, .unset, .unset, .unset, .unset, .unset, .unset, .unset, .unset, .unset, .unset, .unset, .unset, .unset, .unset, .unset, .unset, .unset, .unset] [(.long q1)])) _
    refine XS.lload X0.here hx rfl (hb hby at_6) rfl ?_
    show Steps p.tables e below (s₁.setTop (mkF m 8 #[.val (.long q1), .second, .val (.int p2), .val (.int p3), .val (.long (140737488355327 : Int64)), .second, .unset, .unset, .unset, .unset, .unset, .unset, .unset, .unset, .unset, .unset, .unset, .unset, .unset, .unset, .unset, .unset, .unset, .unset] [(.long (140737488355327 : Int64)), (.long q1)])) _
    refine XS.land X0.here hx rfl (hb hby at_8) rfl ?_
    show Steps p.tables e below (s₁.setTop (mkF m 9 #[.val (.long q1), .second, .val (.int p2), .val (.int p3), .val (.long (140737488355327 : Int64)), .second, .unset, .unset, .unset, .unset, .unset, .unset, .unset, .unset, .unset, .unset, .unset, .unset, .unset, .unset, .unset, .unset, .unset, .unset] [(.long (q1 &&& (140737488355327 : Int64)))])) _
    refine XS.lload X0.here hx rfl (hb hby at_9) rfl ?_
    show Steps p.tables e below (s₁.setTop (mkF m 11 #[.val (.long q1), .second, .val (.int p2), .val (.int p3), .val (.long (140737488355327 : Int64)), .second, .unset, .unset, .unset, .unset, .unset, .unset, .unset, .unset, .unset, .unset, .unset, .unset, .unset, .unset, .unset, .unset, .unset, .unset] [(.long (140737488355327 : Int64)), (.long (q1 &&& (140737488355327 : Int64)))])) _
    refine X0.ldc2Long hx hown (mvT hZ (hw _ (List.mem_of_getElem? (i := 1) rfl))) (g := (mkF m 11 #[.val (.long q1), .second, .val (.int p2), .val (.int p3), .val (.long (140737488355327 : Int64)), .second, .unset, .unset, .unset, .unset, .unset, .unset, .unset, .unset, .unset, .unset, .unset, .unset, .unset, .unset, .unset, .unset, .unset, .unset] [(.long (140737488355327 : Int64)), (.long (q1 &&& (140737488355327 : Int64)))])) rfl (hb hby at_11) _ ?_
    show Steps p.tables e below (s₁.setTop (mkF m 14 #[.val (.long q1), .second, .val (.int p2), .val (.int p3), .val (.long (140737488355327 : Int64)), .second, .unset, .unset, .unset, .unset, .unset, .unset, .unset, .unset, .unset, .unset, .unset, .unset, .unset, .unset, .unset, .unset, .unset, .unset] [(.long (2 : Int64)), (.long (140737488355327 : Int64)), (.long (q1 &&& (140737488355327 : Int64)))])) _
    refine XS.lsub X0.here hx rfl (hb hby at_14) rfl ?_
    show Steps p.tables e below (s₁.setTop (mkF m 15 #[.val (.long q1), .second, .val (.int p2), .val (.int p3), .val (.long (140737488355327 : Int64)), .second, .unset, .unset, .unset, .unset, .unset, .unset, .unset, .unset, .unset, .unset, .unset, .unset, .unset, .unset, .unset, .unset, .unset, .unset] [(.long ((140737488355327 : Int64) - (2 : Int64))), (.long (q1 &&& (140737488355327 : Int64)))])) _
    refine st4 _ ?_
    show Steps p.tables e below (T4.setTop (mkF m 18 #[.val (.long q1), .second, .val (.int p2), .val (.int p3), .val (.long (140737488355327 : Int64)), .second, .unset, .unset, .unset, .unset, .unset, .unset, .unset, .unset, .unset, .unset, .unset, .unset, .unset, .unset, .unset, .unset, .unset, .unset] [(.long st)])) _
    refine XS.lstore X4.here hx rfl (hb hby at_18) rfl (l' := #[.val (.long q1), .second, .val (.int p2), .val (.int p3), .val (.long (140737488355327 : Int64)), .second, .val (.long st), .second, .unset, .unset, .unset, .unset, .unset, .unset, .unset, .unset, .unset, .unset, .unset, .unset, .unset, .unset, .unset, .unset]) rfl ?_
    show Steps p.tables e below (T4.setTop (mkF m 20 #[.val (.long q1), .second, .val (.int p2), .val (.int p3), .val (.long (140737488355327 : Int64)), .second, .val (.long st), .second, .unset, .unset, .unset, .unset, .unset, .unset, .unset, .unset, .unset, .unset, .unset, .unset, .unset, .unset, .unset, .unset] [])) _
    refine XS.iloadN X4.here hx rfl (hb hby at_20) rfl ?_
    show Steps p.tables e below (T4.setTop (mkF m 21 #[.val (.long q1), .second, .val (.int p2), .val (.int p3), .val (.long (140737488355327 : Int64)), .second, .val (.long st), .second, .unset, .unset, .unset, .unset, .unset, .unset, .unset, .unset, .unset, .unset, .unset, .unset, .unset, .unset, .unset, .unset] [(.int p2)])) _
    refine X4.ldcInt hx hown (mvT hZ (hw _ (List.mem_of_getElem? (i := 6) rfl))) (g := (mkF m 21 #[.val (.long q1), .second, .val (.int p2), .val (.int p3), .val (.long (140737488355327 : Int64)), .second, .val (.long st), .second, .unset, .unset, .unset, .unset, .unset, .unset, .unset, .unset, .unset, .unset, .unset, .unset, .unset, .unset, .unset, .unset] [(.int p2)])) rfl (hb hby at_21) _ ?_
    show Steps p.tables e below (T4.setTop (mkF m 23 #[.val (.long q1), .second, .val (.int p2), .val (.int p3), .val (.long (140737488355327 : Int64)), .second, .val (.long st), .second, .unset, .unset, .unset, .unset, .unset, .unset, .unset, .unset, .unset, .unset, .unset, .unset, .unset, .unset, .unset, .unset] [(.int (2147483647 : Int32)), (.int p2)])) _
    refine XS.iand X4.here hx rfl (hb hby at_23) rfl ?_
    show Steps p.tables e below (T4.setTop (mkF m 24 #[.val (.long q1), .second, .val (.int p2), .val (.int p3), .val (.long (140737488355327 : Int64)), .second, .val (.long st), .second, .unset, .unset, .unset, .unset, .unset, .unset, .unset, .unset, .unset, .unset, .unset, .unset, .unset, .unset, .unset, .unset] [(.int (p2 &&& (2147483647 : Int32)))])) _
    refine X4.ldcInt hx hown (mvT hZ (hw _ (List.mem_of_getElem? (i := 7) rfl))) (g := (mkF m 24 #[.val (.long q1), .second, .val (.int p2), .val (.int p3), .val (.long (140737488355327 : Int64)), .second, .val (.long st), .second, .unset, .unset, .unset, .unset, .unset, .unset, .unset, .unset, .unset, .unset, .unset, .unset, .unset, .unset, .unset, .unset] [(.int (p2 &&& (2147483647 : Int32)))])) rfl (hb hby at_24) _ ?_
    show Steps p.tables e below (T4.setTop (mkF m 26 #[.val (.long q1), .second, .val (.int p2), .val (.int p3), .val (.long (140737488355327 : Int64)), .second, .val (.long st), .second, .unset, .unset, .unset, .unset, .unset, .unset, .unset, .unset, .unset, .unset, .unset, .unset, .unset, .unset, .unset, .unset] [(.int (65535 : Int32)), (.int (p2 &&& (2147483647 : Int32)))])) _
    refine iremM X4 hx rfl (hb hby at_26) rfl (by decide) ?_
    rw [← hr26]
    show Steps p.tables e below (T4.setTop (mkF m 27 #[.val (.long q1), .second, .val (.int p2), .val (.int p3), .val (.long (140737488355327 : Int64)), .second, .val (.long st), .second, .unset, .unset, .unset, .unset, .unset, .unset, .unset, .unset, .unset, .unset, .unset, .unset, .unset, .unset, .unset, .unset] [(.int r26)])) _
    refine XS.iconst X4.here hx rfl (hb hby at_27) ?_
    show Steps p.tables e below (T4.setTop (mkF m 28 #[.val (.long q1), .second, .val (.int p2), .val (.int p3), .val (.long (140737488355327 : Int64)), .second, .val (.long st), .second, .unset, .unset, .unset, .unset, .unset, .unset, .unset, .unset, .unset, .unset, .unset, .unset, .unset, .unset, .unset, .unset] [(.int (1 : Int32)), (.int r26)])) _
    refine XS.iadd X4.here hx rfl (hb hby at_28) rfl ?_
    show Steps p.tables e below (T4.setTop (mkF m 29 #[.val (.long q1), .second, .val (.int p2), .val (.int p3), .val (.long (140737488355327 : Int64)), .second, .val (.long st), .second, .unset, .unset, .unset, .unset, .unset, .unset, .unset, .unset, .unset, .unset, .unset, .unset, .unset, .unset, .unset, .unset] [(.int (r26 + (1 : Int32)))])) _
    refine XS.istore X4.here hx rfl (hb hby at_29) rfl (l' := #[.val (.long q1), .second, .val (.int p2), .val (.int p3), .val (.long (140737488355327 : Int64)), .second, .val (.long st), .second, .val (.int (r26 + (1 : Int32))), .unset, .unset, .unset, .unset, .unset, .unset, .unset, .unset, .unset, .unset, .unset, .unset, .unset, .unset, .unset]) rfl ?_
    show Steps p.tables e below (T4.setTop (mkF m 31 #[.val (.long q1), .second, .val (.int p2), .val (.int p3), .val (.long (140737488355327 : Int64)), .second, .val (.long st), .second, .val (.int (r26 + (1 : Int32))), .unset, .unset, .unset, .unset, .unset, .unset, .unset, .unset, .unset, .unset, .unset, .unset, .unset, .unset, .unset] [])) _
    refine XS.iloadN X4.here hx rfl (hb hby at_31) rfl ?_
    show Steps p.tables e below (T4.setTop (mkF m 32 #[.val (.long q1), .second, .val (.int p2), .val (.int p3), .val (.long (140737488355327 : Int64)), .second, .val (.long st), .second, .val (.int (r26 + (1 : Int32))), .unset, .unset, .unset, .unset, .unset, .unset, .unset, .unset, .unset, .unset, .unset, .unset, .unset, .unset, .unset] [(.int p3)])) _
    refine X4.ldcInt hx hown (mvT hZ (hw _ (List.mem_of_getElem? (i := 6) rfl))) (g := (mkF m 32 #[.val (.long q1), .second, .val (.int p2), .val (.int p3), .val (.long (140737488355327 : Int64)), .second, .val (.long st), .second, .val (.int (r26 + (1 : Int32))), .unset, .unset, .unset, .unset, .unset, .unset, .unset, .unset, .unset, .unset, .unset, .unset, .unset, .unset, .unset] [(.int p3)])) rfl (hb hby at_32) _ ?_
    show Steps p.tables e below (T4.setTop (mkF m 34 #[.val (.long q1), .second, .val (.int p2), .val (.int p3), .val (.long (140737488355327 : Int64)), .second, .val (.long st), .second, .val (.int (r26 + (1 : Int32))), .unset, .unset, .unset, .unset, .unset, .unset, .unset, .unset, .unset, .unset, .unset, .unset, .unset, .unset, .unset] [(.int (2147483647 : Int32)), (.int p3)])) _
    refine XS.iand X4.here hx rfl (hb hby at_34) rfl ?_
    show Steps p.tables e below (T4.setTop (mkF m 35 #[.val (.long q1), .second, .val (.int p2), .val (.int p3), .val (.long (140737488355327 : Int64)), .second, .val (.long st), .second, .val (.int (r26 + (1 : Int32))), .unset, .unset, .unset, .unset, .unset, .unset, .unset, .unset, .unset, .unset, .unset, .unset, .unset, .unset, .unset] [(.int (p3 &&& (2147483647 : Int32)))])) _
    refine X4.ldcInt hx hown (mvT hZ (hw _ (List.mem_of_getElem? (i := 7) rfl))) (g := (mkF m 35 #[.val (.long q1), .second, .val (.int p2), .val (.int p3), .val (.long (140737488355327 : Int64)), .second, .val (.long st), .second, .val (.int (r26 + (1 : Int32))), .unset, .unset, .unset, .unset, .unset, .unset, .unset, .unset, .unset, .unset, .unset, .unset, .unset, .unset, .unset] [(.int (p3 &&& (2147483647 : Int32)))])) rfl (hb hby at_35) _ ?_
    show Steps p.tables e below (T4.setTop (mkF m 37 #[.val (.long q1), .second, .val (.int p2), .val (.int p3), .val (.long (140737488355327 : Int64)), .second, .val (.long st), .second, .val (.int (r26 + (1 : Int32))), .unset, .unset, .unset, .unset, .unset, .unset, .unset, .unset, .unset, .unset, .unset, .unset, .unset, .unset, .unset] [(.int (65535 : Int32)), (.int (p3 &&& (2147483647 : Int32)))])) _
    refine iremM X4 hx rfl (hb hby at_37) rfl (by decide) ?_
    rw [← hr37]
    show Steps p.tables e below (T4.setTop (mkF m 38 #[.val (.long q1), .second, .val (.int p2), .val (.int p3), .val (.long (140737488355327 : Int64)), .second, .val (.long st), .second, .val (.int (r26 + (1 : Int32))), .unset, .unset, .unset, .unset, .unset, .unset, .unset, .unset, .unset, .unset, .unset, .unset, .unset, .unset, .unset] [(.int r37)])) _
    refine XS.iconst X4.here hx rfl (hb hby at_38) ?_
    show Steps p.tables e below (T4.setTop (mkF m 39 #[.val (.long q1), .second, .val (.int p2), .val (.int p3), .val (.long (140737488355327 : Int64)), .second, .val (.long st), .second, .val (.int (r26 + (1 : Int32))), .unset, .unset, .unset, .unset, .unset, .unset, .unset, .unset, .unset, .unset, .unset, .unset, .unset, .unset, .unset] [(.int (1 : Int32)), (.int r37)])) _
    refine XS.iadd X4.here hx rfl (hb hby at_39) rfl ?_
    show Steps p.tables e below (T4.setTop (mkF m 40 #[.val (.long q1), .second, .val (.int p2), .val (.int p3), .val (.long (140737488355327 : Int64)), .second, .val (.long st), .second, .val (.int (r26 + (1 : Int32))), .unset, .unset, .unset, .unset, .unset, .unset, .unset, .unset, .unset, .unset, .unset, .unset, .unset, .unset, .unset] [(.int (r37 + (1 : Int32)))])) _
    refine XS.istore X4.here hx rfl (hb hby at_40) rfl (l' := #[.val (.long q1), .second, .val (.int p2), .val (.int p3), .val (.long (140737488355327 : Int64)), .second, .val (.long st), .second, .val (.int (r26 + (1 : Int32))), .val (.int (r37 + (1 : Int32))), .unset, .unset, .unset, .unset, .unset, .unset, .unset, .unset, .unset, .unset, .unset, .unset, .unset, .unset]) rfl ?_
    show Steps p.tables e below (T4.setTop (mkF m 42 #[.val (.long q1), .second, .val (.int p2), .val (.int p3), .val (.long (140737488355327 : Int64)), .second, .val (.long st), .second, .val (.int (r26 + (1 : Int32))), .val (.int (r37 + (1 : Int32))), .unset, .unset, .unset, .unset, .unset, .unset, .unset, .unset, .unset, .unset, .unset, .unset, .unset, .unset] [])) _
    refine st5 _ ?_
    show Steps p.tables e below (T5.setTop (mkF m 45 #[.val (.long q1), .second, .val (.int p2), .val (.int p3), .val (.long (140737488355327 : Int64)), .second, .val (.long st), .second, .val (.int (r26 + (1 : Int32))), .val (.int (r37 + (1 : Int32))), .unset, .unset, .unset, .unset, .unset, .unset, .unset, .unset, .unset, .unset, .unset, .unset, .unset, .unset] [(.ref b5)])) _
    refine XS.dup X5.here hx rfl (hb hby at_45) rfl rfl ?_
    show Steps p.tables e below (T5.setTop (mkF m 46 #[.val (.long q1), .second, .val (.int p2), .val (.int p3), .val (.long (140737488355327 : Int64)), .second, .val (.long st), .second, .val (.int (r26 + (1 : Int32))), .val (.int (r37 + (1 : Int32))), .unset, .unset, .unset, .unset, .unset, .unset, .unset, .unset, .unset, .unset, .unset, .unset, .unset, .unset] [(.ref b5), (.ref b5)])) _
    refine XS.lload X5.here hx rfl (hb hby at_46) rfl ?_
    show Steps p.tables e below (T5.setTop (mkF m 48 #[.val (.long q1), .second, .val (.int p2), .val (.int p3), .val (.long (140737488355327 : Int64)), .second, .val (.long st), .second, .val (.int (r26 + (1 : Int32))), .val (.int (r37 + (1 : Int32))), .unset, .unset, .unset, .unset, .unset, .unset, .unset, .unset, .unset, .unset, .unset, .unset, .unset, .unset] [(.long st), (.ref b5), (.ref b5)])) _
    refine st6.trans ?_
    show Steps p.tables e below (T6.setTop (mkF m 51 #[.val (.long q1), .second, .val (.int p2), .val (.int p3), .val (.long (140737488355327 : Int64)), .second, .val (.long st), .second, .val (.int (r26 + (1 : Int32))), .val (.int (r37 + (1 : Int32))), .unset, .unset, .unset, .unset, .unset, .unset, .unset, .unset, .unset, .unset, .unset, .unset, .unset, .unset] [(.ref b5)])) _
    refine XS.astore X6.here hx rfl (hb hby at_51) rfl rfl (l' := #[.val (.long q1), .second, .val (.int p2), .val (.int p3), .val (.long (140737488355327 : Int64)), .second, .val (.long st), .second, .val (.int (r26 + (1 : Int32))), .val (.int (r37 + (1 : Int32))), .val (.ref b5), .unset, .unset, .unset, .unset, .unset, .unset, .unset, .unset, .unset, .unset, .unset, .unset, .unset]) rfl ?_
    show Steps p.tables e below (T6.setTop (mkF m 53 #[.val (.long q1), .second, .val (.int p2), .val (.int p3), .val (.long (140737488355327 : Int64)), .second, .val (.long st), .second, .val (.int (r26 + (1 : Int32))), .val (.int (r37 + (1 : Int32))), .val (.ref b5), .unset, .unset, .unset, .unset, .unset, .unset, .unset, .unset, .unset, .unset, .unset, .unset, .unset] [])) _
    refine XS.aload X6.here hx rfl (hb hby at_53) rfl rfl ?_
    show Steps p.tables e below (T6.setTop (mkF m 55 #[.val (.long q1), .second, .val (.int p2), .val (.int p3), .val (.long (140737488355327 : Int64)), .second, .val (.long st), .second, .val (.int (r26 + (1 : Int32))), .val (.int (r37 + (1 : Int32))), .val (.ref b5), .unset, .unset, .unset, .unset, .unset, .unset, .unset, .unset, .unset, .unset, .unset, .unset, .unset] [(.ref b5)])) _
    refine st7.trans ?_
    show Steps p.tables e below (T7.setTop (mkF m 58 #[.val (.long q1), .second, .val (.int p2), .val (.int p3), .val (.long (140737488355327 : Int64)), .second, .val (.long st), .second, .val (.int (r26 + (1 : Int32))), .val (.int (r37 + (1 : Int32))), .val (.ref b5), .unset, .unset, .unset, .unset, .unset, .unset, .unset, .unset, .unset, .unset, .unset, .unset, .unset] [(.long st)])) _
    refine XS.lload X7.here hx rfl (hb hby at_58) rfl ?_
    show Steps p.tables e below (T7.setTop (mkF m 60 #[.val (.long q1), .second, .val (.int p2), .val (.int p3), .val (.long (140737488355327 : Int64)), .second, .val (.long st), .second, .val (.int (r26 + (1 : Int32))), .val (.int (r37 + (1 : Int32))), .val (.ref b5), .unset, .unset, .unset, .unset, .unset, .unset, .unset, .unset, .unset, .unset, .unset, .unset, .unset] [(.long st), (.long st)])) _
    refine XS.lcmp X7.here hx rfl (hb hby at_60) rfl ?_
    show Steps p.tables e below (T7.setTop (mkF m 61 #[.val (.long q1), .second, .val (.int p2), .val (.int p3), .val (.long (140737488355327 : Int64)), .second, .val (.long st), .second, .val (.int (r26 + (1 : Int32))), .val (.int (r37 + (1 : Int32))), .val (.ref b5), .unset, .unset, .unset, .unset, .unset, .unset, .unset, .unset, .unset, .unset, .unset, .unset, .unset] [(.int (lcmpW st st))])) _
    refine XS.ifNo X7.here hx rfl (hb hby at_61) rfl ((if0 _ _).trans (teq ((lw_eq _ _).mpr rfl)).2) ?_
    show Steps p.tables e below (T7.setTop (mkF m 64 #[.val (.long q1), .second, .val (.int p2), .val (.int p3), .val (.long (140737488355327 : Int64)), .second, .val (.long st), .second, .val (.int (r26 + (1 : Int32))), .val (.int (r37 + (1 : Int32))), .val (.ref b5), .unset, .unset, .unset, .unset, .unset, .unset, .unset, .unset, .unset, .unset, .unset, .unset, .unset] [])) _
    refine XS.iconst X7.here hx rfl (hb hby at_64) ?_
    show Steps p.tables e below (T7.setTop (mkF m 65 #[.val (.long q1), .second, .val (.int p2), .val (.int p3), .val (.long (140737488355327 : Int64)), .second, .val (.long st), .second, .val (.int (r26 + (1 : Int32))), .val (.int (r37 + (1 : Int32))), .val (.ref b5), .unset, .unset, .unset, .unset, .unset, .unset, .unset, .unset, .unset, .unset, .unset, .unset, .unset] [(.int (1 : Int32))])) _
    refine XS.goto X7.here hx rfl (pc0 := 65) (pc' := 69) rfl (hb hby at_65) (by decide) (by decide) ?_
    show Steps p.tables e below (T7.setTop (mkF m 69 #[.val (.long q1), .second, .val (.int p2), .val (.int p3), .val (.long (140737488355327 : Int64)), .second, .val (.long st), .second, .val (.int (r26 + (1 : Int32))), .val (.int (r37 + (1 : Int32))), .val (.ref b5), .unset, .unset, .unset, .unset, .unset, .unset, .unset, .unset, .unset, .unset, .unset, .unset, .unset] [(.int (1 : Int32))])) _
    refine XS.istore X7.here hx rfl (hb hby at_69) rfl (l' := #[.val (.long q1), .second, .val (.int p2), .val (.int p3), .val (.long (140737488355327 : Int64)), .second, .val (.long st), .second, .val (.int (r26 + (1 : Int32))), .val (.int (r37 + (1 : Int32))), .val (.ref b5), .val (.int (1 : Int32)), .unset, .unset, .unset, .unset, .unset, .unset, .unset, .unset, .unset, .unset, .unset, .unset]) rfl ?_
    show Steps p.tables e below (T7.setTop (mkF m 71 #[.val (.long q1), .second, .val (.int p2), .val (.int p3), .val (.long (140737488355327 : Int64)), .second, .val (.long st), .second, .val (.int (r26 + (1 : Int32))), .val (.int (r37 + (1 : Int32))), .val (.ref b5), .val (.int (1 : Int32)), .unset, .unset, .unset, .unset, .unset, .unset, .unset, .unset, .unset, .unset, .unset, .unset] [])) _
    refine XS.aload X7.here hx rfl (hb hby at_71) rfl rfl ?_
    show Steps p.tables e below (T7.setTop (mkF m 73 #[.val (.long q1), .second, .val (.int p2), .val (.int p3), .val (.long (140737488355327 : Int64)), .second, .val (.long st), .second, .val (.int (r26 + (1 : Int32))), .val (.int (r37 + (1 : Int32))), .val (.ref b5), .val (.int (1 : Int32)), .unset, .unset, .unset, .unset, .unset, .unset, .unset, .unset, .unset, .unset, .unset, .unset] [(.ref b5)])) _
    refine XS.iload X7.here hx rfl (hb hby at_73) rfl ?_
    show Steps p.tables e below (T7.setTop (mkF m 75 #[.val (.long q1), .second, .val (.int p2), .val (.int p3), .val (.long (140737488355327 : Int64)), .second, .val (.long st), .second, .val (.int (r26 + (1 : Int32))), .val (.int (r37 + (1 : Int32))), .val (.ref b5), .val (.int (1 : Int32)), .unset, .unset, .unset, .unset, .unset, .unset, .unset, .unset, .unset, .unset, .unset, .unset] [(.int (r26 + (1 : Int32))), (.ref b5)])) _
    refine st8.trans ?_
    show Steps p.tables e below (T8.setTop (mkF m 78 #[.val (.long q1), .second, .val (.int p2), .val (.int p3), .val (.long (140737488355327 : Int64)), .second, .val (.long st), .second, .val (.int (r26 + (1 : Int32))), .val (.int (r37 + (1 : Int32))), .val (.ref b5), .val (.int (1 : Int32)), .unset, .unset, .unset, .unset, .unset, .unset, .unset, .unset, .unset, .unset, .unset, .unset] [(.long t8)])) _
    refine XS.lstore X8.here hx rfl (hb hby at_78) rfl (l' := #[.val (.long q1), .second, .val (.int p2), .val (.int p3), .val (.long (140737488355327 : Int64)), .second, .val (.long st), .second, .val (.int (r26 + (1 : Int32))), .val (.int (r37 + (1 : Int32))), .val (.ref b5), .val (.int (1 : Int32)), .val (.long t8), .second, .unset, .unset, .unset, .unset, .unset, .unset, .unset, .unset, .unset, .unset]) rfl ?_
    show Steps p.tables e below (T8.setTop (mkF m 80 #[.val (.long q1), .second, .val (.int p2), .val (.int p3), .val (.long (140737488355327 : Int64)), .second, .val (.long st), .second, .val (.int (r26 + (1 : Int32))), .val (.int (r37 + (1 : Int32))), .val (.ref b5), .val (.int (1 : Int32)), .val (.long t8), .second, .unset, .unset, .unset, .unset, .unset, .unset, .unset, .unset, .unset, .unset] [])) _
    refine XS.aload X8.here hx rfl (hb hby at_80) rfl rfl ?_
    show Steps p.tables e below (T8.setTop (mkF m 82 #[.val (.long q1), .second, .val (.int p2), .val (.int p3), .val (.long (140737488355327 : Int64)), .second, .val (.long st), .second, .val (.int (r26 + (1 : Int32))), .val (.int (r37 + (1 : Int32))), .val (.ref b5), .val (.int (1 : Int32)), .val (.long t8), .second, .unset, .unset, .unset, .unset, .unset, .unset, .unset, .unset, .unset, .unset] [(.ref b5)])) _
    refine st9.trans ?_
    show Steps p.tables e below (T9.setTop (mkF m 85 #[.val (.long q1), .second, .val (.int p2), .val (.int p3), .val (.long (140737488355327 : Int64)), .second, .val (.long st), .second, .val (.int (r26 + (1 : Int32))), .val (.int (r37 + (1 : Int32))), .val (.ref b5), .val (.int (1 : Int32)), .val (.long t8), .second, .unset, .unset, .unset, .unset, .unset, .unset, .unset, .unset, .unset, .unset] [(.long (st + (1 : Int64)))])) _
    refine XS.lstore X9.here hx rfl (hb hby at_85) rfl (l' := #[.val (.long q1), .second, .val (.int p2), .val (.int p3), .val (.long (140737488355327 : Int64)), .second, .val (.long st), .second, .val (.int (r26 + (1 : Int32))), .val (.int (r37 + (1 : Int32))), .val (.ref b5), .val (.int (1 : Int32)), .val (.long t8), .second, .val (.long (st + (1 : Int64))), .second, .unset, .unset, .unset, .unset, .unset, .unset, .unset, .unset]) rfl ?_
    show Steps p.tables e below (T9.setTop (mkF m 87 #[.val (.long q1), .second, .val (.int p2), .val (.int p3), .val (.long (140737488355327 : Int64)), .second, .val (.long st), .second, .val (.int (r26 + (1 : Int32))), .val (.int (r37 + (1 : Int32))), .val (.ref b5), .val (.int (1 : Int32)), .val (.long t8), .second, .val (.long (st + (1 : Int64))), .second, .unset, .unset, .unset, .unset, .unset, .unset, .unset, .unset] [])) _
    refine XS.aload X9.here hx rfl (hb hby at_87) rfl rfl ?_
    show Steps p.tables e below (T9.setTop (mkF m 89 #[.val (.long q1), .second, .val (.int p2), .val (.int p3), .val (.long (140737488355327 : Int64)), .second, .val (.long st), .second, .val (.int (r26 + (1 : Int32))), .val (.int (r37 + (1 : Int32))), .val (.ref b5), .val (.int (1 : Int32)), .val (.long t8), .second, .val (.long (st + (1 : Int64))), .second, .unset, .unset, .unset, .unset, .unset, .unset, .unset, .unset] [(.ref b5)])) _
    refine XS.iload X9.here hx rfl (hb hby at_89) rfl ?_
    show Steps p.tables e below (T9.setTop (mkF m 91 #[.val (.long q1), .second, .val (.int p2), .val (.int p3), .val (.long (140737488355327 : Int64)), .second, .val (.long st), .second, .val (.int (r26 + (1 : Int32))), .val (.int (r37 + (1 : Int32))), .val (.ref b5), .val (.int (1 : Int32)), .val (.long t8), .second, .val (.long (st + (1 : Int64))), .second, .unset, .unset, .unset, .unset, .unset, .unset, .unset, .unset] [(.int (r37 + (1 : Int32))), (.ref b5)])) _
    refine st10.trans ?_
    show Steps p.tables e below (T10.setTop (mkF m 94 #[.val (.long q1), .second, .val (.int p2), .val (.int p3), .val (.long (140737488355327 : Int64)), .second, .val (.long st), .second, .val (.int (r26 + (1 : Int32))), .val (.int (r37 + (1 : Int32))), .val (.ref b5), .val (.int (1 : Int32)), .val (.long t8), .second, .val (.long (st + (1 : Int64))), .second, .unset, .unset, .unset, .unset, .unset, .unset, .unset, .unset] [(.long t10)])) _
    refine XS.lstore X10.here hx rfl (hb hby at_94) rfl (l' := #[.val (.long q1), .second, .val (.int p2), .val (.int p3), .val (.long (140737488355327 : Int64)), .second, .val (.long st), .second, .val (.int (r26 + (1 : Int32))), .val (.int (r37 + (1 : Int32))), .val (.ref b5), .val (.int (1 : Int32)), .val (.long t8), .second, .val (.long (st + (1 : Int64))), .second, .val (.long t10), .second, .unset, .unset, .unset, .unset, .unset, .unset]) rfl ?_
    show Steps p.tables e below (T10.setTop (mkF m 96 #[.val (.long q1), .second, .val (.int p2), .val (.int p3), .val (.long (140737488355327 : Int64)), .second, .val (.long st), .second, .val (.int (r26 + (1 : Int32))), .val (.int (r37 + (1 : Int32))), .val (.ref b5), .val (.int (1 : Int32)), .val (.long t8), .second, .val (.long (st + (1 : Int64))), .second, .val (.long t10), .second, .unset, .unset, .unset, .unset, .unset, .unset] [])) _
    refine XS.aload X10.here hx rfl (hb hby at_96) rfl rfl ?_
    show Steps p.tables e below (T10.setTop (mkF m 98 #[.val (.long q1), .second, .val (.int p2), .val (.int p3), .val (.long (140737488355327 : Int64)), .second, .val (.long st), .second, .val (.int (r26 + (1 : Int32))), .val (.int (r37 + (1 : Int32))), .val (.ref b5), .val (.int (1 : Int32)), .val (.long t8), .second, .val (.long (st + (1 : Int64))), .second, .val (.long t10), .second, .unset, .unset, .unset, .unset, .unset, .unset] [(.ref b5)])) _
    refine st11.trans ?_
    show Steps p.tables e below (T11.setTop (mkF m 101 #[.val (.long q1), .second, .val (.int p2), .val (.int p3), .val (.long (140737488355327 : Int64)), .second, .val (.long st), .second, .val (.int (r26 + (1 : Int32))), .val (.int (r37 + (1 : Int32))), .val (.ref b5), .val (.int (1 : Int32)), .val (.long t8), .second, .val (.long (st + (1 : Int64))), .second, .val (.long t10), .second, .unset, .unset, .unset, .unset, .unset, .unset] [(.long ((st + (1 : Int64)) + (1 : Int64)))])) _
    refine XS.lstore X11.here hx rfl (hb hby at_101) rfl (l' := #[.val (.long q1), .second, .val (.int p2), .val (.int p3), .val (.long (140737488355327 : Int64)), .second, .val (.long st), .second, .val (.int (r26 + (1 : Int32))), .val (.int (r37 + (1 : Int32))), .val (.ref b5), .val (.int (1 : Int32)), .val (.long t8), .second, .val (.long (st + (1 : Int64))), .second, .val (.long t10), .second, .val (.long ((st + (1 : Int64)) + (1 : Int64))), .second, .unset, .unset, .unset, .unset]) rfl ?_
    show Steps p.tables e below (T11.setTop (mkF m 103 #[.val (.long q1), .second, .val (.int p2), .val (.int p3), .val (.long (140737488355327 : Int64)), .second, .val (.long st), .second, .val (.int (r26 + (1 : Int32))), .val (.int (r37 + (1 : Int32))), .val (.ref b5), .val (.int (1 : Int32)), .val (.long t8), .second, .val (.long (st + (1 : Int64))), .second, .val (.long t10), .second, .val (.long ((st + (1 : Int64)) + (1 : Int64))), .second, .unset, .unset, .unset, .unset] [])) _
    refine XS.lload X11.here hx rfl (hb hby at_103) rfl ?_
    show Steps p.tables e below (T11.setTop (mkF m 105 #[.val (.long q1), .second, .val (.int p2), .val (.int p3), .val (.long (140737488355327 : Int64)), .second, .val (.long st), .second, .val (.int (r26 + (1 : Int32))), .val (.int (r37 + (1 : Int32))), .val (.ref b5), .val (.int (1 : Int32)), .val (.long t8), .second, .val (.long (st + (1 : Int64))), .second, .val (.long t10), .second, .val (.long ((st + (1 : Int64)) + (1 : Int64))), .second, .unset, .unset, .unset, .unset] [(.long st)])) _
    refine XS.lconst X11.here hx rfl (hb hby at_105) ?_
    show Steps p.tables e below (T11.setTop (mkF m 106 #[.val (.long q1), .second, .val (.int p2), .val (.int p3), .val (.long (140737488355327 : Int64)), .second, .val (.long st), .second, .val (.int (r26 + (1 : Int32))), .val (.int (r37 + (1 : Int32))), .val (.ref b5), .val (.int (1 : Int32)), .val (.long t8), .second, .val (.long (st + (1 : Int64))), .second, .val (.long t10), .second, .val (.long ((st + (1 : Int64)) + (1 : Int64))), .second, .unset, .unset, .unset, .unset] [(.long (1 : Int64)), (.long st)])) _
    refine XS.ladd X11.here hx rfl (hb hby at_106) rfl ?_
    show Steps p.tables e below (T11.setTop (mkF m 107 #[.val (.long q1), .second, .val (.int p2), .val (.int p3), .val (.long (140737488355327 : Int64)), .second, .val (.long st), .second, .val (.int (r26 + (1 : Int32))), .val (.int (r37 + (1 : Int32))), .val (.ref b5), .val (.int (1 : Int32)), .val (.long t8), .second, .val (.long (st + (1 : Int64))), .second, .val (.long t10), .second, .val (.long ((st + (1 : Int64)) + (1 : Int64))), .second, .unset, .unset, .unset, .unset] [(.long (st + (1 : Int64)))])) _
    refine X11.ldc2Long hx hown (mvT hZ (hw _ (List.mem_of_getElem? (i := 80) rfl))) (g := (mkF m 107 #[.val (.long q1), .second, .val (.int p2), .val (.int p3), .val (.long (140737488355327 : Int64)), .second, .val (.long st), .second, .val (.int (r26 + (1 : Int32))), .val (.int (r37 + (1 : Int32))), .val (.ref b5), .val (.int (1 : Int32)), .val (.long t8), .second, .val (.long (st + (1 : Int64))), .second, .val (.long t10), .second, .val (.long ((st + (1 : Int64)) + (1 : Int64))), .second, .unset, .unset, .unset, .unset] [(.long (st + (1 : Int64)))])) rfl (hb hby at_107) _ ?_
    show Steps p.tables e below (T11.setTop (mkF m 110 #[.val (.long q1), .second, .val (.int p2), .val (.int p3), .val (.long (140737488355327 : Int64)), .second, .val (.long st), .second, .val (.int (r26 + (1 : Int32))), .val (.int (r37 + (1 : Int32))), .val (.ref b5), .val (.int (1 : Int32)), .val (.long t8), .second, .val (.long (st + (1 : Int64))), .second, .val (.long t10), .second, .val (.long ((st + (1 : Int64)) + (1 : Int64))), .second, .unset, .unset, .unset, .unset] [(.long (65536 : Int64)), (.long (st + (1 : Int64)))])) _
    refine XS.lmul X11.here hx rfl (hb hby at_110) rfl ?_
    show Steps p.tables e below (T11.setTop (mkF m 111 #[.val (.long q1), .second, .val (.int p2), .val (.int p3), .val (.long (140737488355327 : Int64)), .second, .val (.long st), .second, .val (.int (r26 + (1 : Int32))), .val (.int (r37 + (1 : Int32))), .val (.ref b5), .val (.int (1 : Int32)), .val (.long t8), .second, .val (.long (st + (1 : Int64))), .second, .val (.long t10), .second, .val (.long ((st + (1 : Int64)) + (1 : Int64))), .second, .unset, .unset, .unset, .unset] [(.long ((st + (1 : Int64)) * (65536 : Int64)))])) _
    refine XS.iload X11.here hx rfl (hb hby at_111) rfl ?_
    show Steps p.tables e below (T11.setTop (mkF m 113 #[.val (.long q1), .second, .val (.int p2), .val (.int p3), .val (.long (140737488355327 : Int64)), .second, .val (.long st), .second, .val (.int (r26 + (1 : Int32))), .val (.int (r37 + (1 : Int32))), .val (.ref b5), .val (.int (1 : Int32)), .val (.long t8), .second, .val (.long (st + (1 : Int64))), .second, .val (.long t10), .second, .val (.long ((st + (1 : Int64)) + (1 : Int64))), .second, .unset, .unset, .unset, .unset] [(.int (r26 + (1 : Int32))), (.long ((st + (1 : Int64)) * (65536 : Int64)))])) _
    refine XS.i2l X11.here hx rfl (hb hby at_113) rfl ?_
    show Steps p.tables e below (T11.setTop (mkF m 114 #[.val (.long q1), .second, .val (.int p2), .val (.int p3), .val (.long (140737488355327 : Int64)), .second, .val (.long st), .second, .val (.int (r26 + (1 : Int32))), .val (.int (r37 + (1 : Int32))), .val (.ref b5), .val (.int (1 : Int32)), .val (.long t8), .second, .val (.long (st + (1 : Int64))), .second, .val (.long t10), .second, .val (.long ((st + (1 : Int64)) + (1 : Int64))), .second, .unset, .unset, .unset, .unset] [(.long ((r26 + (1 : Int32)).toInt64)), (.long ((st + (1 : Int64)) * (65536 : Int64)))])) _
    refine XS.ladd X11.here hx rfl (hb hby at_114) rfl ?_
    show Steps p.tables e below (T11.setTop (mkF m 115 #[.val (.long q1), .second, .val (.int p2), .val (.int p3), .val (.long (140737488355327 : Int64)), .second, .val (.long st), .second, .val (.int (r26 + (1 : Int32))), .val (.int (r37 + (1 : Int32))), .val (.ref b5), .val (.int (1 : Int32)), .val (.long t8), .second, .val (.long (st + (1 : Int64))), .second, .val (.long t10), .second, .val (.long ((st + (1 : Int64)) + (1 : Int64))), .second, .unset, .unset, .unset, .unset] [(.long (((st + (1 : Int64)) * (65536 : Int64)) + ((r26 + (1 : Int32)).toInt64)))])) _
    refine XS.lstore X11.here hx rfl (hb hby at_115) rfl (l' := #[.val (.long q1), .second, .val (.int p2), .val (.int p3), .val (.long (140737488355327 : Int64)), .second, .val (.long st), .second, .val (.int (r26 + (1 : Int32))), .val (.int (r37 + (1 : Int32))), .val (.ref b5), .val (.int (1 : Int32)), .val (.long t8), .second, .val (.long (st + (1 : Int64))), .second, .val (.long t10), .second, .val (.long ((st + (1 : Int64)) + (1 : Int64))), .second, .val (.long (((st + (1 : Int64)) * (65536 : Int64)) + ((r26 + (1 : Int32)).toInt64))), .second, .unset, .unset]) rfl ?_
    show Steps p.tables e below (T11.setTop (mkF m 117 #[.val (.long q1), .second, .val (.int p2), .val (.int p3), .val (.long (140737488355327 : Int64)), .second, .val (.long st), .second, .val (.int (r26 + (1 : Int32))), .val (.int (r37 + (1 : Int32))), .val (.ref b5), .val (.int (1 : Int32)), .val (.long t8), .second, .val (.long (st + (1 : Int64))), .second, .val (.long t10), .second, .val (.long ((st + (1 : Int64)) + (1 : Int64))), .second, .val (.long (((st + (1 : Int64)) * (65536 : Int64)) + ((r26 + (1 : Int32)).toInt64))), .second, .unset, .unset] [])) _
    refine XS.lload X11.here hx rfl (hb hby at_117) rfl ?_
    show Steps p.tables e below (T11.setTop (mkF m 119 #[.val (.long q1), .second, .val (.int p2), .val (.int p3), .val (.long (140737488355327 : Int64)), .second, .val (.long st), .second, .val (.int (r26 + (1 : Int32))), .val (.int (r37 + (1 : Int32))), .val (.ref b5), .val (.int (1 : Int32)), .val (.long t8), .second, .val (.long (st + (1 : Int64))), .second, .val (.long t10), .second, .val (.long ((st + (1 : Int64)) + (1 : Int64))), .second, .val (.long (((st + (1 : Int64)) * (65536 : Int64)) + ((r26 + (1 : Int32)).toInt64))), .second, .unset, .unset] [(.long st)])) _
    refine X11.ldc2Long hx hown (mvT hZ (hw _ (List.mem_of_getElem? (i := 1) rfl))) (g := (mkF m 119 #[.val (.long q1), .second, .val (.int p2), .val (.int p3), .val (.long (140737488355327 : Int64)), .second, .val (.long st), .second, .val (.int (r26 + (1 : Int32))), .val (.int (r37 + (1 : Int32))), .val (.ref b5), .val (.int (1 : Int32)), .val (.long t8), .second, .val (.long (st + (1 : Int64))), .second, .val (.long t10), .second, .val (.long ((st + (1 : Int64)) + (1 : Int64))), .second, .val (.long (((st + (1 : Int64)) * (65536 : Int64)) + ((r26 + (1 : Int32)).toInt64))), .second, .unset, .unset] [(.long st)])) rfl (hb hby at_119) _ ?_
    show Steps p.tables e below (T11.setTop (mkF m 122 #[.val (.long q1), .second, .val (.int p2), .val (.int p3), .val (.long (140737488355327 : Int64)), .second, .val (.long st), .second, .val (.int (r26 + (1 : Int32))), .val (.int (r37 + (1 : Int32))), .val (.ref b5), .val (.int (1 : Int32)), .val (.long t8), .second, .val (.long (st + (1 : Int64))), .second, .val (.long t10), .second, .val (.long ((st + (1 : Int64)) + (1 : Int64))), .second, .val (.long (((st + (1 : Int64)) * (65536 : Int64)) + ((r26 + (1 : Int32)).toInt64))), .second, .unset, .unset] [(.long (2 : Int64)), (.long st)])) _
    refine XS.ladd X11.here hx rfl (hb hby at_122) rfl ?_
    show Steps p.tables e below (T11.setTop (mkF m 123 #[.val (.long q1), .second, .val (.int p2), .val (.int p3), .val (.long (140737488355327 : Int64)), .second, .val (.long st), .second, .val (.int (r26 + (1 : Int32))), .val (.int (r37 + (1 : Int32))), .val (.ref b5), .val (.int (1 : Int32)), .val (.long t8), .second, .val (.long (st + (1 : Int64))), .second, .val (.long t10), .second, .val (.long ((st + (1 : Int64)) + (1 : Int64))), .second, .val (.long (((st + (1 : Int64)) * (65536 : Int64)) + ((r26 + (1 : Int32)).toInt64))), .second, .unset, .unset] [(.long (st + (2 : Int64)))])) _
    refine X11.ldc2Long hx hown (mvT hZ (hw _ (List.mem_of_getElem? (i := 80) rfl))) (g := (mkF m 123 #[.val (.long q1), .second, .val (.int p2), .val (.int p3), .val (.long (140737488355327 : Int64)), .second, .val (.long st), .second, .val (.int (r26 + (1 : Int32))), .val (.int (r37 + (1 : Int32))), .val (.ref b5), .val (.int (1 : Int32)), .val (.long t8), .second, .val (.long (st + (1 : Int64))), .second, .val (.long t10), .second, .val (.long ((st + (1 : Int64)) + (1 : Int64))), .second, .val (.long (((st + (1 : Int64)) * (65536 : Int64)) + ((r26 + (1 : Int32)).toInt64))), .second, .unset, .unset] [(.long (st + (2 : Int64)))])) rfl (hb hby at_123) _ ?_
    show Steps p.tables e below (T11.setTop (mkF m 126 #[.val (.long q1), .second, .val (.int p2), .val (.int p3), .val (.long (140737488355327 : Int64)), .second, .val (.long st), .second, .val (.int (r26 + (1 : Int32))), .val (.int (r37 + (1 : Int32))), .val (.ref b5), .val (.int (1 : Int32)), .val (.long t8), .second, .val (.long (st + (1 : Int64))), .second, .val (.long t10), .second, .val (.long ((st + (1 : Int64)) + (1 : Int64))), .second, .val (.long (((st + (1 : Int64)) * (65536 : Int64)) + ((r26 + (1 : Int32)).toInt64))), .second, .unset, .unset] [(.long (65536 : Int64)), (.long (st + (2 : Int64)))])) _
    refine XS.lmul X11.here hx rfl (hb hby at_126) rfl ?_
    show Steps p.tables e below (T11.setTop (mkF m 127 #[.val (.long q1), .second, .val (.int p2), .val (.int p3), .val (.long (140737488355327 : Int64)), .second, .val (.long st), .second, .val (.int (r26 + (1 : Int32))), .val (.int (r37 + (1 : Int32))), .val (.ref b5), .val (.int (1 : Int32)), .val (.long t8), .second, .val (.long (st + (1 : Int64))), .second, .val (.long t10), .second, .val (.long ((st + (1 : Int64)) + (1 : Int64))), .second, .val (.long (((st + (1 : Int64)) * (65536 : Int64)) + ((r26 + (1 : Int32)).toInt64))), .second, .unset, .unset] [(.long ((st + (2 : Int64)) * (65536 : Int64)))])) _
    refine XS.iload X11.here hx rfl (hb hby at_127) rfl ?_
    show Steps p.tables e below (T11.setTop (mkF m 129 #[.val (.long q1), .second, .val (.int p2), .val (.int p3), .val (.long (140737488355327 : Int64)), .second, .val (.long st), .second, .val (.int (r26 + (1 : Int32))), .val (.int (r37 + (1 : Int32))), .val (.ref b5), .val (.int (1 : Int32)), .val (.long t8), .second, .val (.long (st + (1 : Int64))), .second, .val (.long t10), .second, .val (.long ((st + (1 : Int64)) + (1 : Int64))), .second, .val (.long (((st + (1 : Int64)) * (65536 : Int64)) + ((r26 + (1 : Int32)).toInt64))), .second, .unset, .unset] [(.int (r37 + (1 : Int32))), (.long ((st + (2 : Int64)) * (65536 : Int64)))])) _
    refine XS.i2l X11.here hx rfl (hb hby at_129) rfl ?_
    show Steps p.tables e below (T11.setTop (mkF m 130 #[.val (.long q1), .second, .val (.int p2), .val (.int p3), .val (.long (140737488355327 : Int64)), .second, .val (.long st), .second, .val (.int (r26 + (1 : Int32))), .val (.int (r37 + (1 : Int32))), .val (.ref b5), .val (.int (1 : Int32)), .val (.long t8), .second, .val (.long (st + (1 : Int64))), .second, .val (.long t10), .second, .val (.long ((st + (1 : Int64)) + (1 : Int64))), .second, .val (.long (((st + (1 : Int64)) * (65536 : Int64)) + ((r26 + (1 : Int32)).toInt64))), .second, .unset, .unset] [(.long ((r37 + (1 : Int32)).toInt64)), (.long ((st + (2 : Int64)) * (65536 : Int64)))])) _
    refine XS.ladd X11.here hx rfl (hb hby at_130) rfl ?_
    show Steps p.tables e below (T11.setTop (mkF m 131 #[.val (.long q1), .second, .val (.int p2), .val (.int p3), .val (.long (140737488355327 : Int64)), .second, .val (.long st), .second, .val (.int (r26 + (1 : Int32))), .val (.int (r37 + (1 : Int32))), .val (.ref b5), .val (.int (1 : Int32)), .val (.long t8), .second, .val (.long (st + (1 : Int64))), .second, .val (.long t10), .second, .val (.long ((st + (1 : Int64)) + (1 : Int64))), .second, .val (.long (((st + (1 : Int64)) * (65536 : Int64)) + ((r26 + (1 : Int32)).toInt64))), .second, .unset, .unset] [(.long (((st + (2 : Int64)) * (65536 : Int64)) + ((r37 + (1 : Int32)).toInt64)))])) _
    refine XS.lstore X11.here hx rfl (hb hby at_131) rfl (l' := #[.val (.long q1), .second, .val (.int p2), .val (.int p3), .val (.long (140737488355327 : Int64)), .second, .val (.long st), .second, .val (.int (r26 + (1 : Int32))), .val (.int (r37 + (1 : Int32))), .val (.ref b5), .val (.int (1 : Int32)), .val (.long t8), .second, .val (.long (st + (1 : Int64))), .second, .val (.long t10), .second, .val (.long ((st + (1 : Int64)) + (1 : Int64))), .second, .val (.long (((st + (1 : Int64)) * (65536 : Int64)) + ((r26 + (1 : Int32)).toInt64))), .second, .val (.long (((st + (2 : Int64)) * (65536 : Int64)) + ((r37 + (1 : Int32)).toInt64))), .second]) rfl ?_
    show Steps p.tables e below (T11.setTop (mkF m 133 #[.val (.long q1), .second, .val (.int p2), .val (.int p3), .val (.long (140737488355327 : Int64)), .second, .val (.long st), .second, .val (.int (r26 + (1 : Int32))), .val (.int (r37 + (1 : Int32))), .val (.ref b5), .val (.int (1 : Int32)), .val (.long t8), .second, .val (.long (st + (1 : Int64))), .second, .val (.long t10), .second, .val (.long ((st + (1 : Int64)) + (1 : Int64))), .second, .val (.long (((st + (1 : Int64)) * (65536 : Int64)) + ((r26 + (1 : Int32)).toInt64))), .second, .val (.long (((st + (2 : Int64)) * (65536 : Int64)) + ((r37 + (1 : Int32)).toInt64))), .second] [])) _
    refine XS.iload X11.here hx rfl (hb hby at_133) rfl ?_
    show Steps p.tables e below (T11.setTop (mkF m 135 #[.val (.long q1), .second, .val (.int p2), .val (.int p3), .val (.long (140737488355327 : Int64)), .second, .val (.long st), .second, .val (.int (r26 + (1 : Int32))), .val (.int (r37 + (1 : Int32))), .val (.ref b5), .val (.int (1 : Int32)), .val (.long t8), .second, .val (.long (st + (1 : Int64))), .second, .val (.long t10), .second, .val (.long ((st + (1 : Int64)) + (1 : Int64))), .second, .val (.long (((st + (1 : Int64)) * (65536 : Int64)) + ((r26 + (1 : Int32)).toInt64))), .second, .val (.long (((st + (2 : Int64)) * (65536 : Int64)) + ((r37 + (1 : Int32)).toInt64))), .second] [(.int (1 : Int32))])) _
    refine XS.ifNo X11.here hx rfl (hb hby at_135) rfl ((if0 _ _).trans (feq hc135).1) ?_
    show Steps p.tables e below (T11.setTop (mkF m 138 #[.val (.long q1), .second, .val (.int p2), .val (.int p3), .val (.long (140737488355327 : Int64)), .second, .val (.long st), .second, .val (.int (r26 + (1 : Int32))), .val (.int (r37 + (1 : Int32))), .val (.ref b5), .val (.int (1 : Int32)), .val (.long t8), .second, .val (.long (st + (1 : Int64))), .second, .val (.long t10), .second, .val (.long ((st + (1 : Int64)) + (1 : Int64))), .second, .val (.long (((st + (1 : Int64)) * (65536 : Int64)) + ((r26 + (1 : Int32)).toInt64))), .second, .val (.long (((st + (2 : Int64)) * (65536 : Int64)) + ((r37 + (1 : Int32)).toInt64))), .second] [])) _
    refine XS.lload X11.here hx rfl (hb hby at_138) rfl ?_
    show Steps p.tables e below (T11.setTop (mkF m 140 #[.val (.long q1), .second, .val (.int p2), .val (.int p3), .val (.long (140737488355327 : Int64)), .second, .val (.long st), .second, .val (.int (r26 + (1 : Int32))), .val (.int (r37 + (1 : Int32))), .val (.ref b5), .val (.int (1 : Int32)), .val (.long t8), .second, .val (.long (st + (1 : Int64))), .second, .val (.long t10), .second, .val (.long ((st + (1 : Int64)) + (1 : Int64))), .second, .val (.long (((st + (1 : Int64)) * (65536 : Int64)) + ((r26 + (1 : Int32)).toInt64))), .second, .val (.long (((st + (2 : Int64)) * (65536 : Int64)) + ((r37 + (1 : Int32)).toInt64))), .second] [(.long (st + (1 : Int64)))])) _
    refine XS.lload X11.here hx rfl (hb hby at_140) rfl ?_
    show Steps p.tables e below (T11.setTop (mkF m 142 #[.val (.long q1), .second, .val (.int p2), .val (.int p3), .val (.long (140737488355327 : Int64)), .second, .val (.long st), .second, .val (.int (r26 + (1 : Int32))), .val (.int (r37 + (1 : Int32))), .val (.ref b5), .val (.int (1 : Int32)), .val (.long t8), .second, .val (.long (st + (1 : Int64))), .second, .val (.long t10), .second, .val (.long ((st + (1 : Int64)) + (1 : Int64))), .second, .val (.long (((st + (1 : Int64)) * (65536 : Int64)) + ((r26 + (1 : Int32)).toInt64))), .second, .val (.long (((st + (2 : Int64)) * (65536 : Int64)) + ((r37 + (1 : Int32)).toInt64))), .second] [(.long st), (.long (st + (1 : Int64)))])) _
    refine XS.lconst X11.here hx rfl (hb hby at_142) ?_
    show Steps p.tables e below (T11.setTop (mkF m 143 #[.val (.long q1), .second, .val (.int p2), .val (.int p3), .val (.long (140737488355327 : Int64)), .second, .val (.long st), .second, .val (.int (r26 + (1 : Int32))), .val (.int (r37 + (1 : Int32))), .val (.ref b5), .val (.int (1 : Int32)), .val (.long t8), .second, .val (.long (st + (1 : Int64))), .second, .val (.long t10), .second, .val (.long ((st + (1 : Int64)) + (1 : Int64))), .second, .val (.long (((st + (1 : Int64)) * (65536 : Int64)) + ((r26 + (1 : Int32)).toInt64))), .second, .val (.long (((st + (2 : Int64)) * (65536 : Int64)) + ((r37 + (1 : Int32)).toInt64))), .second] [(.long (1 : Int64)), (.long st), (.long (st + (1 : Int64)))])) _
    refine XS.ladd X11.here hx rfl (hb hby at_143) rfl ?_
    show Steps p.tables e below (T11.setTop (mkF m 144 #[.val (.long q1), .second, .val (.int p2), .val (.int p3), .val (.long (140737488355327 : Int64)), .second, .val (.long st), .second, .val (.int (r26 + (1 : Int32))), .val (.int (r37 + (1 : Int32))), .val (.ref b5), .val (.int (1 : Int32)), .val (.long t8), .second, .val (.long (st + (1 : Int64))), .second, .val (.long t10), .second, .val (.long ((st + (1 : Int64)) + (1 : Int64))), .second, .val (.long (((st + (1 : Int64)) * (65536 : Int64)) + ((r26 + (1 : Int32)).toInt64))), .second, .val (.long (((st + (2 : Int64)) * (65536 : Int64)) + ((r37 + (1 : Int32)).toInt64))), .second] [(.long (st + (1 : Int64))), (.long (st + (1 : Int64)))])) _
    refine XS.lcmp X11.here hx rfl (hb hby at_144) rfl ?_
    show Steps p.tables e below (T11.setTop (mkF m 145 #[.val (.long q1), .second, .val (.int p2), .val (.int p3), .val (.long (140737488355327 : Int64)), .second, .val (.long st), .second, .val (.int (r26 + (1 : Int32))), .val (.int (r37 + (1 : Int32))), .val (.ref b5), .val (.int (1 : Int32)), .val (.long t8), .second, .val (.long (st + (1 : Int64))), .second, .val (.long t10), .second, .val (.long ((st + (1 : Int64)) + (1 : Int64))), .second, .val (.long (((st + (1 : Int64)) * (65536 : Int64)) + ((r26 + (1 : Int32)).toInt64))), .second, .val (.long (((st + (2 : Int64)) * (65536 : Int64)) + ((r37 + (1 : Int32)).toInt64))), .second] [(.int (lcmpW (st + (1 : Int64)) (st + (1 : Int64))))])) _
    refine XS.ifNo X11.here hx rfl (hb hby at_145) rfl ((if0 _ _).trans (teq ((lw_eq _ _).mpr rfl)).2) ?_
    show Steps p.tables e below (T11.setTop (mkF m 148 #[.val (.long q1), .second, .val (.int p2), .val (.int p3), .val (.long (140737488355327 : Int64)), .second, .val (.long st), .second, .val (.int (r26 + (1 : Int32))), .val (.int (r37 + (1 : Int32))), .val (.ref b5), .val (.int (1 : Int32)), .val (.long t8), .second, .val (.long (st + (1 : Int64))), .second, .val (.long t10), .second, .val (.long ((st + (1 : Int64)) + (1 : Int64))), .second, .val (.long (((st + (1 : Int64)) * (65536 : Int64)) + ((r26 + (1 : Int32)).toInt64))), .second, .val (.long (((st + (2 : Int64)) * (65536 : Int64)) + ((r37 + (1 : Int32)).toInt64))), .second] [])) _
    refine XS.lload X11.here hx rfl (hb hby at_148) rfl ?_
    show Steps p.tables e below (T11.setTop (mkF m 150 #[.val (.long q1), .second, .val (.int p2), .val (.int p3), .val (.long (140737488355327 : Int64)), .second, .val (.long st), .second, .val (.int (r26 + (1 : Int32))), .val (.int (r37 + (1 : Int32))), .val (.ref b5), .val (.int (1 : Int32)), .val (.long t8), .second, .val (.long (st + (1 : Int64))), .second, .val (.long t10), .second, .val (.long ((st + (1 : Int64)) + (1 : Int64))), .second, .val (.long (((st + (1 : Int64)) * (65536 : Int64)) + ((r26 + (1 : Int32)).toInt64))), .second, .val (.long (((st + (2 : Int64)) * (65536 : Int64)) + ((r37 + (1 : Int32)).toInt64))), .second] [(.long t8)])) _
    refine XS.lload X11.here hx rfl (hb hby at_150) rfl ?_
    show Steps p.tables e below (T11.setTop (mkF m 152 #[.val (.long q1), .second, .val (.int p2), .val (.int p3), .val (.long (140737488355327 : Int64)), .second, .val (.long st), .second, .val (.int (r26 + (1 : Int32))), .val (.int (r37 + (1 : Int32))), .val (.ref b5), .val (.int (1 : Int32)), .val (.long t8), .second, .val (.long (st + (1 : Int64))), .second, .val (.long t10), .second, .val (.long ((st + (1 : Int64)) + (1 : Int64))), .second, .val (.long (((st + (1 : Int64)) * (65536 : Int64)) + ((r26 + (1 : Int32)).toInt64))), .second, .val (.long (((st + (2 : Int64)) * (65536 : Int64)) + ((r37 + (1 : Int32)).toInt64))), .second] [(.long (((st + (1 : Int64)) * (65536 : Int64)) + ((r26 + (1 : Int32)).toInt64))), (.long t8)])) _
    refine XS.lcmp X11.here hx rfl (hb hby at_152) rfl ?_
    show Steps p.tables e below (T11.setTop (mkF m 153 #[.val (.long q1), .second, .val (.int p2), .val (.int p3), .val (.long (140737488355327 : Int64)), .second, .val (.long st), .second, .val (.int (r26 + (1 : Int32))), .val (.int (r37 + (1 : Int32))), .val (.ref b5), .val (.int (1 : Int32)), .val (.long t8), .second, .val (.long (st + (1 : Int64))), .second, .val (.long t10), .second, .val (.long ((st + (1 : Int64)) + (1 : Int64))), .second, .val (.long (((st + (1 : Int64)) * (65536 : Int64)) + ((r26 + (1 : Int32)).toInt64))), .second, .val (.long (((st + (2 : Int64)) * (65536 : Int64)) + ((r37 + (1 : Int32)).toInt64))), .second] [(.int (lcmpW t8 (((st + (1 : Int64)) * (65536 : Int64)) + ((r26 + (1 : Int32)).toInt64))))])) _
    refine XS.ifNo X11.here hx rfl (hb hby at_153) rfl ((if0 _ _).trans (teq ((lw_eq _ _).mpr (by rw [ht8, own_shl]))).2) ?_
    show Steps p.tables e below (T11.setTop (mkF m 156 #[.val (.long q1), .second, .val (.int p2), .val (.int p3), .val (.long (140737488355327 : Int64)), .second, .val (.long st), .second, .val (.int (r26 + (1 : Int32))), .val (.int (r37 + (1 : Int32))), .val (.ref b5), .val (.int (1 : Int32)), .val (.long t8), .second, .val (.long (st + (1 : Int64))), .second, .val (.long t10), .second, .val (.long ((st + (1 : Int64)) + (1 : Int64))), .second, .val (.long (((st + (1 : Int64)) * (65536 : Int64)) + ((r26 + (1 : Int32)).toInt64))), .second, .val (.long (((st + (2 : Int64)) * (65536 : Int64)) + ((r37 + (1 : Int32)).toInt64))), .second] [])) _
    refine XS.lload X11.here hx rfl (hb hby at_156) rfl ?_
    show Steps p.tables e below (T11.setTop (mkF m 158 #[.val (.long q1), .second, .val (.int p2), .val (.int p3), .val (.long (140737488355327 : Int64)), .second, .val (.long st), .second, .val (.int (r26 + (1 : Int32))), .val (.int (r37 + (1 : Int32))), .val (.ref b5), .val (.int (1 : Int32)), .val (.long t8), .second, .val (.long (st + (1 : Int64))), .second, .val (.long t10), .second, .val (.long ((st + (1 : Int64)) + (1 : Int64))), .second, .val (.long (((st + (1 : Int64)) * (65536 : Int64)) + ((r26 + (1 : Int32)).toInt64))), .second, .val (.long (((st + (2 : Int64)) * (65536 : Int64)) + ((r37 + (1 : Int32)).toInt64))), .second] [(.long ((st + (1 : Int64)) + (1 : Int64)))])) _
    refine XS.lload X11.here hx rfl (hb hby at_158) rfl ?_
    show Steps p.tables e below (T11.setTop (mkF m 160 #[.val (.long q1), .second, .val (.int p2), .val (.int p3), .val (.long (140737488355327 : Int64)), .second, .val (.long st), .second, .val (.int (r26 + (1 : Int32))), .val (.int (r37 + (1 : Int32))), .val (.ref b5), .val (.int (1 : Int32)), .val (.long t8), .second, .val (.long (st + (1 : Int64))), .second, .val (.long t10), .second, .val (.long ((st + (1 : Int64)) + (1 : Int64))), .second, .val (.long (((st + (1 : Int64)) * (65536 : Int64)) + ((r26 + (1 : Int32)).toInt64))), .second, .val (.long (((st + (2 : Int64)) * (65536 : Int64)) + ((r37 + (1 : Int32)).toInt64))), .second] [(.long st), (.long ((st + (1 : Int64)) + (1 : Int64)))])) _
    refine X11.ldc2Long hx hown (mvT hZ (hw _ (List.mem_of_getElem? (i := 1) rfl))) (g := (mkF m 160 #[.val (.long q1), .second, .val (.int p2), .val (.int p3), .val (.long (140737488355327 : Int64)), .second, .val (.long st), .second, .val (.int (r26 + (1 : Int32))), .val (.int (r37 + (1 : Int32))), .val (.ref b5), .val (.int (1 : Int32)), .val (.long t8), .second, .val (.long (st + (1 : Int64))), .second, .val (.long t10), .second, .val (.long ((st + (1 : Int64)) + (1 : Int64))), .second, .val (.long (((st + (1 : Int64)) * (65536 : Int64)) + ((r26 + (1 : Int32)).toInt64))), .second, .val (.long (((st + (2 : Int64)) * (65536 : Int64)) + ((r37 + (1 : Int32)).toInt64))), .second] [(.long st), (.long ((st + (1 : Int64)) + (1 : Int64)))])) rfl (hb hby at_160) _ ?_
    show Steps p.tables e below (T11.setTop (mkF m 163 #[.val (.long q1), .second, .val (.int p2), .val (.int p3), .val (.long (140737488355327 : Int64)), .second, .val (.long st), .second, .val (.int (r26 + (1 : Int32))), .val (.int (r37 + (1 : Int32))), .val (.ref b5), .val (.int (1 : Int32)), .val (.long t8), .second, .val (.long (st + (1 : Int64))), .second, .val (.long t10), .second, .val (.long ((st + (1 : Int64)) + (1 : Int64))), .second, .val (.long (((st + (1 : Int64)) * (65536 : Int64)) + ((r26 + (1 : Int32)).toInt64))), .second, .val (.long (((st + (2 : Int64)) * (65536 : Int64)) + ((r37 + (1 : Int32)).toInt64))), .second] [(.long (2 : Int64)), (.long st), (.long ((st + (1 : Int64)) + (1 : Int64)))])) _
    refine XS.ladd X11.here hx rfl (hb hby at_163) rfl ?_
    show Steps p.tables e below (T11.setTop (mkF m 164 #[.val (.long q1), .second, .val (.int p2), .val (.int p3), .val (.long (140737488355327 : Int64)), .second, .val (.long st), .second, .val (.int (r26 + (1 : Int32))), .val (.int (r37 + (1 : Int32))), .val (.ref b5), .val (.int (1 : Int32)), .val (.long t8), .second, .val (.long (st + (1 : Int64))), .second, .val (.long t10), .second, .val (.long ((st + (1 : Int64)) + (1 : Int64))), .second, .val (.long (((st + (1 : Int64)) * (65536 : Int64)) + ((r26 + (1 : Int32)).toInt64))), .second, .val (.long (((st + (2 : Int64)) * (65536 : Int64)) + ((r37 + (1 : Int32)).toInt64))), .second] [(.long (st + (2 : Int64))), (.long ((st + (1 : Int64)) + (1 : Int64)))])) _
    refine XS.lcmp X11.here hx rfl (hb hby at_164) rfl ?_
    show Steps p.tables e below (T11.setTop (mkF m 165 #[.val (.long q1), .second, .val (.int p2), .val (.int p3), .val (.long (140737488355327 : Int64)), .second, .val (.long st), .second, .val (.int (r26 + (1 : Int32))), .val (.int (r37 + (1 : Int32))), .val (.ref b5), .val (.int (1 : Int32)), .val (.long t8), .second, .val (.long (st + (1 : Int64))), .second, .val (.long t10), .second, .val (.long ((st + (1 : Int64)) + (1 : Int64))), .second, .val (.long (((st + (1 : Int64)) * (65536 : Int64)) + ((r26 + (1 : Int32)).toInt64))), .second, .val (.long (((st + (2 : Int64)) * (65536 : Int64)) + ((r37 + (1 : Int32)).toInt64))), .second] [(.int (lcmpW ((st + (1 : Int64)) + (1 : Int64)) (st + (2 : Int64))))])) _
    refine XS.ifNo X11.here hx rfl (hb hby at_165) rfl ((if0 _ _).trans (teq ((lw_eq _ _).mpr (own_two st))).2) ?_
    show Steps p.tables e below (T11.setTop (mkF m 168 #[.val (.long q1), .second, .val (.int p2), .val (.int p3), .val (.long (140737488355327 : Int64)), .second, .val (.long st), .second, .val (.int (r26 + (1 : Int32))), .val (.int (r37 + (1 : Int32))), .val (.ref b5), .val (.int (1 : Int32)), .val (.long t8), .second, .val (.long (st + (1 : Int64))), .second, .val (.long t10), .second, .val (.long ((st + (1 : Int64)) + (1 : Int64))), .second, .val (.long (((st + (1 : Int64)) * (65536 : Int64)) + ((r26 + (1 : Int32)).toInt64))), .second, .val (.long (((st + (2 : Int64)) * (65536 : Int64)) + ((r37 + (1 : Int32)).toInt64))), .second] [])) _
    refine XS.lload X11.here hx rfl (hb hby at_168) rfl ?_
    show Steps p.tables e below (T11.setTop (mkF m 170 #[.val (.long q1), .second, .val (.int p2), .val (.int p3), .val (.long (140737488355327 : Int64)), .second, .val (.long st), .second, .val (.int (r26 + (1 : Int32))), .val (.int (r37 + (1 : Int32))), .val (.ref b5), .val (.int (1 : Int32)), .val (.long t8), .second, .val (.long (st + (1 : Int64))), .second, .val (.long t10), .second, .val (.long ((st + (1 : Int64)) + (1 : Int64))), .second, .val (.long (((st + (1 : Int64)) * (65536 : Int64)) + ((r26 + (1 : Int32)).toInt64))), .second, .val (.long (((st + (2 : Int64)) * (65536 : Int64)) + ((r37 + (1 : Int32)).toInt64))), .second] [(.long t10)])) _
    refine XS.lload X11.here hx rfl (hb hby at_170) rfl ?_
    show Steps p.tables e below (T11.setTop (mkF m 172 #[.val (.long q1), .second, .val (.int p2), .val (.int p3), .val (.long (140737488355327 : Int64)), .second, .val (.long st), .second, .val (.int (r26 + (1 : Int32))), .val (.int (r37 + (1 : Int32))), .val (.ref b5), .val (.int (1 : Int32)), .val (.long t8), .second, .val (.long (st + (1 : Int64))), .second, .val (.long t10), .second, .val (.long ((st + (1 : Int64)) + (1 : Int64))), .second, .val (.long (((st + (1 : Int64)) * (65536 : Int64)) + ((r26 + (1 : Int32)).toInt64))), .second, .val (.long (((st + (2 : Int64)) * (65536 : Int64)) + ((r37 + (1 : Int32)).toInt64))), .second] [(.long (((st + (2 : Int64)) * (65536 : Int64)) + ((r37 + (1 : Int32)).toInt64))), (.long t10)])) _
    refine XS.lcmp X11.here hx rfl (hb hby at_172) rfl ?_
    show Steps p.tables e below (T11.setTop (mkF m 173 #[.val (.long q1), .second, .val (.int p2), .val (.int p3), .val (.long (140737488355327 : Int64)), .second, .val (.long st), .second, .val (.int (r26 + (1 : Int32))), .val (.int (r37 + (1 : Int32))), .val (.ref b5), .val (.int (1 : Int32)), .val (.long t8), .second, .val (.long (st + (1 : Int64))), .second, .val (.long t10), .second, .val (.long ((st + (1 : Int64)) + (1 : Int64))), .second, .val (.long (((st + (1 : Int64)) * (65536 : Int64)) + ((r26 + (1 : Int32)).toInt64))), .second, .val (.long (((st + (2 : Int64)) * (65536 : Int64)) + ((r37 + (1 : Int32)).toInt64))), .second] [(.int (lcmpW t10 (((st + (2 : Int64)) * (65536 : Int64)) + ((r37 + (1 : Int32)).toInt64))))])) _
    refine XS.ifNo X11.here hx rfl (hb hby at_173) rfl ((if0 _ _).trans (teq ((lw_eq _ _).mpr (by rw [ht10, own_shl, own_two]))).2) ?_
    show Steps p.tables e below (T11.setTop (mkF m 176 #[.val (.long q1), .second, .val (.int p2), .val (.int p3), .val (.long (140737488355327 : Int64)), .second, .val (.long st), .second, .val (.int (r26 + (1 : Int32))), .val (.int (r37 + (1 : Int32))), .val (.ref b5), .val (.int (1 : Int32)), .val (.long t8), .second, .val (.long (st + (1 : Int64))), .second, .val (.long t10), .second, .val (.long ((st + (1 : Int64)) + (1 : Int64))), .second, .val (.long (((st + (1 : Int64)) * (65536 : Int64)) + ((r26 + (1 : Int32)).toInt64))), .second, .val (.long (((st + (2 : Int64)) * (65536 : Int64)) + ((r37 + (1 : Int32)).toInt64))), .second] [])) _
    refine XS.lload X11.here hx rfl (hb hby at_176) rfl ?_
    show Steps p.tables e below (T11.setTop (mkF m 178 #[.val (.long q1), .second, .val (.int p2), .val (.int p3), .val (.long (140737488355327 : Int64)), .second, .val (.long st), .second, .val (.int (r26 + (1 : Int32))), .val (.int (r37 + (1 : Int32))), .val (.ref b5), .val (.int (1 : Int32)), .val (.long t8), .second, .val (.long (st + (1 : Int64))), .second, .val (.long t10), .second, .val (.long ((st + (1 : Int64)) + (1 : Int64))), .second, .val (.long (((st + (1 : Int64)) * (65536 : Int64)) + ((r26 + (1 : Int32)).toInt64))), .second, .val (.long (((st + (2 : Int64)) * (65536 : Int64)) + ((r37 + (1 : Int32)).toInt64))), .second] [(.long t8)])) _
    refine XS.lload X11.here hx rfl (hb hby at_178) rfl ?_
    show Steps p.tables e below (T11.setTop (mkF m 180 #[.val (.long q1), .second, .val (.int p2), .val (.int p3), .val (.long (140737488355327 : Int64)), .second, .val (.long st), .second, .val (.int (r26 + (1 : Int32))), .val (.int (r37 + (1 : Int32))), .val (.ref b5), .val (.int (1 : Int32)), .val (.long t8), .second, .val (.long (st + (1 : Int64))), .second, .val (.long t10), .second, .val (.long ((st + (1 : Int64)) + (1 : Int64))), .second, .val (.long (((st + (1 : Int64)) * (65536 : Int64)) + ((r26 + (1 : Int32)).toInt64))), .second, .val (.long (((st + (2 : Int64)) * (65536 : Int64)) + ((r37 + (1 : Int32)).toInt64))), .second] [(.long t10), (.long t8)])) _
    refine XS.lcmp X11.here hx rfl (hb hby at_180) rfl ?_
    show Steps p.tables e below (T11.setTop (mkF m 181 #[.val (.long q1), .second, .val (.int p2), .val (.int p3), .val (.long (140737488355327 : Int64)), .second, .val (.long st), .second, .val (.int (r26 + (1 : Int32))), .val (.int (r37 + (1 : Int32))), .val (.ref b5), .val (.int (1 : Int32)), .val (.long t8), .second, .val (.long (st + (1 : Int64))), .second, .val (.long t10), .second, .val (.long ((st + (1 : Int64)) + (1 : Int64))), .second, .val (.long (((st + (1 : Int64)) * (65536 : Int64)) + ((r26 + (1 : Int32)).toInt64))), .second, .val (.long (((st + (2 : Int64)) * (65536 : Int64)) + ((r37 + (1 : Int32)).toInt64))), .second] [(.int (lcmpW t8 t10))])) _
    refine XS.ifNo X11.here hx rfl (hb hby at_181) rfl ((if0 _ _).trans (tlt ((lw_lt _ _).mpr (by rw [ht8, ht10, own_shl, own_shl, own_two]; exact own_less st _ _ (own_start _ _ hst) (own_holder _ _ hr26) (own_holder _ _ hr37)))).2.1) ?_
    show Steps p.tables e below (T11.setTop (mkF m 184 #[.val (.long q1), .second, .val (.int p2), .val (.int p3), .val (.long (140737488355327 : Int64)), .second, .val (.long st), .second, .val (.int (r26 + (1 : Int32))), .val (.int (r37 + (1 : Int32))), .val (.ref b5), .val (.int (1 : Int32)), .val (.long t8), .second, .val (.long (st + (1 : Int64))), .second, .val (.long t10), .second, .val (.long ((st + (1 : Int64)) + (1 : Int64))), .second, .val (.long (((st + (1 : Int64)) * (65536 : Int64)) + ((r26 + (1 : Int32)).toInt64))), .second, .val (.long (((st + (2 : Int64)) * (65536 : Int64)) + ((r37 + (1 : Int32)).toInt64))), .second] [])) _
    refine XS.iconst X11.here hx rfl (hb hby at_184) ?_
    show Steps p.tables e below (T11.setTop (mkF m 185 #[.val (.long q1), .second, .val (.int p2), .val (.int p3), .val (.long (140737488355327 : Int64)), .second, .val (.long st), .second, .val (.int (r26 + (1 : Int32))), .val (.int (r37 + (1 : Int32))), .val (.ref b5), .val (.int (1 : Int32)), .val (.long t8), .second, .val (.long (st + (1 : Int64))), .second, .val (.long t10), .second, .val (.long ((st + (1 : Int64)) + (1 : Int64))), .second, .val (.long (((st + (1 : Int64)) * (65536 : Int64)) + ((r26 + (1 : Int32)).toInt64))), .second, .val (.long (((st + (2 : Int64)) * (65536 : Int64)) + ((r37 + (1 : Int32)).toInt64))), .second] [(.int (1 : Int32))])) _
    refine XS.goto X11.here hx rfl (pc0 := 185) (pc' := 189) rfl (hb hby at_185) (by decide) (by decide) ?_
    show Steps p.tables e below (T11.setTop (mkF m 189 #[.val (.long q1), .second, .val (.int p2), .val (.int p3), .val (.long (140737488355327 : Int64)), .second, .val (.long st), .second, .val (.int (r26 + (1 : Int32))), .val (.int (r37 + (1 : Int32))), .val (.ref b5), .val (.int (1 : Int32)), .val (.long t8), .second, .val (.long (st + (1 : Int64))), .second, .val (.long t10), .second, .val (.long ((st + (1 : Int64)) + (1 : Int64))), .second, .val (.long (((st + (1 : Int64)) * (65536 : Int64)) + ((r26 + (1 : Int32)).toInt64))), .second, .val (.long (((st + (2 : Int64)) * (65536 : Int64)) + ((r37 + (1 : Int32)).toInt64))), .second] [(.int (1 : Int32))])) _
    exact retN X11 hx (t := .boolean) Bd.returns (by simp) (hb hby at_189) hr
  · show Q0 Z q1 p2 p3 h0 n0 _ T11.heap _
    exact ⟨rfl, N11⟩
set_option maxRecDepth 65536 in
set_option maxHeartbeats 40000000 in
theorem comes_1 {Post : Tables → Env → Array Value → State → Outcome → State → Prop} (hpost : ∀ tb e args s v u, (limb_1_1.after args s (.returned v) u = true ∧ limb_1_2.after args s (.returned v) u = true ∧ True) → FrameEnd s (.returned v) u (Jvm.fieldLocs frame_1_writes args s ++ Jvm.arrayLocs frame_1_arrays args s ++ Jvm.staticLocs frame_1_statics s) 16 192 → Post tb e args s (.returned v) u) :
    ArmFor flags0 classFile x code maxLocals ret World_1 tables_1 room_1 Calls_1 rest_1 Pre_1 Post := by
  intro l hfl _ _ p e ha hc hk s m args below hf hA hF happ hP
  obtain ⟨hcalls, hrest, hpre⟩ := hP
  obtain ⟨-, -, -, hnamed, -, -, -, hat⟩ := (Spec.applies_iff hf).mp happ
  obtain ⟨hg, hn⟩ := and_e (Cond.before_iff.mp (show (Jvm.Cond.and given_1 narrow_1).before args s = true from hpre))
  obtain ⟨g12, g13⟩ := and_e hg
  obtain ⟨g14, g15⟩ := and_e g13
  obtain ⟨g16, g17⟩ := and_e g15
  obtain ⟨w0, w1, w2, rfl⟩ : ∃ w0 w1 w2 : Value, args = #[w0, w1, w2] := by
    have hs : args.size = 3 := by simpa [Cond.value, given_1] using g12
    obtain ⟨L⟩ := args
    match L, hs with
    | [w0, w1, w2], _ => exact ⟨w0, w1, w2, rfl⟩
  have hw := fun d (hd : d ∈ tables_1) => atoms_spec (ws := Jvm.Cond.code x code maxLocals ret :: tables_1) hat d (List.mem_cons_of_mem _ hd)
  have hfit : Fit s := fun {y c} hc i hi => by
    obtain ⟨ha, rfl⟩ := Array.getElem?_eq_some_iff.mp hc
    have q := List.all_eq_true.mp ((Array.all_eq_true_iff_forall_mem.mp hF) _ (Array.getElem_mem ha)) i (List.mem_range.mpr hi)
    simpa [Array.getElem?_eq_getElem hi] using q
  obtain ⟨i0, ei0⟩ := isL_v g14
  obtain rfl : w0 = (.long i0) := Option.some.inj ei0
  obtain ⟨i1, ei1⟩ := is_v g16
  obtain rfl : w1 = (.int i1) := Option.some.inj ei1
  obtain ⟨i2, ei2⟩ := is_v g17
  obtain rfl : w2 = (.int i2) := Option.some.inj ei2
  obtain ⟨n, o, h1, h2, h3, _, L, rfl, ⟨rfl, N⟩, hq⟩ := rm0 l s _ hw tables_1 i0 i1 i2 s.heap s.heap.size (Nat.le_refl _) p e ha hc hk s m _ below hf ((Spec.applies_iff_loose hf).mp happ).1 ⟨rfl, State.Warmed39.refl s, rfl⟩ trivial
  refine ⟨n, _, h1, h2, h3, hpost _ _ _ _ _ _ ⟨Cond.after_iff.mpr rfl, Cond.after_iff.mpr (eq_i res_at (Term.int_eval (1)) rfl), trivial⟩ ⟨hq.1, hq.2.1, (hq.2.2.sift fun y hy => Or.inr (N y hy)).mono (by decide) (by decide)⟩⟩
theorem main_1_1 : Claimed_1_1 := comes_1 fun _ _ _ _ _ _ h hF => ⟨h.1, hF⟩
theorem main_1_2 : Claimed_1_2 := comes_1 fun _ _ _ _ _ _ h hF => ⟨h.2.1, hF⟩
end Jvm.Pilot.@@N@@
namespace Jvm.Pilot.@@N@@
open Jvm Jvm.ClassFile Sem Op Lib Jvm.Free Jvm.Stand Jvm.Pilot.@@N@@.Jvm.D
/-! MADE BY PROGRAM (witnessworld.py) out of the Statement's table words and the real class files: 25 classes; the members and pool entries that the words name. The judged class is class 1, her method 1. -/
namespace start1
open Jvm.ClassFile
def u (s : String) : CpInfo := .utf8 (stringToUtf16 s)
/-- a pool by its gaps: so many unusable entries, then the entry; so many at the end -/
def gap : Nat → List CpInfo → List CpInfo
  | 0, r => r
  | n + 1, r => .unusable :: gap n r
def poolList (es : List (Nat × CpInfo)) (last : Nat) : List CpInfo := es.foldr (fun e r => gap e.1 (e.2 :: r)) (gap last [])
def pool (es : List (Nat × CpInfo)) (last : Nat) : Array CpInfo := ⟨poolList es last⟩
def fileOf (pool : Array CpInfo) (this : Nat) (attrs : Array Attribute := #[]) (ms : Array MethodInfo := #[]) (fl : Nat := 33) (sup : Nat := 0) (ifs : Array Nat := #[]) (fds : Array FieldInfo := #[]) : ClassFile where
  minorVersion := 0
  majorVersion := 65
  constantPool := pool
  accessFlags := fl
  thisClass := this
  superClass := sup
  interfaces := ifs
  fields := fds
  methods := ms
  attributes := attrs
def plain (name : String) (sup : Option ClassId) : Class where
  name := name
  kind := .ordinary
  loader := none
  accessFlags := 33
  super := sup
  interfaces := #[]
  cf := none
  fields := #[]
  methods := #[]
  instanceTypes := #[]
  staticTypes := #[]
  resolved := #[]
  callSites := []
  init := .initialized
  statics := none
  mirror := none

def pool0 : Array CpInfo := pool [(5, u "<init>"), (0, u "()V"), (1, .class_ 10), (1, u "java/lang/Object")] 113

def k0c0 : Code := { maxStack := 0, maxLocals := 1, code := object_method_1_code, exceptionTable := #[], attributes := #[] }
def k0m0 : Method := { name := "<init>", desc := "()V", sig := { parameters := [], returnType := none }, accessFlags := 1, code := some k0c0 }
/-- java/lang/Object -/
def k0 : Class := { plain "java/lang/Object" none with
  accessFlags := 33
  interfaces := #[]
  cf := some (fileOf pool0 8 #[] #[{ accessFlags := 1, nameIndex := 5, descriptorIndex := 6, attributes := #[] }] 33 0 #[] #[])
  fields := #[]
  methods := #[k0m0]
  instanceTypes := #[]
  staticTypes := #[]
  resolved := Array.replicate 124 none
  statics := none }

def pool1 : Array CpInfo := pool [(2, .class_ 4), (1, u "java/lang/Object"), (0, u "<init>"), (0, u "()V"), (0, .long 140737488355327), (1, .long 2), (1, .methodref 12 13), (0, .class_ 14), (0, .nameAndType 15 16), (0, u "java/lang/Math"), (0, u "min"), (0, u "(JJ)J"), (0, .integer 2147483647), (0, .integer 65535), (0, .class_ 20), (0, u "com/example/usher/usher/Token"), (0, .methodref 19 22), (0, .nameAndType 5 23), (0, u "(J)V"), (0, .methodref 19 25), (0, .nameAndType 26 27), (0, u "getGrants"), (0, u "()J"), (0, .methodref 19 29), (0, .nameAndType 30 31), (0, u "grant"), (0, u "(I)J"), (0, .long 65536), (1, .class_ 35), (0, u "com/example/usher/usher/TokenGrantPinLaw"), (2, u "law"), (0, u "(JII)Z")] 3

def k1m0 : Method := { name := "<init>", desc := "()V", sig := { parameters := [], returnType := none }, accessFlags := 2, code := none }
def k1c1 : Code := { maxStack := 6, maxLocals := 24, code := code, exceptionTable := #[], attributes := #[] }
def k1m1 : Method := { name := "law", desc := "(JII)Z", sig := { parameters := [.long, .int, .int], returnType := some .boolean }, accessFlags := 9, code := some k1c1 }
/-- com/example/usher/usher/TokenGrantPinLaw -/
def k1 : Class := { plain "com/example/usher/usher/TokenGrantPinLaw" (some 0) with
  accessFlags := 49
  interfaces := #[]
  cf := some (fileOf pool1 34 #[] #[{ accessFlags := 2, nameIndex := 5, descriptorIndex := 6, attributes := #[] }, { accessFlags := 9, nameIndex := 38, descriptorIndex := 39, attributes := #[] }] 49 2 #[] #[])
  fields := #[]
  methods := #[k1m0, k1m1]
  instanceTypes := #[]
  staticTypes := #[]
  resolved := Array.replicate 43 none
  statics := none }

def pool2 : Array CpInfo := pool [(1, .class_ 2), (0, u "java/lang/Math"), (1, .class_ 6), (1, u "java/lang/Object"), (0, u "<init>"), (0, u "()V"), (89, .class_ 100), (1, u "java/lang/Math$RandomNumberGeneratorHolder"), (20, u "(JJ)J"), (50, u "negativeZeroFloatBits"), (0, u "J"), (2, u "negativeZeroDoubleBits"), (24, u "min"), (43, u "$assertionsDisabled"), (0, u "Z"), (91, u "twoToTheDoubleScaleDown"), (0, u "D"), (4, u "twoToTheDoubleScaleUp"), (9, u "E"), (3, u "PI"), (2, u "TAU"), (2, u "DEGREES_TO_RADIANS"), (0, u "RADIANS_TO_DEGREES")] 94

def k2m0 : Method := { name := "<init>", desc := "()V", sig := { parameters := [], returnType := none }, accessFlags := 2, code := none }
def k2c1 : Code := { maxStack := 4, maxLocals := 4, code := jdk_29_method_70_code, exceptionTable := #[], attributes := #[] }
def k2m1 : Method := { name := "min", desc := "(JJ)J", sig := { parameters := [.long, .long], returnType := some .long }, accessFlags := 9, code := some k2c1 }
/-- java/lang/Math -/
def k2 : Class := { plain "java/lang/Math" (some 0) with
  accessFlags := 49
  interfaces := #[]
  cf := some (fileOf pool2 1 #[.nestMembers #[98]] #[{ accessFlags := 2, nameIndex := 7, descriptorIndex := 8, attributes := #[] }, { accessFlags := 9, nameIndex := 201, descriptorIndex := 121, attributes := #[] }] 49 4 #[] #[{ accessFlags := 25, nameIndex := 354, descriptorIndex := 339, attributes := #[] }, { accessFlags := 25, nameIndex := 358, descriptorIndex := 339, attributes := #[] }, { accessFlags := 25, nameIndex := 361, descriptorIndex := 339, attributes := #[] }, { accessFlags := 26, nameIndex := 364, descriptorIndex := 339, attributes := #[] }, { accessFlags := 26, nameIndex := 365, descriptorIndex := 339, attributes := #[] }, { accessFlags := 26, nameIndex := 172, descriptorIndex := 173, attributes := #[] }, { accessFlags := 26, nameIndex := 176, descriptorIndex := 173, attributes := #[] }, { accessFlags := 8, nameIndex := 344, descriptorIndex := 339, attributes := #[] }, { accessFlags := 8, nameIndex := 338, descriptorIndex := 339, attributes := #[] }, { accessFlags := 4120, nameIndex := 245, descriptorIndex := 246, attributes := #[] }])
  fields := #[{ name := "E", type := .double, accessFlags := 25, slot := 0, constantValue := 0 }, { name := "PI", type := .double, accessFlags := 25, slot := 1, constantValue := 0 }, { name := "TAU", type := .double, accessFlags := 25, slot := 2, constantValue := 0 }, { name := "DEGREES_TO_RADIANS", type := .double, accessFlags := 26, slot := 3, constantValue := 0 }, { name := "RADIANS_TO_DEGREES", type := .double, accessFlags := 26, slot := 4, constantValue := 0 }, { name := "negativeZeroFloatBits", type := .long, accessFlags := 26, slot := 5, constantValue := 0 }, { name := "negativeZeroDoubleBits", type := .long, accessFlags := 26, slot := 6, constantValue := 0 }, { name := "twoToTheDoubleScaleUp", type := .double, accessFlags := 8, slot := 7, constantValue := 0 }, { name := "twoToTheDoubleScaleDown", type := .double, accessFlags := 8, slot := 8, constantValue := 0 }, { name := "$assertionsDisabled", type := .boolean, accessFlags := 4120, slot := 9, constantValue := 0 }]
  methods := #[k2m0, k2m1]
  instanceTypes := #[]
  staticTypes := #[.double, .double, .double, .double, .double, .long, .long, .double, .double, .boolean]
  resolved := Array.replicate 460 none
  statics := none }

def pool3 : Array CpInfo := pool [(1, .class_ 2), (0, u "java/util/TreeMap"), (0, .methodref 1 4), (0, .nameAndType 5 6), (0, u "<init>"), (0, u "()V"), (0, .class_ 8), (0, u "java/util/ArrayDeque"), (0, .methodref 7 4), (0, .methodref 11 12), (0, .class_ 13), (0, .nameAndType 5 14), (0, u "com/example/usher/usher/Token"), (0, u "(JJLjava/util/Map;Ljava/util/Deque;J)V"), (41, u "()J"), (4, .methodref 62 4), (0, .class_ 63), (0, u "java/lang/Object"), (0, .fieldref 11 65), (0, .nameAndType 66 67), (0, u "start"), (0, u "J"), (0, .fieldref 11 69), (0, .nameAndType 70 67), (0, u "grants"), (0, .fieldref 11 72), (0, .nameAndType 73 74), (0, u "granted"), (0, u "Ljava/util/Map;"), (0, .fieldref 11 76), (0, .nameAndType 77 78), (0, u "queue"), (0, u "Ljava/util/Deque;"), (0, .fieldref 11 80), (0, .nameAndType 81 67), (0, u "epoch"), (70, .methodref 153 154), (0, .class_ 155), (0, .nameAndType 156 157), (0, u "com/example/usher/usher/Node"), (0, u "fencingToken"), (0, u "(JI)J"), (2, u "LONGEST_ID"), (0, u "I"), (2, u "LONGEST_NUMBER"), (6, u "(I)J"), (102, u "NONE"), (0, u "Ljava/lang/String;"), (4, u "(J)V"), (11, u "getGrants"), (0, u "grant")] 44

def k3c0 : Code := { maxStack := 9, maxLocals := 3, code := prog_55_method_1_code, exceptionTable := #[], attributes := #[] }
def k3m0 : Method := { name := "<init>", desc := "(J)V", sig := { parameters := [.long], returnType := none }, accessFlags := 0, code := some k3c0 }
def k3c1 : Code := { maxStack := 3, maxLocals := 9, code := prog_55_method_3_code, exceptionTable := #[], attributes := #[] }
def k3m1 : Method := { name := "<init>", desc := "(JJLjava/util/Map;Ljava/util/Deque;J)V", sig := { parameters := [.long, .long, (.object "java/util/Map"), (.object "java/util/Deque"), .long], returnType := none }, accessFlags := 2, code := some k3c1 }
def k3c2 : Code := { maxStack := 2, maxLocals := 1, code := prog_55_method_6_code, exceptionTable := #[], attributes := #[] }
def k3m2 : Method := { name := "getGrants", desc := "()J", sig := { parameters := [], returnType := some .long }, accessFlags := 0, code := some k3c2 }
def k3c3 : Code := { maxStack := 5, maxLocals := 2, code := prog_55_method_7_code, exceptionTable := #[], attributes := #[] }
def k3m3 : Method := { name := "grant", desc := "(I)J", sig := { parameters := [.int], returnType := some .long }, accessFlags := 0, code := some k3c3 }
/-- com/example/usher/usher/Token -/
def k3 : Class := { plain "com/example/usher/usher/Token" (some 0) with
  accessFlags := 32
  interfaces := #[]
  cf := some (fileOf pool3 11 #[] #[{ accessFlags := 0, nameIndex := 5, descriptorIndex := 280, attributes := #[] }, { accessFlags := 2, nameIndex := 5, descriptorIndex := 14, attributes := #[] }, { accessFlags := 0, nameIndex := 292, descriptorIndex := 56, attributes := #[] }, { accessFlags := 0, nameIndex := 293, descriptorIndex := 171, attributes := #[] }] 32 62 #[] #[{ accessFlags := 26, nameIndex := 274, descriptorIndex := 275, attributes := #[] }, { accessFlags := 26, nameIndex := 164, descriptorIndex := 161, attributes := #[] }, { accessFlags := 26, nameIndex := 160, descriptorIndex := 161, attributes := #[] }, { accessFlags := 18, nameIndex := 66, descriptorIndex := 67, attributes := #[] }, { accessFlags := 2, nameIndex := 70, descriptorIndex := 67, attributes := #[] }, { accessFlags := 18, nameIndex := 73, descriptorIndex := 74, attributes := #[] }, { accessFlags := 18, nameIndex := 77, descriptorIndex := 78, attributes := #[] }, { accessFlags := 2, nameIndex := 81, descriptorIndex := 67, attributes := #[] }])
  fields := #[{ name := "NONE", type := (.object "java/lang/String"), accessFlags := 26, slot := 0, constantValue := 0 }, { name := "LONGEST_NUMBER", type := .int, accessFlags := 26, slot := 1, constantValue := 0 }, { name := "LONGEST_ID", type := .int, accessFlags := 26, slot := 2, constantValue := 0 }, { name := "start", type := .long, accessFlags := 18, slot := 0, constantValue := 0 }, { name := "grants", type := .long, accessFlags := 2, slot := 1, constantValue := 0 }, { name := "granted", type := (.object "java/util/Map"), accessFlags := 18, slot := 2, constantValue := 0 }, { name := "queue", type := (.object "java/util/Deque"), accessFlags := 18, slot := 3, constantValue := 0 }, { name := "epoch", type := .long, accessFlags := 2, slot := 4, constantValue := 0 }]
  methods := #[k3m0, k3m1, k3m2, k3m3]
  instanceTypes := #[.long, .long, (.object "java/util/Map"), (.object "java/util/Deque"), .long]
  staticTypes := #[(.object "java/lang/String"), .int, .int]
  resolved := Array.replicate 338 none
  statics := none }

def pool4 : Array CpInfo := pool [(2, .class_ 4), (1, u "java/util/Map"), (31, .class_ 37), (0, u "java/util/Map$Entry"), (55, .class_ 94), (0, u "java/lang/Object")] 168

/-- java/util/Map -/
def k4 : Class := { plain "java/util/Map" (some 0) with
  accessFlags := 1537
  interfaces := #[]
  cf := some (fileOf pool4 2 #[.nestMembers #[36]] #[] 1537 93 #[] #[])
  fields := #[]
  methods := #[]
  instanceTypes := #[]
  staticTypes := #[]
  resolved := Array.replicate 263 none
  statics := none }

def pool5 : Array CpInfo := pool [(1, .methodref 2 3), (0, .class_ 4), (0, .nameAndType 5 6), (0, u "java/lang/Object"), (0, u "<init>"), (0, u "()V"), (1, .class_ 10), (1, u "java/util/AbstractMap"), (42, .class_ 54), (0, u "java/util/Map"), (9, u "keySet"), (0, u "Ljava/util/Set;"), (0, .class_ 67), (0, u "java/util/AbstractMap$1"), (5, u "values"), (0, u "Ljava/util/Collection;"), (0, .class_ 76), (0, u "java/util/AbstractMap$2"), (104, .class_ 182), (0, u "java/util/AbstractMap$ViewCollection"), (0, .class_ 184), (0, u "java/util/AbstractMap$SimpleImmutableEntry"), (0, .class_ 186), (0, u "java/util/AbstractMap$SimpleEntry"), (0, .class_ 188), (0, u "java/util/AbstractMap$2$1"), (0, .class_ 190), (0, u "java/util/AbstractMap$1$1")] 5

def k5c0 : Code := { maxStack := 1, maxLocals := 1, code := jdk_71_method_1_code, exceptionTable := #[], attributes := #[] }
def k5m0 : Method := { name := "<init>", desc := "()V", sig := { parameters := [], returnType := none }, accessFlags := 4, code := some k5c0 }
/-- java/util/AbstractMap -/
def k5 : Class := { plain "java/util/AbstractMap" (some 0) with
  accessFlags := 1057
  interfaces := #[4]
  cf := some (fileOf pool5 8 #[.nestMembers #[181, 183, 185, 75, 187, 66, 189]] #[{ accessFlags := 4, nameIndex := 5, descriptorIndex := 6, attributes := #[] }] 1057 2 #[53] #[{ accessFlags := 128, nameIndex := 64, descriptorIndex := 65, attributes := #[] }, { accessFlags := 128, nameIndex := 73, descriptorIndex := 74, attributes := #[] }])
  fields := #[{ name := "keySet", type := (.object "java/util/Set"), accessFlags := 128, slot := 0, constantValue := 0 }, { name := "values", type := (.object "java/util/Collection"), accessFlags := 128, slot := 1, constantValue := 0 }]
  methods := #[k5m0]
  instanceTypes := #[(.object "java/util/Set"), (.object "java/util/Collection")]
  staticTypes := #[]
  resolved := Array.replicate 196 none
  statics := none }

def pool6 : Array CpInfo := pool [(2, .class_ 4), (1, u "java/util/SequencedMap"), (38, .class_ 44), (0, u "java/util/SequencedMap$1SeqKeySet"), (3, .class_ 49), (0, u "java/util/SequencedMap$1SeqValues"), (1, .class_ 52), (0, u "java/util/SequencedMap$1SeqEntrySet"), (1, .class_ 55), (0, u "java/lang/Object"), (0, .class_ 57), (0, u "java/util/Map")] 48

/-- java/util/SequencedMap -/
def k6 : Class := { plain "java/util/SequencedMap" (some 0) with
  accessFlags := 1537
  interfaces := #[4]
  cf := some (fileOf pool6 2 #[.nestMembers #[51, 48, 43]] #[] 1537 54 #[56] #[])
  fields := #[]
  methods := #[]
  instanceTypes := #[]
  staticTypes := #[]
  resolved := Array.replicate 106 none
  statics := none }

def pool7 : Array CpInfo := pool [(14, .class_ 16), (1, u "java/util/SortedMap"), (2, .class_ 20), (0, u "java/lang/Object"), (0, .class_ 22), (0, u "java/util/SequencedMap")] 50

/-- java/util/SortedMap -/
def k7 : Class := { plain "java/util/SortedMap" (some 0) with
  accessFlags := 1537
  interfaces := #[6]
  cf := some (fileOf pool7 14 #[] #[] 1537 19 #[21] #[])
  fields := #[]
  methods := #[]
  instanceTypes := #[]
  staticTypes := #[]
  resolved := Array.replicate 73 none
  statics := none }

def pool8 : Array CpInfo := pool [(2, .class_ 4), (1, u "java/util/NavigableMap"), (5, .class_ 11), (0, u "java/lang/Object"), (0, .class_ 13), (0, u "java/util/SortedMap")] 53

/-- java/util/NavigableMap -/
def k8 : Class := { plain "java/util/NavigableMap" (some 0) with
  accessFlags := 1537
  interfaces := #[7]
  cf := some (fileOf pool8 2 #[] #[] 1537 10 #[12] #[])
  fields := #[]
  methods := #[]
  instanceTypes := #[]
  staticTypes := #[]
  resolved := Array.replicate 67 none
  statics := none }

def pool9 : Array CpInfo := pool [(1, .class_ 2), (0, u "java/lang/Cloneable"), (0, .class_ 4), (0, u "java/lang/Object")] 2

/-- java/lang/Cloneable -/
def k9 : Class := { plain "java/lang/Cloneable" (some 0) with
  accessFlags := 1537
  interfaces := #[]
  cf := some (fileOf pool9 1 #[] #[] 1537 3 #[] #[])
  fields := #[]
  methods := #[]
  instanceTypes := #[]
  staticTypes := #[]
  resolved := Array.replicate 7 none
  statics := none }

def pool10 : Array CpInfo := pool [(1, .class_ 2), (0, u "java/io/Serializable"), (0, .class_ 4), (0, u "java/lang/Object")] 2

/-- java/io/Serializable -/
def k10 : Class := { plain "java/io/Serializable" (some 0) with
  accessFlags := 1537
  interfaces := #[]
  cf := some (fileOf pool10 1 #[] #[] 1537 3 #[] #[])
  fields := #[]
  methods := #[]
  instanceTypes := #[]
  staticTypes := #[]
  resolved := Array.replicate 7 none
  statics := none }

def pool11 : Array CpInfo := pool [(1, .methodref 2 3), (0, .class_ 4), (0, .nameAndType 5 6), (0, u "java/util/AbstractMap"), (0, u "<init>"), (0, u "()V"), (0, .fieldref 8 9), (0, .class_ 10), (0, .nameAndType 11 12), (0, u "java/util/TreeMap"), (0, u "size"), (0, u "I"), (0, .fieldref 8 14), (0, .nameAndType 15 12), (0, u "modCount"), (0, .fieldref 8 17), (0, .nameAndType 18 19), (0, u "comparator"), (0, u "Ljava/util/Comparator;"), (14, u "entrySet"), (24, .class_ 61), (1, u "java/util/TreeMap$Entry"), (1, u "Ljava/lang/Object;"), (39, u "root"), (0, u "Ljava/util/TreeMap$Entry;"), (85, u "Ljava/util/TreeMap$EntrySet;"), (2, u "navigableKeySet"), (0, u "Ljava/util/TreeMap$KeySet;"), (2, u "descendingMap"), (0, u "Ljava/util/NavigableMap;"), (23, .class_ 223), (0, u "java/util/TreeMap$KeySet"), (7, .class_ 232), (0, u "java/util/NavigableMap"), (4, .class_ 238), (0, u "java/util/TreeMap$Values"), (3, .class_ 243), (0, u "java/util/TreeMap$EntrySet"), (1, .class_ 246), (0, u "java/util/TreeMap$DescendingSubMap"), (3, .class_ 251), (0, u "java/util/TreeMap$AscendingSubMap"), (17, .class_ 270), (0, u "java/util/TreeMap$KeyIterator"), (3, .class_ 275), (0, u "java/util/TreeMap$DescendingKeyIterator"), (17, u "Z"), (94, .class_ 389), (0, u "java/util/TreeMap$NavigableSubMap"), (1, .class_ 392), (0, u "java/util/TreeMap$KeySpliterator"), (3, .class_ 397), (0, u "java/util/TreeMap$DescendingKeySpliterator"), (4, u "UNBOUNDED"), (0, .class_ 404), (0, u "java/lang/Cloneable"), (0, .class_ 406), (0, u "java/io/Serializable"), (6, u "RED"), (2, u "BLACK"), (1, u "serialVersionUID"), (0, u "J"), (214, .class_ 635), (0, u "java/util/TreeMap$EntrySpliterator"), (0, .class_ 637), (0, u "java/util/TreeMap$ValueSpliterator"), (0, .class_ 639), (0, u "java/util/TreeMap$TreeMapSpliterator"), (0, .class_ 641), (0, u "java/util/TreeMap$SubMap"), (0, .class_ 643), (0, u "java/util/TreeMap$DescendingSubMap$DescendingEntrySetView"), (0, .class_ 645), (0, u "java/util/TreeMap$AscendingSubMap$AscendingEntrySetView"), (0, .class_ 647), (0, u "java/util/TreeMap$NavigableSubMap$DescendingSubMapKeyIterator"), (0, .class_ 649), (0, u "java/util/TreeMap$NavigableSubMap$SubMapKeyIterator"), (0, .class_ 651), (0, u "java/util/TreeMap$NavigableSubMap$DescendingSubMapEntryIterator"), (0, .class_ 653), (0, u "java/util/TreeMap$NavigableSubMap$SubMapEntryIterator"), (0, .class_ 655), (0, u "java/util/TreeMap$NavigableSubMap$SubMapIterator"), (0, .class_ 657), (0, u "java/util/TreeMap$NavigableSubMap$EntrySetView"), (0, .class_ 659), (0, u "java/util/TreeMap$ValueIterator"), (0, .class_ 661), (0, u "java/util/TreeMap$EntryIterator"), (0, .class_ 663), (0, u "java/util/TreeMap$PrivateEntryIterator")] 28

def k11c0 : Code := { maxStack := 2, maxLocals := 1, code := jdk_2729_method_1_code, exceptionTable := #[], attributes := #[] }
def k11m0 : Method := { name := "<init>", desc := "()V", sig := { parameters := [], returnType := none }, accessFlags := 1, code := some k11c0 }
/-- java/util/TreeMap -/
def k11 : Class := { plain "java/util/TreeMap" (some 5) with
  accessFlags := 33
  interfaces := #[8, 9, 10]
  cf := some (fileOf pool11 8 #[.nestMembers #[634, 636, 396, 391, 638, 59, 640, 245, 642, 250, 644, 388, 646, 648, 650, 652, 654, 656, 274, 269, 658, 660, 662, 222, 242, 237]] #[{ accessFlags := 1, nameIndex := 5, descriptorIndex := 6, attributes := #[] }] 33 2 #[231, 403, 405] #[{ accessFlags := 18, nameIndex := 18, descriptorIndex := 19, attributes := #[] }, { accessFlags := 130, nameIndex := 103, descriptorIndex := 104, attributes := #[] }, { accessFlags := 130, nameIndex := 11, descriptorIndex := 12, attributes := #[] }, { accessFlags := 130, nameIndex := 15, descriptorIndex := 12, attributes := #[] }, { accessFlags := 130, nameIndex := 34, descriptorIndex := 190, attributes := #[] }, { accessFlags := 130, nameIndex := 193, descriptorIndex := 194, attributes := #[] }, { accessFlags := 130, nameIndex := 197, descriptorIndex := 198, attributes := #[] }, { accessFlags := 26, nameIndex := 402, descriptorIndex := 63, attributes := #[] }, { accessFlags := 26, nameIndex := 413, descriptorIndex := 293, attributes := #[] }, { accessFlags := 26, nameIndex := 416, descriptorIndex := 293, attributes := #[] }, { accessFlags := 26, nameIndex := 418, descriptorIndex := 419, attributes := #[] }])
  fields := #[{ name := "comparator", type := (.object "java/util/Comparator"), accessFlags := 18, slot := 2, constantValue := 0 }, { name := "root", type := (.object "java/util/TreeMap$Entry"), accessFlags := 130, slot := 3, constantValue := 0 }, { name := "size", type := .int, accessFlags := 130, slot := 4, constantValue := 0 }, { name := "modCount", type := .int, accessFlags := 130, slot := 5, constantValue := 0 }, { name := "entrySet", type := (.object "java/util/TreeMap$EntrySet"), accessFlags := 130, slot := 6, constantValue := 0 }, { name := "navigableKeySet", type := (.object "java/util/TreeMap$KeySet"), accessFlags := 130, slot := 7, constantValue := 0 }, { name := "descendingMap", type := (.object "java/util/NavigableMap"), accessFlags := 130, slot := 8, constantValue := 0 }, { name := "UNBOUNDED", type := (.object "java/lang/Object"), accessFlags := 26, slot := 0, constantValue := 0 }, { name := "RED", type := .boolean, accessFlags := 26, slot := 1, constantValue := 0 }, { name := "BLACK", type := .boolean, accessFlags := 26, slot := 2, constantValue := 0 }, { name := "serialVersionUID", type := .long, accessFlags := 26, slot := 3, constantValue := 0 }]
  methods := #[k11m0]
  instanceTypes := #[(.object "java/util/Set"), (.object "java/util/Collection"), (.object "java/util/Comparator"), (.object "java/util/TreeMap$Entry"), .int, .int, (.object "java/util/TreeMap$EntrySet"), (.object "java/util/TreeMap$KeySet"), (.object "java/util/NavigableMap")]
  staticTypes := #[(.object "java/lang/Object"), .boolean, .boolean, .long]
  resolved := Array.replicate 692 none
  statics := none }

def pool12 : Array CpInfo := pool [(8, .class_ 10), (1, u "java/lang/Iterable"), (24, .class_ 36), (0, u "java/lang/Object")] 25

/-- java/lang/Iterable -/
def k12 : Class := { plain "java/lang/Iterable" (some 0) with
  accessFlags := 1537
  interfaces := #[]
  cf := some (fileOf pool12 8 #[] #[] 1537 35 #[] #[])
  fields := #[]
  methods := #[]
  instanceTypes := #[]
  staticTypes := #[]
  resolved := Array.replicate 62 none
  statics := none }

def pool13 : Array CpInfo := pool [(10, .class_ 12), (1, u "java/util/Collection"), (47, .class_ 61), (0, u "java/lang/Object"), (0, .class_ 63), (0, u "java/lang/Iterable")] 51

/-- java/util/Collection -/
def k13 : Class := { plain "java/util/Collection" (some 0) with
  accessFlags := 1537
  interfaces := #[12]
  cf := some (fileOf pool13 10 #[] #[] 1537 60 #[62] #[])
  fields := #[]
  methods := #[]
  instanceTypes := #[]
  staticTypes := #[]
  resolved := Array.replicate 115 none
  statics := none }

def pool14 : Array CpInfo := pool [(1, .methodref 2 3), (0, .class_ 4), (0, .nameAndType 5 6), (0, u "java/lang/Object"), (0, u "<init>"), (0, u "()V"), (1, .class_ 10), (1, u "java/util/AbstractCollection"), (66, .class_ 78), (0, u "java/util/Collection")] 81

def k14c0 : Code := { maxStack := 1, maxLocals := 1, code := jdk_22_method_1_code, exceptionTable := #[], attributes := #[] }
def k14m0 : Method := { name := "<init>", desc := "()V", sig := { parameters := [], returnType := none }, accessFlags := 4, code := some k14c0 }
/-- java/util/AbstractCollection -/
def k14 : Class := { plain "java/util/AbstractCollection" (some 0) with
  accessFlags := 1057
  interfaces := #[13]
  cf := some (fileOf pool14 8 #[] #[{ accessFlags := 4, nameIndex := 5, descriptorIndex := 6, attributes := #[] }] 1057 2 #[77] #[])
  fields := #[]
  methods := #[k14m0]
  instanceTypes := #[]
  staticTypes := #[]
  resolved := Array.replicate 160 none
  statics := none }

def pool15 : Array CpInfo := pool [(1, .class_ 2), (0, u "java/util/Queue"), (0, .class_ 4), (0, u "java/lang/Object"), (0, .class_ 6), (0, u "java/util/Collection")] 14

/-- java/util/Queue -/
def k15 : Class := { plain "java/util/Queue" (some 0) with
  accessFlags := 1537
  interfaces := #[13]
  cf := some (fileOf pool15 1 #[] #[] 1537 3 #[5] #[])
  fields := #[]
  methods := #[]
  instanceTypes := #[]
  staticTypes := #[]
  resolved := Array.replicate 21 none
  statics := none }

def pool16 : Array CpInfo := pool [(8, .class_ 10), (1, u "java/util/SequencedCollection"), (15, .class_ 27), (0, u "java/lang/Object"), (0, .class_ 29), (0, u "java/util/Collection")] 27

/-- java/util/SequencedCollection -/
def k16 : Class := { plain "java/util/SequencedCollection" (some 0) with
  accessFlags := 1537
  interfaces := #[13]
  cf := some (fileOf pool16 8 #[] #[] 1537 26 #[28] #[])
  fields := #[]
  methods := #[]
  instanceTypes := #[]
  staticTypes := #[]
  resolved := Array.replicate 57 none
  statics := none }

def pool17 : Array CpInfo := pool [(8, .class_ 10), (1, u "java/util/Deque"), (2, .class_ 14), (0, u "java/lang/Object"), (0, .class_ 16), (0, u "java/util/Queue"), (0, .class_ 18), (0, u "java/util/SequencedCollection")] 51

/-- java/util/Deque -/
def k17 : Class := { plain "java/util/Deque" (some 0) with
  accessFlags := 1537
  interfaces := #[15, 16]
  cf := some (fileOf pool17 8 #[] #[] 1537 13 #[15, 17] #[])
  fields := #[]
  methods := #[]
  instanceTypes := #[]
  staticTypes := #[]
  resolved := Array.replicate 70 none
  statics := none }

def pool18 : Array CpInfo := pool [(3, .fieldref 4 5), (0, .class_ 6), (0, .nameAndType 7 8), (0, u "java/util/ArrayDeque"), (0, u "elements"), (0, u "[Ljava/lang/Object;"), (13, u "tail"), (0, u "I"), (2, u "head"), (12, u "<init>"), (2, .methodref 43 44), (0, .class_ 45), (0, .nameAndType 39 46), (0, u "java/util/AbstractCollection"), (0, u "()V"), (0, .class_ 48), (0, u "java/lang/Object"), (82, .class_ 132), (0, u "java/util/ArrayDeque$DeqIterator"), (3, .class_ 137), (0, u "java/util/ArrayDeque$DescendingIterator"), (1, .class_ 140), (0, u "java/util/ArrayDeque$DeqSpliterator"), (137, .class_ 279), (0, u "java/util/Deque"), (0, .class_ 281), (0, u "java/lang/Cloneable"), (0, .class_ 283), (0, u "java/io/Serializable"), (0, u "MAX_ARRAY_SIZE"), (1, u "serialVersionUID"), (0, u "J")] 150

def k18c0 : Code := { maxStack := 2, maxLocals := 1, code := jdk_21_method_3_code, exceptionTable := #[], attributes := #[] }
def k18m0 : Method := { name := "<init>", desc := "()V", sig := { parameters := [], returnType := none }, accessFlags := 1, code := some k18c0 }
/-- java/util/ArrayDeque -/
def k18 : Class := { plain "java/util/ArrayDeque" (some 14) with
  accessFlags := 33
  interfaces := #[17, 9, 10]
  cf := some (fileOf pool18 4 #[.nestMembers #[139, 136, 131]] #[{ accessFlags := 1, nameIndex := 39, descriptorIndex := 46, attributes := #[] }] 33 43 #[278, 280, 282] #[{ accessFlags := 128, nameIndex := 7, descriptorIndex := 8, attributes := #[] }, { accessFlags := 128, nameIndex := 26, descriptorIndex := 23, attributes := #[] }, { accessFlags := 128, nameIndex := 22, descriptorIndex := 23, attributes := #[] }, { accessFlags := 26, nameIndex := 284, descriptorIndex := 23, attributes := #[] }, { accessFlags := 26, nameIndex := 286, descriptorIndex := 287, attributes := #[] }])
  fields := #[{ name := "elements", type := (.array (.object "java/lang/Object")), accessFlags := 128, slot := 0, constantValue := 0 }, { name := "head", type := .int, accessFlags := 128, slot := 1, constantValue := 0 }, { name := "tail", type := .int, accessFlags := 128, slot := 2, constantValue := 0 }, { name := "MAX_ARRAY_SIZE", type := .int, accessFlags := 26, slot := 0, constantValue := 0 }, { name := "serialVersionUID", type := .long, accessFlags := 26, slot := 1, constantValue := 0 }]
  methods := #[k18m0]
  instanceTypes := #[(.array (.object "java/lang/Object")), .int, .int]
  staticTypes := #[.int, .long]
  resolved := Array.replicate 438 none
  statics := none }

def pool19 : Array CpInfo := pool [(2, .class_ 4), (1, u "java/lang/Object"), (6, .class_ 13), (1, u "com/example/usher/usher/Node"), (0, u "waiting"), (0, u "Ljava/util/Deque;"), (2, u "id"), (0, u "I"), (8, u "peers"), (0, u "Ljava/util/List;"), (2, u "messenger"), (0, u "Lcom/example/usher/usher/Node$Messenger;"), (8, u "entries"), (0, u "J"), (2, u "messagesSent"), (5, u "holder"), (0, u "Lcom/example/usher/usher/Node$Request;"), (19, u "open"), (0, u "Z"), (40, .class_ 116), (0, u "com/example/usher/usher/Node$Request"), (3, u "closed"), (50, .class_ 173), (1, u "com/example/usher/usher/Node$Messenger"), (28, u "TOKEN_ID_BITS"), (9, u "fencingToken"), (0, u "(JI)J")] 37

def k19c0 : Code := { maxStack := 4, maxLocals := 3, code := prog_27_method_2_code, exceptionTable := #[], attributes := #[] }
def k19m0 : Method := { name := "fencingToken", desc := "(JI)J", sig := { parameters := [.long, .int], returnType := some .long }, accessFlags := 8, code := some k19c0 }
/-- com/example/usher/usher/Node -/
def k19 : Class := { plain "com/example/usher/usher/Node" (some 0) with
  accessFlags := 1056
  interfaces := #[]
  cf := some (fileOf pool19 11 #[.nestMembers #[115, 171]] #[{ accessFlags := 8, nameIndex := 212, descriptorIndex := 213, attributes := #[] }] 1056 2 #[] #[{ accessFlags := 24, nameIndex := 202, descriptorIndex := 19, attributes := #[] }, { accessFlags := 18, nameIndex := 18, descriptorIndex := 19, attributes := #[] }, { accessFlags := 18, nameIndex := 28, descriptorIndex := 29, attributes := #[] }, { accessFlags := 18, nameIndex := 32, descriptorIndex := 33, attributes := #[] }, { accessFlags := 18, nameIndex := 14, descriptorIndex := 15, attributes := #[] }, { accessFlags := 2, nameIndex := 52, descriptorIndex := 53, attributes := #[] }, { accessFlags := 2, nameIndex := 42, descriptorIndex := 43, attributes := #[] }, { accessFlags := 2, nameIndex := 46, descriptorIndex := 43, attributes := #[] }, { accessFlags := 2, nameIndex := 73, descriptorIndex := 74, attributes := #[] }, { accessFlags := 2, nameIndex := 120, descriptorIndex := 74, attributes := #[] }])
  fields := #[{ name := "TOKEN_ID_BITS", type := .int, accessFlags := 24, slot := 0, constantValue := 0 }, { name := "id", type := .int, accessFlags := 18, slot := 0, constantValue := 0 }, { name := "peers", type := (.object "java/util/List"), accessFlags := 18, slot := 1, constantValue := 0 }, { name := "messenger", type := (.object "com/example/usher/usher/Node$Messenger"), accessFlags := 18, slot := 2, constantValue := 0 }, { name := "waiting", type := (.object "java/util/Deque"), accessFlags := 18, slot := 3, constantValue := 0 }, { name := "holder", type := (.object "com/example/usher/usher/Node$Request"), accessFlags := 2, slot := 4, constantValue := 0 }, { name := "entries", type := .long, accessFlags := 2, slot := 5, constantValue := 0 }, { name := "messagesSent", type := .long, accessFlags := 2, slot := 6, constantValue := 0 }, { name := "open", type := .boolean, accessFlags := 2, slot := 7, constantValue := 0 }, { name := "closed", type := .boolean, accessFlags := 2, slot := 8, constantValue := 0 }]
  methods := #[k19m0]
  instanceTypes := #[.int, (.object "java/util/List"), (.object "com/example/usher/usher/Node$Messenger"), (.object "java/util/Deque"), (.object "com/example/usher/usher/Node$Request"), .long, .long, .boolean, .boolean]
  staticTypes := #[.int]
  resolved := Array.replicate 251 none
  statics := none }

/-- the primitive byte -/
def k20 : Class := { plain "byte" none with kind := .primitive 'B', accessFlags := 0x411 }
/-- [B -/
def k21 : Class := { plain "[B" (some 0) with kind := .array 20 .byte, interfaces := #[9, 10], accessFlags := 1041 }

/-- the primitive int -/
def k22 : Class := { plain "int" none with kind := .primitive 'I', accessFlags := 0x411 }
/-- [I -/
def k23 : Class := { plain "[I" (some 0) with kind := .array 22 .int, interfaces := #[9, 10], accessFlags := 1041 }

/-- [Ljava/lang/Object; -/
def k24 : Class := { plain "[Ljava/lang/Object;" (some 0) with kind := .array 0 (.object "java/lang/Object"), interfaces := #[9, 10], accessFlags := 1041 }

def heap : Heap := #[]
def classes : Array Class := #[k0, k1, k2, k3, k4, k5, k6, k7, k8, k9, k10, k11, k12, k13, k14, k15, k16, k17, k18, k19, k20, k21, k22, k23, k24]
def interned : List (Array UInt16 × Addr) := []
def slotsUsed : Nat := 0
def theMethod : MethodId := ⟨1, 1⟩
def args0 : Array Value := #[.long 5, .int 7, .int 9]
def aboutOver (below : List Frame) : State where
  vm := { classes := classes, interned := interned.toArray }
  heap := heap
  slotsUsed := slotsUsed
  threads := #[{ frames := .invoking theMethod args0 :: below }]
def below0 : List Frame := [.native { method := ⟨0, 0⟩, args := #[] }]
def about1 : State := aboutOver below0
def p0 : Program := .bare "" "" ""
def e0 : Env := launch0.env 0 0 0
theorem w_frames : about1.frames = Frame.invoking theMethod args0 :: below0 := rfl
set_option maxRecDepth 65536 in
theorem w_args : argsFit about1.vm theMethod args0 = true := by decide +kernel
set_option maxRecDepth 65536 in
theorem w_heap : heapFits about1 = true := by decide +kernel
set_option maxRecDepth 65536 in
theorem w_runnable : about1.curStatus? = some .runnable := by decide +kernel
set_option maxRecDepth 65536 in
theorem w_alone : about1.alone = true := by decide +kernel
set_option maxRecDepth 65536 in
theorem w_named : about1.methodNamed? x = some theMethod := by decide +kernel
set_option maxRecDepth 65536 in
theorem w_hears : about1.hears theMethod below0 = true := by decide +kernel
set_option maxRecDepth 65536 in
theorem w_ripe : about1.ripe theMethod args0 below0 = true := by decide +kernel
theorem w_running : about1.status = .running := rfl
set_option maxRecDepth 65536 in
theorem w_room : about1.hasRoom e0.platform room_1 = true :=
  launch0.hasRoom_least _ room_1 (by decide +kernel) (by decide +kernel) (by decide +kernel) (by decide +kernel) (by decide +kernel) (by decide +kernel)
theorem allAtoms_all (ts : List Jvm.Cond) (a : Array Jvm.Value) (st : Jvm.State) : (allAtoms ts).before a st = ts.all (fun c => c.before a st) := by
  induction ts with
  | nil => rfl
  | cons c t ih =>
    show (Jvm.Cond.and c (allAtoms t)).before a st = _
    rw [Jvm.Cond.before_and, ih, List.all_cons]
def words1 : List Jvm.Cond := Jvm.Cond.code x code maxLocals ret :: tables_1
/-- a 'code' word, met by the world's own term for the bytes: nothing is compared byte by byte -/
theorem code_word {y : MethodName} {bytes : ByteArray} {mx : Nat} {rt : Option FieldType} {a : Array Value} {s : State} {m : MethodId} {meth : Method} {c : Code} (h1 : s.methodNamed? y = some m) (h2 : s.vm.method? m = some meth) (h3 : meth.code = some c) (h4 : c.code = bytes)
    (h5 : (c.maxLocals == mx && c.exceptionTable.isEmpty && decide (c.maxStack ≤ mostOperands) && decide (meth.sig.returnType = rt) && !meth.locks && decide (parseMethodDescriptor y.desc = some meth.sig)) = true) : (Jvm.Cond.code y bytes mx rt).before a s = true := by
  simp only [Bool.and_eq_true, beq_iff_eq, Bool.not_eq_true', decide_eq_true_eq] at h5
  obtain ⟨⟨⟨⟨⟨g1, g2⟩, g3⟩, g4⟩, g5⟩, g6⟩ := h5
  simp [Cond.before, Cond.holds, Cond.value, h1, h2, h3, h4, g1, g2, g3, g4, g5, g6]
def isCode : Jvm.Cond → Bool
  | .code _ _ _ _ => true
  | _ => false
theorem all_split {L : List Jvm.Cond} {P : Jvm.Cond → Bool} (h1 : L.all (fun c => isCode c || P c) = true) (h2 : ∀ c ∈ L.filter isCode, P c = true) : L.all P = true := by
  refine List.all_eq_true.mpr fun c hc => ?_
  have h := List.all_eq_true.mp h1 c hc
  rcases Bool.eq_false_or_eq_true (isCode c) with hi | hi
  · exact h2 c (List.mem_filter.mpr ⟨hc, hi⟩)
  · simpa [hi] using h
set_option maxRecDepth 65536 in
theorem w_c0 : (Jvm.Cond.code x code maxLocals ret).before args0 about1 = true := code_word (m := ⟨1, 1⟩) (meth := k1m1) (c := k1c1) (by decide +kernel) rfl rfl rfl (by decide +kernel)
set_option maxRecDepth 65536 in
theorem w_c1 : (Jvm.Cond.code ({ cls := "java/lang/Math", name := "min", desc := "(JJ)J" } : Jvm.MethodName) jdk_29_method_70_code (4 : Nat) (Option.some Jvm.ClassFile.FieldType.long)).before args0 about1 = true := code_word (m := ⟨2, 1⟩) (meth := k2m1) (c := k2c1) (by decide +kernel) rfl rfl rfl (by decide +kernel)
set_option maxRecDepth 65536 in
theorem w_c2 : (Jvm.Cond.code ({ cls := "com/example/usher/usher/Token", name := "<init>", desc := "(J)V" } : Jvm.MethodName) prog_55_method_1_code (3 : Nat) (Option.none : Option Jvm.ClassFile.FieldType)).before args0 about1 = true := code_word (m := ⟨3, 0⟩) (meth := k3m0) (c := k3c0) (by decide +kernel) rfl rfl rfl (by decide +kernel)
set_option maxRecDepth 65536 in
theorem w_c3 : (Jvm.Cond.code ({ cls := "java/util/TreeMap", name := "<init>", desc := "()V" } : Jvm.MethodName) jdk_2729_method_1_code (1 : Nat) (Option.none : Option Jvm.ClassFile.FieldType)).before args0 about1 = true := code_word (m := ⟨11, 0⟩) (meth := k11m0) (c := k11c0) (by decide +kernel) rfl rfl rfl (by decide +kernel)
set_option maxRecDepth 65536 in
theorem w_c4 : (Jvm.Cond.code ({ cls := "java/util/AbstractMap", name := "<init>", desc := "()V" } : Jvm.MethodName) jdk_71_method_1_code (1 : Nat) (Option.none : Option Jvm.ClassFile.FieldType)).before args0 about1 = true := code_word (m := ⟨5, 0⟩) (meth := k5m0) (c := k5c0) (by decide +kernel) rfl rfl rfl (by decide +kernel)
set_option maxRecDepth 65536 in
theorem w_c5 : (Jvm.Cond.code ({ cls := "java/lang/Object", name := "<init>", desc := "()V" } : Jvm.MethodName) object_method_1_code (1 : Nat) (Option.none : Option Jvm.ClassFile.FieldType)).before args0 about1 = true := code_word (m := ⟨0, 0⟩) (meth := k0m0) (c := k0c0) (by decide +kernel) rfl rfl rfl (by decide +kernel)
set_option maxRecDepth 65536 in
theorem w_c6 : (Jvm.Cond.code ({ cls := "java/util/ArrayDeque", name := "<init>", desc := "()V" } : Jvm.MethodName) jdk_21_method_3_code (1 : Nat) (Option.none : Option Jvm.ClassFile.FieldType)).before args0 about1 = true := code_word (m := ⟨18, 0⟩) (meth := k18m0) (c := k18c0) (by decide +kernel) rfl rfl rfl (by decide +kernel)
set_option maxRecDepth 65536 in
theorem w_c7 : (Jvm.Cond.code ({ cls := "java/util/AbstractCollection", name := "<init>", desc := "()V" } : Jvm.MethodName) jdk_22_method_1_code (1 : Nat) (Option.none : Option Jvm.ClassFile.FieldType)).before args0 about1 = true := code_word (m := ⟨14, 0⟩) (meth := k14m0) (c := k14c0) (by decide +kernel) rfl rfl rfl (by decide +kernel)
set_option maxRecDepth 65536 in
theorem w_c8 : (Jvm.Cond.code ({ cls := "com/example/usher/usher/Token", name := "<init>", desc := "(JJLjava/util/Map;Ljava/util/Deque;J)V" } : Jvm.MethodName) prog_55_method_3_code (9 : Nat) (Option.none : Option Jvm.ClassFile.FieldType)).before args0 about1 = true := code_word (m := ⟨3, 1⟩) (meth := k3m1) (c := k3c1) (by decide +kernel) rfl rfl rfl (by decide +kernel)
set_option maxRecDepth 65536 in
theorem w_c9 : (Jvm.Cond.code ({ cls := "com/example/usher/usher/Token", name := "getGrants", desc := "()J" } : Jvm.MethodName) prog_55_method_6_code (1 : Nat) (Option.some Jvm.ClassFile.FieldType.long)).before args0 about1 = true := code_word (m := ⟨3, 2⟩) (meth := k3m2) (c := k3c2) (by decide +kernel) rfl rfl rfl (by decide +kernel)
set_option maxRecDepth 65536 in
theorem w_c10 : (Jvm.Cond.code ({ cls := "com/example/usher/usher/Token", name := "grant", desc := "(I)J" } : Jvm.MethodName) prog_55_method_7_code (2 : Nat) (Option.some Jvm.ClassFile.FieldType.long)).before args0 about1 = true := code_word (m := ⟨3, 3⟩) (meth := k3m3) (c := k3c3) (by decide +kernel) rfl rfl rfl (by decide +kernel)
set_option maxRecDepth 65536 in
theorem w_c11 : (Jvm.Cond.code ({ cls := "com/example/usher/usher/Node", name := "fencingToken", desc := "(JI)J" } : Jvm.MethodName) prog_27_method_2_code (3 : Nat) (Option.some Jvm.ClassFile.FieldType.long)).before args0 about1 = true := code_word (m := ⟨19, 0⟩) (meth := k19m0) (c := k19c0) (by decide +kernel) rfl rfl rfl (by decide +kernel)
def codes1 : List Jvm.Cond := [Jvm.Cond.code x code maxLocals ret, Jvm.Cond.code ({ cls := "java/lang/Math", name := "min", desc := "(JJ)J" } : Jvm.MethodName) jdk_29_method_70_code (4 : Nat) (Option.some Jvm.ClassFile.FieldType.long), Jvm.Cond.code ({ cls := "com/example/usher/usher/Token", name := "<init>", desc := "(J)V" } : Jvm.MethodName) prog_55_method_1_code (3 : Nat) (Option.none : Option Jvm.ClassFile.FieldType), Jvm.Cond.code ({ cls := "java/util/TreeMap", name := "<init>", desc := "()V" } : Jvm.MethodName) jdk_2729_method_1_code (1 : Nat) (Option.none : Option Jvm.ClassFile.FieldType), Jvm.Cond.code ({ cls := "java/util/AbstractMap", name := "<init>", desc := "()V" } : Jvm.MethodName) jdk_71_method_1_code (1 : Nat) (Option.none : Option Jvm.ClassFile.FieldType), Jvm.Cond.code ({ cls := "java/lang/Object", name := "<init>", desc := "()V" } : Jvm.MethodName) object_method_1_code (1 : Nat) (Option.none : Option Jvm.ClassFile.FieldType), Jvm.Cond.code ({ cls := "java/util/ArrayDeque", name := "<init>", desc := "()V" } : Jvm.MethodName) jdk_21_method_3_code (1 : Nat) (Option.none : Option Jvm.ClassFile.FieldType), Jvm.Cond.code ({ cls := "java/util/AbstractCollection", name := "<init>", desc := "()V" } : Jvm.MethodName) jdk_22_method_1_code (1 : Nat) (Option.none : Option Jvm.ClassFile.FieldType), Jvm.Cond.code ({ cls := "com/example/usher/usher/Token", name := "<init>", desc := "(JJLjava/util/Map;Ljava/util/Deque;J)V" } : Jvm.MethodName) prog_55_method_3_code (9 : Nat) (Option.none : Option Jvm.ClassFile.FieldType), Jvm.Cond.code ({ cls := "com/example/usher/usher/Token", name := "getGrants", desc := "()J" } : Jvm.MethodName) prog_55_method_6_code (1 : Nat) (Option.some Jvm.ClassFile.FieldType.long), Jvm.Cond.code ({ cls := "com/example/usher/usher/Token", name := "grant", desc := "(I)J" } : Jvm.MethodName) prog_55_method_7_code (2 : Nat) (Option.some Jvm.ClassFile.FieldType.long), Jvm.Cond.code ({ cls := "com/example/usher/usher/Node", name := "fencingToken", desc := "(JI)J" } : Jvm.MethodName) prog_27_method_2_code (3 : Nat) (Option.some Jvm.ClassFile.FieldType.long)]
set_option maxRecDepth 65536 in
theorem codes_eq : words1.filter isCode = codes1 := rfl
theorem w_codes : ∀ c ∈ words1.filter isCode, c.before args0 about1 = true := by
  rw [codes_eq]
  intro c hc
  simp only [codes1, List.mem_cons, List.not_mem_nil, or_false] at hc
  rcases hc with rfl | rfl | rfl | rfl | rfl | rfl | rfl | rfl | rfl | rfl | rfl | rfl
  · exact w_c0
  · exact w_c1
  · exact w_c2
  · exact w_c3
  · exact w_c4
  · exact w_c5
  · exact w_c6
  · exact w_c7
  · exact w_c8
  · exact w_c9
  · exact w_c10
  · exact w_c11
set_option maxRecDepth 65536 in
theorem w_t1 : (words1.take 24).all (fun c => isCode c || c.before args0 about1) = true := by decide +kernel
set_option maxRecDepth 65536 in
theorem w_t2 : ((words1.drop 24).take 24).all (fun c => isCode c || c.before args0 about1) = true := by decide +kernel
set_option maxRecDepth 65536 in
theorem w_t3 : (((words1.drop 24).drop 24).take 24).all (fun c => isCode c || c.before args0 about1) = true := by decide +kernel
set_option maxRecDepth 65536 in
theorem w_t4 : (((words1.drop 24).drop 24).drop 24).all (fun c => isCode c || c.before args0 about1) = true := by decide +kernel
theorem w_tables : (allAtoms (Jvm.Cond.code x code maxLocals ret :: tables_1)).before args0 about1 = true := by
  rw [allAtoms_all]
  show words1.all (fun c => c.before args0 about1) = true
  refine all_split ?_ w_codes
  rw [← List.take_append_drop 24 words1, List.all_append, w_t1, ← List.take_append_drop 24 (words1.drop 24), List.all_append, w_t2, ← List.take_append_drop 24 ((words1.drop 24).drop 24), List.all_append, w_t3, w_t4]
  rfl
set_option maxRecDepth 65536 in
theorem w_case : (Jvm.Cond.and given_1 narrow_1).before args0 about1 = true := by decide +kernel
theorem w_applies : (headSpec (Jvm.Cond.code x code maxLocals ret :: tables_1) room_1).applies x e0.platform about1 = true :=
  (Spec.applies_iff w_frames).mpr ⟨w_running, w_runnable, w_alone, w_named, w_hears, w_ripe, w_room, w_tables⟩
theorem atStart : AtStart classFile x code maxLocals ret World_1 tables_1 room_1 Calls_1 rest_1 Pre_1 launch0 p0 e0 about1 theMethod args0 below0 :=
  ⟨lists_1, trivial, launch0.admits_env _ _ _, launch0.least_env, fairChoices_fair.cas, fairChoices_fair.clock, w_frames, w_args, w_heap, w_applies, trivial, trivial, w_case⟩
end start1
theorem witness_1 : WitnessClaimed_1 := ⟨start1.p0, start1.e0, start1.about1, start1.theMethod, start1.args0, start1.below0, start1.atStart⟩
end Jvm.Pilot.@@N@@
