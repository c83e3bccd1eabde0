import JvmDerived
import JvmDerived.Pilot.@@N@@Statement
import JvmDerived.Pilot.@@N@@Code
set_option linter.unusedVariables false
set_option linter.unusedSimpArgs false
namespace Jvm.RoadKit
open Sem ClassFile Op Lib Jvm.Stand Jvm.Free Jvm.LawKit
section New
variable {p : Program} {l : Launch} {e : Env} {R : Room} {s : State} {m : MethodId} {args : Array Value} {below : List Frame} {meth : Method} {c : Code} {T : State} {locs : List Loc} {cells slots : Nat}
theorem retI (X : Stand p l e R s m args below meth c T locs cells slots) (hx : p.tables.exec = Jvm.exec) {pc : Nat} {Ls : Array Slot} {z : Int32} {rest : List Value} (hret : meth.sig.returnType = some .int) (hd : decode c.code pc = .ok (.ireturn, 1)) {fs : List Frame}
    (hl : ∀ (f : JFrame) (acts : List Action), f.method = m → f.locked = none → f.entered = [] → (doReturn e (T.setTop f) acts (some (.int z))).1 = T.setFrames fs) : Steps p.tables e below (T.setTop (mkF m pc Ls (.int z :: rest))) (T.setFrames fs) := by
  have hm' : T.vm.method? m = some meth := X.method'
  have hn : narrow .int (.int z) = .int z := rfl
  show Steps p.tables e below (T.setTop { method := m, pc := pc, locals := Ls, stack := _ :: rest, locked := none }) _
  jvm_step X.here [X.here.top, hx, hd, hm', hret, hn]
  first | (intro acts; rw [hl _ acts rfl rfl rfl]) | rw [hl _ _ rfl rfl rfl]
  exact Steps.refl _
end New
end Jvm.RoadKit
namespace Jvm.Pilot.@@N@@
open Jvm Jvm.ClassFile Sem Op Lib Jvm.Free Jvm.Stand Jvm.LawKit Jvm.RoadKit Bundle Jvm.Pilot.@@N@@.Jvm.D
theorem own_w {Z : State} {a0 : Array Value} (hw : ∀ d ∈ tables_1, d.before a0 Z = true) (i : Nat) {d : Jvm.Cond} (h : tables_1[i]? = some d) : d.before a0 Z = true := hw _ (List.mem_of_getElem? h)
/-! a boolean array: what each place holds, as a function of the place -/
def own_arz (Z : State) (h : Heap) (b : Addr) (n : Int32) (f : Int32 → Int32) : Prop := ∃ c : Cell, Arr Z h b c .boolean ∧ c.slots.size = n.toNatClampNeg ∧ ¬ n < 0 ∧ ∀ j : Int32, ¬ j < 0 → j < n → c.slots[j.toNatClampNeg]? = some (.int (f j))
section StepsZ
variable {p : Program} {l : Launch} {e : Env} {R : Room} {s : State} {m : MethodId} {args : Array Value} {below : List Frame} {meth : Method} {c : Code} {T : State} {locs : List Loc} {cells slots : Nat} {Z : State} {h : Heap}
theorem own_ldz (X : Stand p l e R s m args below meth c T locs cells slots) (hx : p.tables.exec = Jvm.exec) (hZ : Z.Warmed39 s.vm) (eT : T.heap = h) {b : Addr} {n : Int32} {f : Int32 → Int32} (V : own_arz Z h b n f) {j : Int32} (hj : ¬ j < 0) (hn : j < n) {g : JFrame} (hg : g.method = m) {rest : List Value} (hs : g.stack = .int j :: .ref b :: rest) (hd : decode c.code g.pc = .ok (.baload, 1)) (target : State)
    (hr : Steps p.tables e below (T.setTop { g with pc := g.pc + 1, stack := .int (f j) :: rest }) target) : Steps p.tables e below (T.setTop g) target := by
  obtain ⟨cl, A, S, N, G⟩ := V
  exact X.baloadBooleans hx (by rw [eT]; exact A.1) (State.isArrayOf_alike hZ.alike A.2.1) A.2.2 (inb_of S ⟨hj, hn⟩) (G j hj hn) hg hs hd target hr
theorem own_len (X : Stand p l e R s m args below meth c T locs cells slots) (hx : p.tables.exec = Jvm.exec) (hZ : Z.Warmed39 s.vm) (eT : T.heap = h) {b : Addr} {n : Int32} {f : Int32 → Int32} (V : own_arz Z h b n f) {g : JFrame} (hg : g.method = m) {rest : List Value} (hs : g.stack = .ref b :: rest) (hd : decode c.code g.pc = .ok (.arraylength, 1)) (target : State)
    (hr : Steps p.tables e below (T.setTop { g with pc := g.pc + 1, stack := .int n :: rest }) target) : Steps p.tables e below (T.setTop g) target := by
  obtain ⟨cl, A, S, N, G⟩ := V
  refine X.arraylength hx (by rw [eT]; exact A.1) (State.isArrayOf_alike hZ.alike A.2.1) hg hs hd target ?_
  rw [len_of S N]
  exact hr
end StepsZ
/-! what the two methods answer -/
def own_al (f : Int32 → Int32) (c : Int32) : Int32 := if c < (128 : Int32) then (if f c = (0 : Int32) then 0 else 1) else 1
def own_f2 (c : Int32) : Int32 := if ¬ (c < (128 : Int32)) then 1 else if ¬ ((32 : Int32) < c) then 0 else if c = (60 : Int32) ∨ c = (62 : Int32) ∨ c = (34 : Int32) ∨ c = (123 : Int32) ∨ c = (125 : Int32) ∨ c = (124 : Int32) ∨ c = (94 : Int32) ∨ c = (96 : Int32) ∨ c = (92 : Int32) then 0 else 1
theorem own_01 (c : Int32) : own_f2 c = (0 : Int32) ∨ own_f2 c = (1 : Int32) := by
  unfold own_f2
  split
  · exact Or.inr rfl
  · split
    · exact Or.inl rfl
    · split
      · exact Or.inl rfl
      · exact Or.inr rfl
theorem own_eq (f : Int32 → Int32) (hf : ∀ j : Int32, ¬ j < 0 → j < (128 : Int32) → f j = own_f2 j) (c : Int32) (h0 : ¬ c < 0) : own_al f c = own_f2 c := by
  unfold own_al
  by_cases q : c < (128 : Int32)
  · rw [if_pos q, hf c h0 q]
    rcases own_01 c with h | h
    · rw [h]; rfl
    · rw [h]; rfl
  · rw [if_neg q]
    unfold own_f2
    rw [if_pos q]
theorem own_nn (c m : Int32) (hm : 0 ≤ m.toInt) : ¬ ((c &&& m) < (0 : Int32)) := by
  have e := (c_and c m hm).1
  have k0 : (0 : Int32).toInt = 0 := by decide
  rw [Int32.lt_iff_toInt_lt, k0]
  omega
theorem d1_0 : decode prog_131_method_2_code 0 = .ok (.iload_n 0, 1) := by decide +kernel
theorem d1_1 : decode prog_131_method_2_code 1 = .ok (.getstatic 33, 3) := by decide +kernel
theorem d1_4 : decode prog_131_method_2_code 4 = .ok (.arraylength, 1) := by decide +kernel
theorem d1_5 : decode prog_131_method_2_code 5 = .ok (.if_icmp .ge 11, 3) := by decide +kernel
theorem d1_8 : decode prog_131_method_2_code 8 = .ok (.getstatic 33, 3) := by decide +kernel
theorem d1_11 : decode prog_131_method_2_code 11 = .ok (.iload_n 0, 1) := by decide +kernel
theorem d1_12 : decode prog_131_method_2_code 12 = .ok (.baload, 1) := by decide +kernel
theorem d1_13 : decode prog_131_method_2_code 13 = .ok (.ifCond .eq 7, 3) := by decide +kernel
theorem d1_16 : decode prog_131_method_2_code 16 = .ok (.iconst 1, 1) := by decide +kernel
theorem d1_17 : decode prog_131_method_2_code 17 = .ok (.goto 4, 3) := by decide +kernel
theorem d1_20 : decode prog_131_method_2_code 20 = .ok (.iconst 0, 1) := by decide +kernel
theorem d1_21 : decode prog_131_method_2_code 21 = .ok (.ireturn, 1) := by decide +kernel
theorem pn_1 : plainName "com/example/provenant/provenant/rdf/Term$Iri" = true := by first | (simp [plainName, overriddenIn]; done) | decide +kernel
theorem ef_1 (m : MethodId) (p1 : Int32) : entryFrame m #[(.int p1)] 1 = mkF m 0 #[.val (.int p1)] [] := by first | (simp [entryFrame, mkF, argsToLocals, Value.category]; done) | rfl
def Q1 (Z : State) (p1 : Int32) (b : Addr) (f : Int32 → Int32) (h0 : Heap) (n0 : Nat) (v : Option Value) (h : Heap) (L : List Loc) : Prop := v = some (.int (own_al f p1)) ∧ Fr n0 L ∧ h = h0
set_option maxRecDepth 65536 in
set_option maxHeartbeats 40000000 in
theorem rm1 (l : Launch) (Z : State) (a0 : Array Value) (hw : ∀ d ∈ tables_1, d.before a0 Z = true) (ws : List Jvm.Cond) (p1 : Int32) (b : Addr) (f : Int32 → Int32) (h0 : Heap) (n0 : Nat) (Z0 : n0 ≤ h0.size) (S0 : Sta Z h0 "com/example/provenant/provenant/rdf/Term$Iri" "ALLOWED" "[Z" (.ref b)) (A0 : own_arz Z h0 b (128 : Int32) f) (hj : ¬ p1 < 0) :
    MetFree l (⟨"com/example/provenant/provenant/rdf/Term$Iri", "allows", "(I)Z"⟩ : MethodName) (head1 (Jvm.Cond.code (⟨"com/example/provenant/provenant/rdf/Term$Iri", "allows", "(I)Z"⟩ : MethodName) prog_131_method_2_code 1 (some .boolean) :: ws) ({ frames := 0, cells := 0, slots := 0, locals := 0 } : Room)) (fun a U => a = #[(.int p1)] ∧ Z.Warmed39 U.vm ∧ U.heap = h0) (fun _ _ _ _ _ => True) (fun _ U o U' => ∃ v L, o = .returned v ∧ Q1 Z p1 b f h0 n0 v U'.heap L ∧ FrameEnd U o U' L ({ frames := 0, cells := 0, slots := 0, locals := 0 } : Room).cells ({ frames := 0, cells := 0, slots := 0, locals := 0 } : Room).slots) := by
  refine MetFree.of_bodySF (plainFor_of_name pn_1) hisR ?_
  intro p e s m args below meth c s₁ Bd hml0 hP hK
  obtain ⟨rfl, hZ, hh⟩ := hP
  have hx := Bd.exec
  have hby := Bd.bytes
  have hml : c.maxLocals = 1 := hml0
  have hown : s.vm.findClass "com/example/provenant/provenant/rdf/Term$Iri" = some m.cls := findClass_of_methodNamed Bd.named
  have hnm := (name_of_methodNamed Bd.named Bd.method).1
  have X0 : Stand p l e ({ frames := 0, cells := 0, slots := 0, locals := 0 } : Room) s m #[(.int p1)] below meth c s₁ [] 0 0 := Stand.of_body Bd
  have e0 : s₁.heap = h0 := by rw [← hh, Bd.state]; rfl
  have N0 := Fr.nil n0
  have pre0 : ∀ t, Steps p.tables e below (s₁.setTop (mkF m 0 #[.val (.int p1)] [])) t → Steps p.tables e below (s₁.setTop (entryFrame m #[(.int p1)] 1)) t := fun t k => castTop (ef_1 m p1) k
  obtain ⟨T1, X1, e1, st1⟩ := getS2 X0 hx hZ hown (host := "") (Or.inl (own_w hw 5 rfl)) Via.refl e0 S0 (g := (mkF m 1 #[.val (.int p1)] [(.int p1)])) rfl (hb hby d1_1)
  by_cases hc5 : p1 < (128 : Int32)
  · obtain ⟨T2, X2, e2, st2⟩ := getS2 X1 hx hZ hown (host := "") (Or.inl (own_w hw 5 rfl)) Via.refl e1 S0 (g := (mkF m 8 #[.val (.int p1)] [])) rfl (hb hby d1_8)
    by_cases hc13 : (f p1) = (0 : Int32)
    · obtain ⟨fs, hr, hrun, hended, hW, hsame⟩ := X2.leave (v := some (.int (0 : Int32))) (fun h => by rw [Bd.returns] at h; cases h)
      refine ⟨_, _, pre0 _ ?_, hrun, hended, _, _, rfl, ?_, ⟨_, rfl⟩, hW, hsame.mono (by decide) (by decide)⟩
      · show Steps p.tables e below (s₁.setTop (mkF m 0 #[.val (.int p1)] [])) _
        refine XS.iloadN X0.here hx rfl (hb hby d1_0) rfl ?_
        show Steps p.tables e below (s₁.setTop (mkF m 1 #[.val (.int p1)] [(.int p1)])) _
        refine st1 _ ?_
        show Steps p.tables e below (T1.setTop (mkF m 4 #[.val (.int p1)] [(.ref b), (.int p1)])) _
        refine own_len X1 hx hZ e1 A0 (g := (mkF m 4 #[.val (.int p1)] [(.ref b), (.int p1)])) rfl rfl (hb hby d1_4) _ ?_
        show Steps p.tables e below (T1.setTop (mkF m 5 #[.val (.int p1)] [(.int (128 : Int32)), (.int p1)])) _
        refine XS.icmpNo X1.here hx rfl (hb hby d1_5) rfl (tlt hc5).2.1 ?_
        show Steps p.tables e below (T1.setTop (mkF m 8 #[.val (.int p1)] [])) _
        refine st2 _ ?_
        show Steps p.tables e below (T2.setTop (mkF m 11 #[.val (.int p1)] [(.ref b)])) _
        refine XS.iloadN X2.here hx rfl (hb hby d1_11) rfl ?_
        show Steps p.tables e below (T2.setTop (mkF m 12 #[.val (.int p1)] [(.int p1), (.ref b)])) _
        refine own_ldz X2 hx hZ e2 A0 hj hc5 (g := (mkF m 12 #[.val (.int p1)] [(.int p1), (.ref b)])) rfl rfl (hb hby d1_12) _ ?_
        show Steps p.tables e below (T2.setTop (mkF m 13 #[.val (.int p1)] [(.int (f p1))])) _
        refine XS.ifYes X2.here hx rfl (pc0 := 13) (pc' := 20) rfl (hb hby d1_13) rfl ((if0 _ _).trans (teq hc13).1) (by decide) (by decide) ?_
        show Steps p.tables e below (T2.setTop (mkF m 20 #[.val (.int p1)] [])) _
        refine XS.iconst X2.here hx rfl (hb hby d1_20) ?_
        show Steps p.tables e below (T2.setTop (mkF m 21 #[.val (.int p1)] [(.int (0 : Int32))])) _
        exact retN X2 hx (t := .boolean) Bd.returns (by simp) (hb hby d1_21) hr
      · show Q1 Z p1 b f h0 n0 _ T2.heap _
        rw [e2]
        exact ⟨congrArg (fun z => some (Value.int z)) (show (0 : Int32) = own_al f p1 by simp [own_al, hc5, hc13]), N0, rfl⟩
    · obtain ⟨fs, hr, hrun, hended, hW, hsame⟩ := X2.leave (v := some (.int (1 : Int32))) (fun h => by rw [Bd.returns] at h; cases h)
      refine ⟨_, _, pre0 _ ?_, hrun, hended, _, _, rfl, ?_, ⟨_, rfl⟩, hW, hsame.mono (by decide) (by decide)⟩
      · show Steps p.tables e below (s₁.setTop (mkF m 0 #[.val (.int p1)] [])) _
        refine XS.iloadN X0.here hx rfl (hb hby d1_0) rfl ?_
        show Steps p.tables e below (s₁.setTop (mkF m 1 #[.val (.int p1)] [(.int p1)])) _
        refine st1 _ ?_
        show Steps p.tables e below (T1.setTop (mkF m 4 #[.val (.int p1)] [(.ref b), (.int p1)])) _
        refine own_len X1 hx hZ e1 A0 (g := (mkF m 4 #[.val (.int p1)] [(.ref b), (.int p1)])) rfl rfl (hb hby d1_4) _ ?_
        show Steps p.tables e below (T1.setTop (mkF m 5 #[.val (.int p1)] [(.int (128 : Int32)), (.int p1)])) _
        refine XS.icmpNo X1.here hx rfl (hb hby d1_5) rfl (tlt hc5).2.1 ?_
        show Steps p.tables e below (T1.setTop (mkF m 8 #[.val (.int p1)] [])) _
        refine st2 _ ?_
        show Steps p.tables e below (T2.setTop (mkF m 11 #[.val (.int p1)] [(.ref b)])) _
        refine XS.iloadN X2.here hx rfl (hb hby d1_11) rfl ?_
        show Steps p.tables e below (T2.setTop (mkF m 12 #[.val (.int p1)] [(.int p1), (.ref b)])) _
        refine own_ldz X2 hx hZ e2 A0 hj hc5 (g := (mkF m 12 #[.val (.int p1)] [(.int p1), (.ref b)])) rfl rfl (hb hby d1_12) _ ?_
        show Steps p.tables e below (T2.setTop (mkF m 13 #[.val (.int p1)] [(.int (f p1))])) _
        refine XS.ifNo X2.here hx rfl (hb hby d1_13) rfl ((if0 _ _).trans (feq hc13).1) ?_
        show Steps p.tables e below (T2.setTop (mkF m 16 #[.val (.int p1)] [])) _
        refine XS.iconst X2.here hx rfl (hb hby d1_16) ?_
        refine XS.goto X2.here hx rfl (pc0 := 17) (pc' := 21) rfl (hb hby d1_17) (by decide) (by decide) ?_
        show Steps p.tables e below (T2.setTop (mkF m 21 #[.val (.int p1)] [(.int (1 : Int32))])) _
        exact retN X2 hx (t := .boolean) Bd.returns (by simp) (hb hby d1_21) hr
      · show Q1 Z p1 b f h0 n0 _ T2.heap _
        rw [e2]
        exact ⟨congrArg (fun z => some (Value.int z)) (show (1 : Int32) = own_al f p1 by simp [own_al, hc5, hc13]), N0, rfl⟩
  · obtain ⟨fs, hr, hrun, hended, hW, hsame⟩ := X1.leave (v := some (.int (1 : Int32))) (fun h => by rw [Bd.returns] at h; cases h)
    refine ⟨_, _, pre0 _ ?_, hrun, hended, _, _, rfl, ?_, ⟨_, rfl⟩, hW, hsame.mono (by decide) (by decide)⟩
    · show Steps p.tables e below (s₁.setTop (mkF m 0 #[.val (.int p1)] [])) _
      refine XS.iloadN X0.here hx rfl (hb hby d1_0) rfl ?_
      show Steps p.tables e below (s₁.setTop (mkF m 1 #[.val (.int p1)] [(.int p1)])) _
      refine st1 _ ?_
      show Steps p.tables e below (T1.setTop (mkF m 4 #[.val (.int p1)] [(.ref b), (.int p1)])) _
      refine own_len X1 hx hZ e1 A0 (g := (mkF m 4 #[.val (.int p1)] [(.ref b), (.int p1)])) rfl rfl (hb hby d1_4) _ ?_
      show Steps p.tables e below (T1.setTop (mkF m 5 #[.val (.int p1)] [(.int (128 : Int32)), (.int p1)])) _
      refine XS.icmpYes X1.here hx rfl (pc0 := 5) (pc' := 16) rfl (hb hby d1_5) rfl (flt hc5).2.1 (by decide) (by decide) ?_
      show Steps p.tables e below (T1.setTop (mkF m 16 #[.val (.int p1)] [])) _
      refine XS.iconst X1.here hx rfl (hb hby d1_16) ?_
      refine XS.goto X1.here hx rfl (pc0 := 17) (pc' := 21) rfl (hb hby d1_17) (by decide) (by decide) ?_
      show Steps p.tables e below (T1.setTop (mkF m 21 #[.val (.int p1)] [(.int (1 : Int32))])) _
      exact retN X1 hx (t := .boolean) Bd.returns (by simp) (hb hby d1_21) hr
    · show Q1 Z p1 b f h0 n0 _ T1.heap _
      rw [e1]
      exact ⟨congrArg (fun z => some (Value.int z)) (show (1 : Int32) = own_al f p1 by simp [own_al, hc5]), N0, rfl⟩
theorem d2_0 : decode method_2_code 0 = .ok (.iload_n 0, 1) := by decide +kernel
theorem d2_1 : decode method_2_code 1 = .ok (.sipush 128, 3) := by decide +kernel
theorem d2_4 : decode method_2_code 4 = .ok (.if_icmp .lt 5, 3) := by decide +kernel
theorem d2_7 : decode method_2_code 7 = .ok (.iconst 1, 1) := by decide +kernel
theorem d2_8 : decode method_2_code 8 = .ok (.ireturn, 1) := by decide +kernel
theorem d2_9 : decode method_2_code 9 = .ok (.iload_n 0, 1) := by decide +kernel
theorem d2_10 : decode method_2_code 10 = .ok (.bipush 32, 2) := by decide +kernel
theorem d2_12 : decode method_2_code 12 = .ok (.if_icmp .gt 5, 3) := by decide +kernel
theorem d2_15 : decode method_2_code 15 = .ok (.iconst 0, 1) := by decide +kernel
theorem d2_16 : decode method_2_code 16 = .ok (.ireturn, 1) := by decide +kernel
theorem d2_17 : decode method_2_code 17 = .ok (.iload_n 0, 1) := by decide +kernel
theorem d2_18 : decode method_2_code 18 = .ok (.bipush 60, 2) := by decide +kernel
theorem d2_20 : decode method_2_code 20 = .ok (.if_icmp .eq 55, 3) := by decide +kernel
theorem d2_23 : decode method_2_code 23 = .ok (.iload_n 0, 1) := by decide +kernel
theorem d2_24 : decode method_2_code 24 = .ok (.bipush 62, 2) := by decide +kernel
theorem d2_26 : decode method_2_code 26 = .ok (.if_icmp .eq 49, 3) := by decide +kernel
theorem d2_29 : decode method_2_code 29 = .ok (.iload_n 0, 1) := by decide +kernel
theorem d2_30 : decode method_2_code 30 = .ok (.bipush 34, 2) := by decide +kernel
theorem d2_32 : decode method_2_code 32 = .ok (.if_icmp .eq 43, 3) := by decide +kernel
theorem d2_35 : decode method_2_code 35 = .ok (.iload_n 0, 1) := by decide +kernel
theorem d2_36 : decode method_2_code 36 = .ok (.bipush 123, 2) := by decide +kernel
theorem d2_38 : decode method_2_code 38 = .ok (.if_icmp .eq 37, 3) := by decide +kernel
theorem d2_41 : decode method_2_code 41 = .ok (.iload_n 0, 1) := by decide +kernel
theorem d2_42 : decode method_2_code 42 = .ok (.bipush 125, 2) := by decide +kernel
theorem d2_44 : decode method_2_code 44 = .ok (.if_icmp .eq 31, 3) := by decide +kernel
theorem d2_47 : decode method_2_code 47 = .ok (.iload_n 0, 1) := by decide +kernel
theorem d2_48 : decode method_2_code 48 = .ok (.bipush 124, 2) := by decide +kernel
theorem d2_50 : decode method_2_code 50 = .ok (.if_icmp .eq 25, 3) := by decide +kernel
theorem d2_53 : decode method_2_code 53 = .ok (.iload_n 0, 1) := by decide +kernel
theorem d2_54 : decode method_2_code 54 = .ok (.bipush 94, 2) := by decide +kernel
theorem d2_56 : decode method_2_code 56 = .ok (.if_icmp .eq 19, 3) := by decide +kernel
theorem d2_59 : decode method_2_code 59 = .ok (.iload_n 0, 1) := by decide +kernel
theorem d2_60 : decode method_2_code 60 = .ok (.bipush 96, 2) := by decide +kernel
theorem d2_62 : decode method_2_code 62 = .ok (.if_icmp .eq 13, 3) := by decide +kernel
theorem d2_65 : decode method_2_code 65 = .ok (.iload_n 0, 1) := by decide +kernel
theorem d2_66 : decode method_2_code 66 = .ok (.bipush 92, 2) := by decide +kernel
theorem d2_68 : decode method_2_code 68 = .ok (.if_icmp .eq 7, 3) := by decide +kernel
theorem d2_71 : decode method_2_code 71 = .ok (.iconst 1, 1) := by decide +kernel
theorem d2_72 : decode method_2_code 72 = .ok (.goto 4, 3) := by decide +kernel
theorem d2_75 : decode method_2_code 75 = .ok (.iconst 0, 1) := by decide +kernel
theorem d2_76 : decode method_2_code 76 = .ok (.ireturn, 1) := by decide +kernel
theorem pn_2 : plainName "com/example/provenant/provenant/rdf/IriAllowsPinLaw" = true := by first | (simp [plainName, overriddenIn]; done) | decide +kernel
theorem ef_2 (m : MethodId) (x0 : Int32) : entryFrame m #[(.int x0)] 1 = mkF m 0 #[.val (.int x0)] [] := by first | (simp [entryFrame, mkF, argsToLocals, Value.category]; done) | rfl
def Q2 (Z : State) (p1 : Int32) (h0 : Heap) (n0 : Nat) (v : Option Value) (h : Heap) (L : List Loc) : Prop := v = some (.int (own_f2 p1)) ∧ Fr n0 L ∧ h = h0
set_option maxRecDepth 65536 in
set_option maxHeartbeats 40000000 in
theorem rm2 (l : Launch) (Z : State) (a0 : Array Value) (hw : ∀ d ∈ tables_1, d.before a0 Z = true) (ws : List Jvm.Cond) (p1 : Int32) (h0 : Heap) (n0 : Nat) (Z0 : n0 ≤ h0.size) :
    MetFree l (⟨"com/example/provenant/provenant/rdf/IriAllowsPinLaw", "expected", "(I)Z"⟩ : MethodName) (head1 (Jvm.Cond.code (⟨"com/example/provenant/provenant/rdf/IriAllowsPinLaw", "expected", "(I)Z"⟩ : MethodName) method_2_code 1 (some .boolean) :: ws) ({ frames := 0, cells := 0, slots := 0, locals := 0 } : Room)) (fun a U => a = #[(.int p1)] ∧ Z.Warmed39 U.vm ∧ U.heap = h0) (fun _ _ _ _ _ => True) (fun _ U o U' => ∃ v L, o = .returned v ∧ Q2 Z p1 h0 n0 v U'.heap L ∧ FrameEnd U o U' L ({ frames := 0, cells := 0, slots := 0, locals := 0 } : Room).cells ({ frames := 0, cells := 0, slots := 0, locals := 0 } : Room).slots) := by
  refine MetFree.of_bodySF (plainFor_of_name pn_2) hisR ?_
  intro p e s m args below meth c s₁ Bd hml0 hP hK
  obtain ⟨rfl, hZ, hh⟩ := hP
  have hx := Bd.exec
  have hby := Bd.bytes
  have hml : c.maxLocals = 1 := hml0
  have hown : s.vm.findClass "com/example/provenant/provenant/rdf/IriAllowsPinLaw" = some m.cls := findClass_of_methodNamed Bd.named
  have hnm := (name_of_methodNamed Bd.named Bd.method).1
  have X0 : Stand p l e ({ frames := 0, cells := 0, slots := 0, locals := 0 } : Room) s m #[(.int p1)] below meth c s₁ [] 0 0 := Stand.of_body Bd
  have e0 : s₁.heap = h0 := by rw [← hh, Bd.state]; rfl
  have N0 := Fr.nil n0
  have pre0 : ∀ t, Steps p.tables e below (s₁.setTop (mkF m 0 #[.val (.int p1)] [])) t → Steps p.tables e below (s₁.setTop (entryFrame m #[(.int p1)] 1)) t := fun t k => castTop (ef_2 m p1) k
  by_cases hc4 : p1 < (128 : Int32)
  · by_cases hc12 : (32 : Int32) < p1
    · by_cases hc20 : p1 = (60 : Int32)
      · obtain ⟨fs, hr, hrun, hended, hW, hsame⟩ := X0.leave (v := some (.int (0 : Int32))) (fun h => by rw [Bd.returns] at h; cases h)
        refine ⟨_, _, pre0 _ ?_, hrun, hended, _, _, rfl, ?_, ⟨_, rfl⟩, hW, hsame.mono (by decide) (by decide)⟩
        · show Steps p.tables e below (s₁.setTop (mkF m 0 #[.val (.int p1)] [])) _
          refine XS.iloadN X0.here hx rfl (hb hby d2_0) rfl ?_
          show Steps p.tables e below (s₁.setTop (mkF m 1 #[.val (.int p1)] [(.int p1)])) _
          refine XS.sipush X0.here hx rfl (hb hby d2_1) ?_
          show Steps p.tables e below (s₁.setTop (mkF m 4 #[.val (.int p1)] [(.int (128 : Int32)), (.int p1)])) _
          refine XS.icmpYes X0.here hx rfl (pc0 := 4) (pc' := 9) rfl (hb hby d2_4) rfl (tlt hc4).1 (by decide) (by decide) ?_
          show Steps p.tables e below (s₁.setTop (mkF m 9 #[.val (.int p1)] [])) _
          refine XS.iloadN X0.here hx rfl (hb hby d2_9) rfl ?_
          show Steps p.tables e below (s₁.setTop (mkF m 10 #[.val (.int p1)] [(.int p1)])) _
          refine XS.bipush X0.here hx rfl (hb hby d2_10) ?_
          show Steps p.tables e below (s₁.setTop (mkF m 12 #[.val (.int p1)] [(.int (32 : Int32)), (.int p1)])) _
          refine XS.icmpYes X0.here hx rfl (pc0 := 12) (pc' := 17) rfl (hb hby d2_12) rfl (tlt hc12).2.2.1 (by decide) (by decide) ?_
          show Steps p.tables e below (s₁.setTop (mkF m 17 #[.val (.int p1)] [])) _
          refine XS.iloadN X0.here hx rfl (hb hby d2_17) rfl ?_
          show Steps p.tables e below (s₁.setTop (mkF m 18 #[.val (.int p1)] [(.int p1)])) _
          refine XS.bipush X0.here hx rfl (hb hby d2_18) ?_
          show Steps p.tables e below (s₁.setTop (mkF m 20 #[.val (.int p1)] [(.int (60 : Int32)), (.int p1)])) _
          refine XS.icmpYes X0.here hx rfl (pc0 := 20) (pc' := 75) rfl (hb hby d2_20) rfl (teq hc20).1 (by decide) (by decide) ?_
          show Steps p.tables e below (s₁.setTop (mkF m 75 #[.val (.int p1)] [])) _
          refine XS.iconst X0.here hx rfl (hb hby d2_75) ?_
          show Steps p.tables e below (s₁.setTop (mkF m 76 #[.val (.int p1)] [(.int (0 : Int32))])) _
          exact retN X0 hx (t := .boolean) Bd.returns (by simp) (hb hby d2_76) hr
        · show Q2 Z p1 h0 n0 _ s₁.heap _
          rw [e0]
          exact ⟨(by simp [own_f2, hc4, hc12, hc20]), N0, rfl⟩
      · by_cases hc26 : p1 = (62 : Int32)
        · obtain ⟨fs, hr, hrun, hended, hW, hsame⟩ := X0.leave (v := some (.int (0 : Int32))) (fun h => by rw [Bd.returns] at h; cases h)
          refine ⟨_, _, pre0 _ ?_, hrun, hended, _, _, rfl, ?_, ⟨_, rfl⟩, hW, hsame.mono (by decide) (by decide)⟩
          · show Steps p.tables e below (s₁.setTop (mkF m 0 #[.val (.int p1)] [])) _
            refine XS.iloadN X0.here hx rfl (hb hby d2_0) rfl ?_
            show Steps p.tables e below (s₁.setTop (mkF m 1 #[.val (.int p1)] [(.int p1)])) _
            refine XS.sipush X0.here hx rfl (hb hby d2_1) ?_
            show Steps p.tables e below (s₁.setTop (mkF m 4 #[.val (.int p1)] [(.int (128 : Int32)), (.int p1)])) _
            refine XS.icmpYes X0.here hx rfl (pc0 := 4) (pc' := 9) rfl (hb hby d2_4) rfl (tlt hc4).1 (by decide) (by decide) ?_
            show Steps p.tables e below (s₁.setTop (mkF m 9 #[.val (.int p1)] [])) _
            refine XS.iloadN X0.here hx rfl (hb hby d2_9) rfl ?_
            show Steps p.tables e below (s₁.setTop (mkF m 10 #[.val (.int p1)] [(.int p1)])) _
            refine XS.bipush X0.here hx rfl (hb hby d2_10) ?_
            show Steps p.tables e below (s₁.setTop (mkF m 12 #[.val (.int p1)] [(.int (32 : Int32)), (.int p1)])) _
            refine XS.icmpYes X0.here hx rfl (pc0 := 12) (pc' := 17) rfl (hb hby d2_12) rfl (tlt hc12).2.2.1 (by decide) (by decide) ?_
            show Steps p.tables e below (s₁.setTop (mkF m 17 #[.val (.int p1)] [])) _
            refine XS.iloadN X0.here hx rfl (hb hby d2_17) rfl ?_
            show Steps p.tables e below (s₁.setTop (mkF m 18 #[.val (.int p1)] [(.int p1)])) _
            refine XS.bipush X0.here hx rfl (hb hby d2_18) ?_
            show Steps p.tables e below (s₁.setTop (mkF m 20 #[.val (.int p1)] [(.int (60 : Int32)), (.int p1)])) _
            refine XS.icmpNo X0.here hx rfl (hb hby d2_20) rfl (feq hc20).1 ?_
            show Steps p.tables e below (s₁.setTop (mkF m 23 #[.val (.int p1)] [])) _
            refine XS.iloadN X0.here hx rfl (hb hby d2_23) rfl ?_
            show Steps p.tables e below (s₁.setTop (mkF m 24 #[.val (.int p1)] [(.int p1)])) _
            refine XS.bipush X0.here hx rfl (hb hby d2_24) ?_
            show Steps p.tables e below (s₁.setTop (mkF m 26 #[.val (.int p1)] [(.int (62 : Int32)), (.int p1)])) _
            refine XS.icmpYes X0.here hx rfl (pc0 := 26) (pc' := 75) rfl (hb hby d2_26) rfl (teq hc26).1 (by decide) (by decide) ?_
            show Steps p.tables e below (s₁.setTop (mkF m 75 #[.val (.int p1)] [])) _
            refine XS.iconst X0.here hx rfl (hb hby d2_75) ?_
            show Steps p.tables e below (s₁.setTop (mkF m 76 #[.val (.int p1)] [(.int (0 : Int32))])) _
            exact retN X0 hx (t := .boolean) Bd.returns (by simp) (hb hby d2_76) hr
          · show Q2 Z p1 h0 n0 _ s₁.heap _
            rw [e0]
            exact ⟨(by simp [own_f2, hc4, hc12, hc20, hc26]), N0, rfl⟩
        · by_cases hc32 : p1 = (34 : Int32)
          · obtain ⟨fs, hr, hrun, hended, hW, hsame⟩ := X0.leave (v := some (.int (0 : Int32))) (fun h => by rw [Bd.returns] at h; cases h)
            refine ⟨_, _, pre0 _ ?_, hrun, hended, _, _, rfl, ?_, ⟨_, rfl⟩, hW, hsame.mono (by decide) (by decide)⟩
            · show Steps p.tables e below (s₁.setTop (mkF m 0 #[.val (.int p1)] [])) _
              refine XS.iloadN X0.here hx rfl (hb hby d2_0) rfl ?_
              show Steps p.tables e below (s₁.setTop (mkF m 1 #[.val (.int p1)] [(.int p1)])) _
              refine XS.sipush X0.here hx rfl (hb hby d2_1) ?_
              show Steps p.tables e below (s₁.setTop (mkF m 4 #[.val (.int p1)] [(.int (128 : Int32)), (.int p1)])) _
              refine XS.icmpYes X0.here hx rfl (pc0 := 4) (pc' := 9) rfl (hb hby d2_4) rfl (tlt hc4).1 (by decide) (by decide) ?_
              show Steps p.tables e below (s₁.setTop (mkF m 9 #[.val (.int p1)] [])) _
              refine XS.iloadN X0.here hx rfl (hb hby d2_9) rfl ?_
              show Steps p.tables e below (s₁.setTop (mkF m 10 #[.val (.int p1)] [(.int p1)])) _
              refine XS.bipush X0.here hx rfl (hb hby d2_10) ?_
              show Steps p.tables e below (s₁.setTop (mkF m 12 #[.val (.int p1)] [(.int (32 : Int32)), (.int p1)])) _
              refine XS.icmpYes X0.here hx rfl (pc0 := 12) (pc' := 17) rfl (hb hby d2_12) rfl (tlt hc12).2.2.1 (by decide) (by decide) ?_
              show Steps p.tables e below (s₁.setTop (mkF m 17 #[.val (.int p1)] [])) _
              refine XS.iloadN X0.here hx rfl (hb hby d2_17) rfl ?_
              show Steps p.tables e below (s₁.setTop (mkF m 18 #[.val (.int p1)] [(.int p1)])) _
              refine XS.bipush X0.here hx rfl (hb hby d2_18) ?_
              show Steps p.tables e below (s₁.setTop (mkF m 20 #[.val (.int p1)] [(.int (60 : Int32)), (.int p1)])) _
              refine XS.icmpNo X0.here hx rfl (hb hby d2_20) rfl (feq hc20).1 ?_
              show Steps p.tables e below (s₁.setTop (mkF m 23 #[.val (.int p1)] [])) _
              refine XS.iloadN X0.here hx rfl (hb hby d2_23) rfl ?_
              show Steps p.tables e below (s₁.setTop (mkF m 24 #[.val (.int p1)] [(.int p1)])) _
              refine XS.bipush X0.here hx rfl (hb hby d2_24) ?_
              show Steps p.tables e below (s₁.setTop (mkF m 26 #[.val (.int p1)] [(.int (62 : Int32)), (.int p1)])) _
              refine XS.icmpNo X0.here hx rfl (hb hby d2_26) rfl (feq hc26).1 ?_
              show Steps p.tables e below (s₁.setTop (mkF m 29 #[.val (.int p1)] [])) _
              refine XS.iloadN X0.here hx rfl (hb hby d2_29) rfl ?_
              show Steps p.tables e below (s₁.setTop (mkF m 30 #[.val (.int p1)] [(.int p1)])) _
              refine XS.bipush X0.here hx rfl (hb hby d2_30) ?_
              show Steps p.tables e below (s₁.setTop (mkF m 32 #[.val (.int p1)] [(.int (34 : Int32)), (.int p1)])) _
              refine XS.icmpYes X0.here hx rfl (pc0 := 32) (pc' := 75) rfl (hb hby d2_32) rfl (teq hc32).1 (by decide) (by decide) ?_
              show Steps p.tables e below (s₁.setTop (mkF m 75 #[.val (.int p1)] [])) _
              refine XS.iconst X0.here hx rfl (hb hby d2_75) ?_
              show Steps p.tables e below (s₁.setTop (mkF m 76 #[.val (.int p1)] [(.int (0 : Int32))])) _
              exact retN X0 hx (t := .boolean) Bd.returns (by simp) (hb hby d2_76) hr
            · show Q2 Z p1 h0 n0 _ s₁.heap _
              rw [e0]
              exact ⟨(by simp [own_f2, hc4, hc12, hc20, hc26, hc32]), N0, rfl⟩
          · by_cases hc38 : p1 = (123 : Int32)
            · obtain ⟨fs, hr, hrun, hended, hW, hsame⟩ := X0.leave (v := some (.int (0 : Int32))) (fun h => by rw [Bd.returns] at h; cases h)
              refine ⟨_, _, pre0 _ ?_, hrun, hended, _, _, rfl, ?_, ⟨_, rfl⟩, hW, hsame.mono (by decide) (by decide)⟩
              · show Steps p.tables e below (s₁.setTop (mkF m 0 #[.val (.int p1)] [])) _
                refine XS.iloadN X0.here hx rfl (hb hby d2_0) rfl ?_
                show Steps p.tables e below (s₁.setTop (mkF m 1 #[.val (.int p1)] [(.int p1)])) _
                refine XS.sipush X0.here hx rfl (hb hby d2_1) ?_
                show Steps p.tables e below (s₁.setTop (mkF m 4 #[.val (.int p1)] [(.int (128 : Int32)), (.int p1)])) _
                refine XS.icmpYes X0.here hx rfl (pc0 := 4) (pc' := 9) rfl (hb hby d2_4) rfl (tlt hc4).1 (by decide) (by decide) ?_
                show Steps p.tables e below (s₁.setTop (mkF m 9 #[.val (.int p1)] [])) _
                refine XS.iloadN X0.here hx rfl (hb hby d2_9) rfl ?_
                show Steps p.tables e below (s₁.setTop (mkF m 10 #[.val (.int p1)] [(.int p1)])) _
                refine XS.bipush X0.here hx rfl (hb hby d2_10) ?_
                show Steps p.tables e below (s₁.setTop (mkF m 12 #[.val (.int p1)] [(.int (32 : Int32)), (.int p1)])) _
                refine XS.icmpYes X0.here hx rfl (pc0 := 12) (pc' := 17) rfl (hb hby d2_12) rfl (tlt hc12).2.2.1 (by decide) (by decide) ?_
                show Steps p.tables e below (s₁.setTop (mkF m 17 #[.val (.int p1)] [])) _
                refine XS.iloadN X0.here hx rfl (hb hby d2_17) rfl ?_
                show Steps p.tables e below (s₁.setTop (mkF m 18 #[.val (.int p1)] [(.int p1)])) _
                refine XS.bipush X0.here hx rfl (hb hby d2_18) ?_
                show Steps p.tables e below (s₁.setTop (mkF m 20 #[.val (.int p1)] [(.int (60 : Int32)), (.int p1)])) _
                refine XS.icmpNo X0.here hx rfl (hb hby d2_20) rfl (feq hc20).1 ?_
                show Steps p.tables e below (s₁.setTop (mkF m 23 #[.val (.int p1)] [])) _
                refine XS.iloadN X0.here hx rfl (hb hby d2_23) rfl ?_
                show Steps p.tables e below (s₁.setTop (mkF m 24 #[.val (.int p1)] [(.int p1)])) _
                refine XS.bipush X0.here hx rfl (hb hby d2_24) ?_
                show Steps p.tables e below (s₁.setTop (mkF m 26 #[.val (.int p1)] [(.int (62 : Int32)), (.int p1)])) _
                refine XS.icmpNo X0.here hx rfl (hb hby d2_26) rfl (feq hc26).1 ?_
                show Steps p.tables e below (s₁.setTop (mkF m 29 #[.val (.int p1)] [])) _
                refine XS.iloadN X0.here hx rfl (hb hby d2_29) rfl ?_
                show Steps p.tables e below (s₁.setTop (mkF m 30 #[.val (.int p1)] [(.int p1)])) _
                refine XS.bipush X0.here hx rfl (hb hby d2_30) ?_
                show Steps p.tables e below (s₁.setTop (mkF m 32 #[.val (.int p1)] [(.int (34 : Int32)), (.int p1)])) _
                refine XS.icmpNo X0.here hx rfl (hb hby d2_32) rfl (feq hc32).1 ?_
                show Steps p.tables e below (s₁.setTop (mkF m 35 #[.val (.int p1)] [])) _
                refine XS.iloadN X0.here hx rfl (hb hby d2_35) rfl ?_
                show Steps p.tables e below (s₁.setTop (mkF m 36 #[.val (.int p1)] [(.int p1)])) _
                refine XS.bipush X0.here hx rfl (hb hby d2_36) ?_
                show Steps p.tables e below (s₁.setTop (mkF m 38 #[.val (.int p1)] [(.int (123 : Int32)), (.int p1)])) _
                refine XS.icmpYes X0.here hx rfl (pc0 := 38) (pc' := 75) rfl (hb hby d2_38) rfl (teq hc38).1 (by decide) (by decide) ?_
                show Steps p.tables e below (s₁.setTop (mkF m 75 #[.val (.int p1)] [])) _
                refine XS.iconst X0.here hx rfl (hb hby d2_75) ?_
                show Steps p.tables e below (s₁.setTop (mkF m 76 #[.val (.int p1)] [(.int (0 : Int32))])) _
                exact retN X0 hx (t := .boolean) Bd.returns (by simp) (hb hby d2_76) hr
              · show Q2 Z p1 h0 n0 _ s₁.heap _
                rw [e0]
                exact ⟨(by simp [own_f2, hc4, hc12, hc20, hc26, hc32, hc38]), N0, rfl⟩
            · by_cases hc44 : p1 = (125 : Int32)
              · obtain ⟨fs, hr, hrun, hended, hW, hsame⟩ := X0.leave (v := some (.int (0 : Int32))) (fun h => by rw [Bd.returns] at h; cases h)
                refine ⟨_, _, pre0 _ ?_, hrun, hended, _, _, rfl, ?_, ⟨_, rfl⟩, hW, hsame.mono (by decide) (by decide)⟩
                · show Steps p.tables e below (s₁.setTop (mkF m 0 #[.val (.int p1)] [])) _
                  refine XS.iloadN X0.here hx rfl (hb hby d2_0) rfl ?_
                  show Steps p.tables e below (s₁.setTop (mkF m 1 #[.val (.int p1)] [(.int p1)])) _
                  refine XS.sipush X0.here hx rfl (hb hby d2_1) ?_
                  show Steps p.tables e below (s₁.setTop (mkF m 4 #[.val (.int p1)] [(.int (128 : Int32)), (.int p1)])) _
                  refine XS.icmpYes X0.here hx rfl (pc0 := 4) (pc' := 9) rfl (hb hby d2_4) rfl (tlt hc4).1 (by decide) (by decide) ?_
                  show Steps p.tables e below (s₁.setTop (mkF m 9 #[.val (.int p1)] [])) _
                  refine XS.iloadN X0.here hx rfl (hb hby d2_9) rfl ?_
                  show Steps p.tables e below (s₁.setTop (mkF m 10 #[.val (.int p1)] [(.int p1)])) _
                  refine XS.bipush X0.here hx rfl (hb hby d2_10) ?_
                  show Steps p.tables e below (s₁.setTop (mkF m 12 #[.val (.int p1)] [(.int (32 : Int32)), (.int p1)])) _
                  refine XS.icmpYes X0.here hx rfl (pc0 := 12) (pc' := 17) rfl (hb hby d2_12) rfl (tlt hc12).2.2.1 (by decide) (by decide) ?_
                  show Steps p.tables e below (s₁.setTop (mkF m 17 #[.val (.int p1)] [])) _
                  refine XS.iloadN X0.here hx rfl (hb hby d2_17) rfl ?_
                  show Steps p.tables e below (s₁.setTop (mkF m 18 #[.val (.int p1)] [(.int p1)])) _
                  refine XS.bipush X0.here hx rfl (hb hby d2_18) ?_
                  show Steps p.tables e below (s₁.setTop (mkF m 20 #[.val (.int p1)] [(.int (60 : Int32)), (.int p1)])) _
                  refine XS.icmpNo X0.here hx rfl (hb hby d2_20) rfl (feq hc20).1 ?_
                  show Steps p.tables e below (s₁.setTop (mkF m 23 #[.val (.int p1)] [])) _
                  refine XS.iloadN X0.here hx rfl (hb hby d2_23) rfl ?_
                  show Steps p.tables e below (s₁.setTop (mkF m 24 #[.val (.int p1)] [(.int p1)])) _
                  refine XS.bipush X0.here hx rfl (hb hby d2_24) ?_
                  show Steps p.tables e below (s₁.setTop (mkF m 26 #[.val (.int p1)] [(.int (62 : Int32)), (.int p1)])) _
                  refine XS.icmpNo X0.here hx rfl (hb hby d2_26) rfl (feq hc26).1 ?_
                  show Steps p.tables e below (s₁.setTop (mkF m 29 #[.val (.int p1)] [])) _
                  refine XS.iloadN X0.here hx rfl (hb hby d2_29) rfl ?_
                  show Steps p.tables e below (s₁.setTop (mkF m 30 #[.val (.int p1)] [(.int p1)])) _
                  refine XS.bipush X0.here hx rfl (hb hby d2_30) ?_
                  show Steps p.tables e below (s₁.setTop (mkF m 32 #[.val (.int p1)] [(.int (34 : Int32)), (.int p1)])) _
                  refine XS.icmpNo X0.here hx rfl (hb hby d2_32) rfl (feq hc32).1 ?_
                  show Steps p.tables e below (s₁.setTop (mkF m 35 #[.val (.int p1)] [])) _
                  refine XS.iloadN X0.here hx rfl (hb hby d2_35) rfl ?_
                  show Steps p.tables e below (s₁.setTop (mkF m 36 #[.val (.int p1)] [(.int p1)])) _
                  refine XS.bipush X0.here hx rfl (hb hby d2_36) ?_
                  show Steps p.tables e below (s₁.setTop (mkF m 38 #[.val (.int p1)] [(.int (123 : Int32)), (.int p1)])) _
                  refine XS.icmpNo X0.here hx rfl (hb hby d2_38) rfl (feq hc38).1 ?_
                  show Steps p.tables e below (s₁.setTop (mkF m 41 #[.val (.int p1)] [])) _
                  refine XS.iloadN X0.here hx rfl (hb hby d2_41) rfl ?_
                  show Steps p.tables e below (s₁.setTop (mkF m 42 #[.val (.int p1)] [(.int p1)])) _
                  refine XS.bipush X0.here hx rfl (hb hby d2_42) ?_
                  show Steps p.tables e below (s₁.setTop (mkF m 44 #[.val (.int p1)] [(.int (125 : Int32)), (.int p1)])) _
                  refine XS.icmpYes X0.here hx rfl (pc0 := 44) (pc' := 75) rfl (hb hby d2_44) rfl (teq hc44).1 (by decide) (by decide) ?_
                  show Steps p.tables e below (s₁.setTop (mkF m 75 #[.val (.int p1)] [])) _
                  refine XS.iconst X0.here hx rfl (hb hby d2_75) ?_
                  show Steps p.tables e below (s₁.setTop (mkF m 76 #[.val (.int p1)] [(.int (0 : Int32))])) _
                  exact retN X0 hx (t := .boolean) Bd.returns (by simp) (hb hby d2_76) hr
                · show Q2 Z p1 h0 n0 _ s₁.heap _
                  rw [e0]
                  exact ⟨(by simp [own_f2, hc4, hc12, hc20, hc26, hc32, hc38, hc44]), N0, rfl⟩
              · by_cases hc50 : p1 = (124 : Int32)
                · obtain ⟨fs, hr, hrun, hended, hW, hsame⟩ := X0.leave (v := some (.int (0 : Int32))) (fun h => by rw [Bd.returns] at h; cases h)
                  refine ⟨_, _, pre0 _ ?_, hrun, hended, _, _, rfl, ?_, ⟨_, rfl⟩, hW, hsame.mono (by decide) (by decide)⟩
                  · show Steps p.tables e below (s₁.setTop (mkF m 0 #[.val (.int p1)] [])) _
                    refine XS.iloadN X0.here hx rfl (hb hby d2_0) rfl ?_
                    show Steps p.tables e below (s₁.setTop (mkF m 1 #[.val (.int p1)] [(.int p1)])) _
                    refine XS.sipush X0.here hx rfl (hb hby d2_1) ?_
                    show Steps p.tables e below (s₁.setTop (mkF m 4 #[.val (.int p1)] [(.int (128 : Int32)), (.int p1)])) _
                    refine XS.icmpYes X0.here hx rfl (pc0 := 4) (pc' := 9) rfl (hb hby d2_4) rfl (tlt hc4).1 (by decide) (by decide) ?_
                    show Steps p.tables e below (s₁.setTop (mkF m 9 #[.val (.int p1)] [])) _
                    refine XS.iloadN X0.here hx rfl (hb hby d2_9) rfl ?_
                    show Steps p.tables e below (s₁.setTop (mkF m 10 #[.val (.int p1)] [(.int p1)])) _
                    refine XS.bipush X0.here hx rfl (hb hby d2_10) ?_
                    show Steps p.tables e below (s₁.setTop (mkF m 12 #[.val (.int p1)] [(.int (32 : Int32)), (.int p1)])) _
                    refine XS.icmpYes X0.here hx rfl (pc0 := 12) (pc' := 17) rfl (hb hby d2_12) rfl (tlt hc12).2.2.1 (by decide) (by decide) ?_
                    show Steps p.tables e below (s₁.setTop (mkF m 17 #[.val (.int p1)] [])) _
                    refine XS.iloadN X0.here hx rfl (hb hby d2_17) rfl ?_
                    show Steps p.tables e below (s₁.setTop (mkF m 18 #[.val (.int p1)] [(.int p1)])) _
                    refine XS.bipush X0.here hx rfl (hb hby d2_18) ?_
                    show Steps p.tables e below (s₁.setTop (mkF m 20 #[.val (.int p1)] [(.int (60 : Int32)), (.int p1)])) _
                    refine XS.icmpNo X0.here hx rfl (hb hby d2_20) rfl (feq hc20).1 ?_
                    show Steps p.tables e below (s₁.setTop (mkF m 23 #[.val (.int p1)] [])) _
                    refine XS.iloadN X0.here hx rfl (hb hby d2_23) rfl ?_
                    show Steps p.tables e below (s₁.setTop (mkF m 24 #[.val (.int p1)] [(.int p1)])) _
                    refine XS.bipush X0.here hx rfl (hb hby d2_24) ?_
                    show Steps p.tables e below (s₁.setTop (mkF m 26 #[.val (.int p1)] [(.int (62 : Int32)), (.int p1)])) _
                    refine XS.icmpNo X0.here hx rfl (hb hby d2_26) rfl (feq hc26).1 ?_
                    show Steps p.tables e below (s₁.setTop (mkF m 29 #[.val (.int p1)] [])) _
                    refine XS.iloadN X0.here hx rfl (hb hby d2_29) rfl ?_
                    show Steps p.tables e below (s₁.setTop (mkF m 30 #[.val (.int p1)] [(.int p1)])) _
                    refine XS.bipush X0.here hx rfl (hb hby d2_30) ?_
                    show Steps p.tables e below (s₁.setTop (mkF m 32 #[.val (.int p1)] [(.int (34 : Int32)), (.int p1)])) _
                    refine XS.icmpNo X0.here hx rfl (hb hby d2_32) rfl (feq hc32).1 ?_
                    show Steps p.tables e below (s₁.setTop (mkF m 35 #[.val (.int p1)] [])) _
                    refine XS.iloadN X0.here hx rfl (hb hby d2_35) rfl ?_
                    show Steps p.tables e below (s₁.setTop (mkF m 36 #[.val (.int p1)] [(.int p1)])) _
                    refine XS.bipush X0.here hx rfl (hb hby d2_36) ?_
                    show Steps p.tables e below (s₁.setTop (mkF m 38 #[.val (.int p1)] [(.int (123 : Int32)), (.int p1)])) _
                    refine XS.icmpNo X0.here hx rfl (hb hby d2_38) rfl (feq hc38).1 ?_
                    show Steps p.tables e below (s₁.setTop (mkF m 41 #[.val (.int p1)] [])) _
                    refine XS.iloadN X0.here hx rfl (hb hby d2_41) rfl ?_
                    show Steps p.tables e below (s₁.setTop (mkF m 42 #[.val (.int p1)] [(.int p1)])) _
                    refine XS.bipush X0.here hx rfl (hb hby d2_42) ?_
                    show Steps p.tables e below (s₁.setTop (mkF m 44 #[.val (.int p1)] [(.int (125 : Int32)), (.int p1)])) _
                    refine XS.icmpNo X0.here hx rfl (hb hby d2_44) rfl (feq hc44).1 ?_
                    show Steps p.tables e below (s₁.setTop (mkF m 47 #[.val (.int p1)] [])) _
                    refine XS.iloadN X0.here hx rfl (hb hby d2_47) rfl ?_
                    show Steps p.tables e below (s₁.setTop (mkF m 48 #[.val (.int p1)] [(.int p1)])) _
                    refine XS.bipush X0.here hx rfl (hb hby d2_48) ?_
                    show Steps p.tables e below (s₁.setTop (mkF m 50 #[.val (.int p1)] [(.int (124 : Int32)), (.int p1)])) _
                    refine XS.icmpYes X0.here hx rfl (pc0 := 50) (pc' := 75) rfl (hb hby d2_50) rfl (teq hc50).1 (by decide) (by decide) ?_
                    show Steps p.tables e below (s₁.setTop (mkF m 75 #[.val (.int p1)] [])) _
                    refine XS.iconst X0.here hx rfl (hb hby d2_75) ?_
                    show Steps p.tables e below (s₁.setTop (mkF m 76 #[.val (.int p1)] [(.int (0 : Int32))])) _
                    exact retN X0 hx (t := .boolean) Bd.returns (by simp) (hb hby d2_76) hr
                  · show Q2 Z p1 h0 n0 _ s₁.heap _
                    rw [e0]
                    exact ⟨(by simp [own_f2, hc4, hc12, hc20, hc26, hc32, hc38, hc44, hc50]), N0, rfl⟩
                · by_cases hc56 : p1 = (94 : Int32)
                  · obtain ⟨fs, hr, hrun, hended, hW, hsame⟩ := X0.leave (v := some (.int (0 : Int32))) (fun h => by rw [Bd.returns] at h; cases h)
                    refine ⟨_, _, pre0 _ ?_, hrun, hended, _, _, rfl, ?_, ⟨_, rfl⟩, hW, hsame.mono (by decide) (by decide)⟩
                    · show Steps p.tables e below (s₁.setTop (mkF m 0 #[.val (.int p1)] [])) _
                      refine XS.iloadN X0.here hx rfl (hb hby d2_0) rfl ?_
                      show Steps p.tables e below (s₁.setTop (mkF m 1 #[.val (.int p1)] [(.int p1)])) _
                      refine XS.sipush X0.here hx rfl (hb hby d2_1) ?_
                      show Steps p.tables e below (s₁.setTop (mkF m 4 #[.val (.int p1)] [(.int (128 : Int32)), (.int p1)])) _
                      refine XS.icmpYes X0.here hx rfl (pc0 := 4) (pc' := 9) rfl (hb hby d2_4) rfl (tlt hc4).1 (by decide) (by decide) ?_
                      show Steps p.tables e below (s₁.setTop (mkF m 9 #[.val (.int p1)] [])) _
                      refine XS.iloadN X0.here hx rfl (hb hby d2_9) rfl ?_
                      show Steps p.tables e below (s₁.setTop (mkF m 10 #[.val (.int p1)] [(.int p1)])) _
                      refine XS.bipush X0.here hx rfl (hb hby d2_10) ?_
                      show Steps p.tables e below (s₁.setTop (mkF m 12 #[.val (.int p1)] [(.int (32 : Int32)), (.int p1)])) _
                      refine XS.icmpYes X0.here hx rfl (pc0 := 12) (pc' := 17) rfl (hb hby d2_12) rfl (tlt hc12).2.2.1 (by decide) (by decide) ?_
                      show Steps p.tables e below (s₁.setTop (mkF m 17 #[.val (.int p1)] [])) _
                      refine XS.iloadN X0.here hx rfl (hb hby d2_17) rfl ?_
                      show Steps p.tables e below (s₁.setTop (mkF m 18 #[.val (.int p1)] [(.int p1)])) _
                      refine XS.bipush X0.here hx rfl (hb hby d2_18) ?_
                      show Steps p.tables e below (s₁.setTop (mkF m 20 #[.val (.int p1)] [(.int (60 : Int32)), (.int p1)])) _
                      refine XS.icmpNo X0.here hx rfl (hb hby d2_20) rfl (feq hc20).1 ?_
                      show Steps p.tables e below (s₁.setTop (mkF m 23 #[.val (.int p1)] [])) _
                      refine XS.iloadN X0.here hx rfl (hb hby d2_23) rfl ?_
                      show Steps p.tables e below (s₁.setTop (mkF m 24 #[.val (.int p1)] [(.int p1)])) _
                      refine XS.bipush X0.here hx rfl (hb hby d2_24) ?_
                      show Steps p.tables e below (s₁.setTop (mkF m 26 #[.val (.int p1)] [(.int (62 : Int32)), (.int p1)])) _
                      refine XS.icmpNo X0.here hx rfl (hb hby d2_26) rfl (feq hc26).1 ?_
                      show Steps p.tables e below (s₁.setTop (mkF m 29 #[.val (.int p1)] [])) _
                      refine XS.iloadN X0.here hx rfl (hb hby d2_29) rfl ?_
                      show Steps p.tables e below (s₁.setTop (mkF m 30 #[.val (.int p1)] [(.int p1)])) _
                      refine XS.bipush X0.here hx rfl (hb hby d2_30) ?_
                      show Steps p.tables e below (s₁.setTop (mkF m 32 #[.val (.int p1)] [(.int (34 : Int32)), (.int p1)])) _
                      refine XS.icmpNo X0.here hx rfl (hb hby d2_32) rfl (feq hc32).1 ?_
                      show Steps p.tables e below (s₁.setTop (mkF m 35 #[.val (.int p1)] [])) _
                      refine XS.iloadN X0.here hx rfl (hb hby d2_35) rfl ?_
                      show Steps p.tables e below (s₁.setTop (mkF m 36 #[.val (.int p1)] [(.int p1)])) _
                      refine XS.bipush X0.here hx rfl (hb hby d2_36) ?_
                      show Steps p.tables e below (s₁.setTop (mkF m 38 #[.val (.int p1)] [(.int (123 : Int32)), (.int p1)])) _
                      refine XS.icmpNo X0.here hx rfl (hb hby d2_38) rfl (feq hc38).1 ?_
                      show Steps p.tables e below (s₁.setTop (mkF m 41 #[.val (.int p1)] [])) _
                      refine XS.iloadN X0.here hx rfl (hb hby d2_41) rfl ?_
                      show Steps p.tables e below (s₁.setTop (mkF m 42 #[.val (.int p1)] [(.int p1)])) _
                      refine XS.bipush X0.here hx rfl (hb hby d2_42) ?_
                      show Steps p.tables e below (s₁.setTop (mkF m 44 #[.val (.int p1)] [(.int (125 : Int32)), (.int p1)])) _
                      refine XS.icmpNo X0.here hx rfl (hb hby d2_44) rfl (feq hc44).1 ?_
                      show Steps p.tables e below (s₁.setTop (mkF m 47 #[.val (.int p1)] [])) _
                      refine XS.iloadN X0.here hx rfl (hb hby d2_47) rfl ?_
                      show Steps p.tables e below (s₁.setTop (mkF m 48 #[.val (.int p1)] [(.int p1)])) _
                      refine XS.bipush X0.here hx rfl (hb hby d2_48) ?_
                      show Steps p.tables e below (s₁.setTop (mkF m 50 #[.val (.int p1)] [(.int (124 : Int32)), (.int p1)])) _
                      refine XS.icmpNo X0.here hx rfl (hb hby d2_50) rfl (feq hc50).1 ?_
                      show Steps p.tables e below (s₁.setTop (mkF m 53 #[.val (.int p1)] [])) _
                      refine XS.iloadN X0.here hx rfl (hb hby d2_53) rfl ?_
                      show Steps p.tables e below (s₁.setTop (mkF m 54 #[.val (.int p1)] [(.int p1)])) _
                      refine XS.bipush X0.here hx rfl (hb hby d2_54) ?_
                      show Steps p.tables e below (s₁.setTop (mkF m 56 #[.val (.int p1)] [(.int (94 : Int32)), (.int p1)])) _
                      refine XS.icmpYes X0.here hx rfl (pc0 := 56) (pc' := 75) rfl (hb hby d2_56) rfl (teq hc56).1 (by decide) (by decide) ?_
                      show Steps p.tables e below (s₁.setTop (mkF m 75 #[.val (.int p1)] [])) _
                      refine XS.iconst X0.here hx rfl (hb hby d2_75) ?_
                      show Steps p.tables e below (s₁.setTop (mkF m 76 #[.val (.int p1)] [(.int (0 : Int32))])) _
                      exact retN X0 hx (t := .boolean) Bd.returns (by simp) (hb hby d2_76) hr
                    · show Q2 Z p1 h0 n0 _ s₁.heap _
                      rw [e0]
                      exact ⟨(by simp [own_f2, hc4, hc12, hc20, hc26, hc32, hc38, hc44, hc50, hc56]), N0, rfl⟩
                  · by_cases hc62 : p1 = (96 : Int32)
                    · obtain ⟨fs, hr, hrun, hended, hW, hsame⟩ := X0.leave (v := some (.int (0 : Int32))) (fun h => by rw [Bd.returns] at h; cases h)
                      refine ⟨_, _, pre0 _ ?_, hrun, hended, _, _, rfl, ?_, ⟨_, rfl⟩, hW, hsame.mono (by decide) (by decide)⟩
                      · show Steps p.tables e below (s₁.setTop (mkF m 0 #[.val (.int p1)] [])) _
                        refine XS.iloadN X0.here hx rfl (hb hby d2_0) rfl ?_
                        show Steps p.tables e below (s₁.setTop (mkF m 1 #[.val (.int p1)] [(.int p1)])) _
                        refine XS.sipush X0.here hx rfl (hb hby d2_1) ?_
                        show Steps p.tables e below (s₁.setTop (mkF m 4 #[.val (.int p1)] [(.int (128 : Int32)), (.int p1)])) _
                        refine XS.icmpYes X0.here hx rfl (pc0 := 4) (pc' := 9) rfl (hb hby d2_4) rfl (tlt hc4).1 (by decide) (by decide) ?_
                        show Steps p.tables e below (s₁.setTop (mkF m 9 #[.val (.int p1)] [])) _
                        refine XS.iloadN X0.here hx rfl (hb hby d2_9) rfl ?_
                        show Steps p.tables e below (s₁.setTop (mkF m 10 #[.val (.int p1)] [(.int p1)])) _
                        refine XS.bipush X0.here hx rfl (hb hby d2_10) ?_
                        show Steps p.tables e below (s₁.setTop (mkF m 12 #[.val (.int p1)] [(.int (32 : Int32)), (.int p1)])) _
                        refine XS.icmpYes X0.here hx rfl (pc0 := 12) (pc' := 17) rfl (hb hby d2_12) rfl (tlt hc12).2.2.1 (by decide) (by decide) ?_
                        show Steps p.tables e below (s₁.setTop (mkF m 17 #[.val (.int p1)] [])) _
                        refine XS.iloadN X0.here hx rfl (hb hby d2_17) rfl ?_
                        show Steps p.tables e below (s₁.setTop (mkF m 18 #[.val (.int p1)] [(.int p1)])) _
                        refine XS.bipush X0.here hx rfl (hb hby d2_18) ?_
                        show Steps p.tables e below (s₁.setTop (mkF m 20 #[.val (.int p1)] [(.int (60 : Int32)), (.int p1)])) _
                        refine XS.icmpNo X0.here hx rfl (hb hby d2_20) rfl (feq hc20).1 ?_
                        show Steps p.tables e below (s₁.setTop (mkF m 23 #[.val (.int p1)] [])) _
                        refine XS.iloadN X0.here hx rfl (hb hby d2_23) rfl ?_
                        show Steps p.tables e below (s₁.setTop (mkF m 24 #[.val (.int p1)] [(.int p1)])) _
                        refine XS.bipush X0.here hx rfl (hb hby d2_24) ?_
                        show Steps p.tables e below (s₁.setTop (mkF m 26 #[.val (.int p1)] [(.int (62 : Int32)), (.int p1)])) _
                        refine XS.icmpNo X0.here hx rfl (hb hby d2_26) rfl (feq hc26).1 ?_
                        show Steps p.tables e below (s₁.setTop (mkF m 29 #[.val (.int p1)] [])) _
                        refine XS.iloadN X0.here hx rfl (hb hby d2_29) rfl ?_
                        show Steps p.tables e below (s₁.setTop (mkF m 30 #[.val (.int p1)] [(.int p1)])) _
                        refine XS.bipush X0.here hx rfl (hb hby d2_30) ?_
                        show Steps p.tables e below (s₁.setTop (mkF m 32 #[.val (.int p1)] [(.int (34 : Int32)), (.int p1)])) _
                        refine XS.icmpNo X0.here hx rfl (hb hby d2_32) rfl (feq hc32).1 ?_
                        show Steps p.tables e below (s₁.setTop (mkF m 35 #[.val (.int p1)] [])) _
                        refine XS.iloadN X0.here hx rfl (hb hby d2_35) rfl ?_
                        show Steps p.tables e below (s₁.setTop (mkF m 36 #[.val (.int p1)] [(.int p1)])) _
                        refine XS.bipush X0.here hx rfl (hb hby d2_36) ?_
                        show Steps p.tables e below (s₁.setTop (mkF m 38 #[.val (.int p1)] [(.int (123 : Int32)), (.int p1)])) _
                        refine XS.icmpNo X0.here hx rfl (hb hby d2_38) rfl (feq hc38).1 ?_
                        show Steps p.tables e below (s₁.setTop (mkF m 41 #[.val (.int p1)] [])) _
                        refine XS.iloadN X0.here hx rfl (hb hby d2_41) rfl ?_
                        show Steps p.tables e below (s₁.setTop (mkF m 42 #[.val (.int p1)] [(.int p1)])) _
                        refine XS.bipush X0.here hx rfl (hb hby d2_42) ?_
                        show Steps p.tables e below (s₁.setTop (mkF m 44 #[.val (.int p1)] [(.int (125 : Int32)), (.int p1)])) _
                        refine XS.icmpNo X0.here hx rfl (hb hby d2_44) rfl (feq hc44).1 ?_
                        show Steps p.tables e below (s₁.setTop (mkF m 47 #[.val (.int p1)] [])) _
                        refine XS.iloadN X0.here hx rfl (hb hby d2_47) rfl ?_
                        show Steps p.tables e below (s₁.setTop (mkF m 48 #[.val (.int p1)] [(.int p1)])) _
                        refine XS.bipush X0.here hx rfl (hb hby d2_48) ?_
                        show Steps p.tables e below (s₁.setTop (mkF m 50 #[.val (.int p1)] [(.int (124 : Int32)), (.int p1)])) _
                        refine XS.icmpNo X0.here hx rfl (hb hby d2_50) rfl (feq hc50).1 ?_
                        show Steps p.tables e below (s₁.setTop (mkF m 53 #[.val (.int p1)] [])) _
                        refine XS.iloadN X0.here hx rfl (hb hby d2_53) rfl ?_
                        show Steps p.tables e below (s₁.setTop (mkF m 54 #[.val (.int p1)] [(.int p1)])) _
                        refine XS.bipush X0.here hx rfl (hb hby d2_54) ?_
                        show Steps p.tables e below (s₁.setTop (mkF m 56 #[.val (.int p1)] [(.int (94 : Int32)), (.int p1)])) _
                        refine XS.icmpNo X0.here hx rfl (hb hby d2_56) rfl (feq hc56).1 ?_
                        show Steps p.tables e below (s₁.setTop (mkF m 59 #[.val (.int p1)] [])) _
                        refine XS.iloadN X0.here hx rfl (hb hby d2_59) rfl ?_
                        show Steps p.tables e below (s₁.setTop (mkF m 60 #[.val (.int p1)] [(.int p1)])) _
                        refine XS.bipush X0.here hx rfl (hb hby d2_60) ?_
                        show Steps p.tables e below (s₁.setTop (mkF m 62 #[.val (.int p1)] [(.int (96 : Int32)), (.int p1)])) _
                        refine XS.icmpYes X0.here hx rfl (pc0 := 62) (pc' := 75) rfl (hb hby d2_62) rfl (teq hc62).1 (by decide) (by decide) ?_
                        show Steps p.tables e below (s₁.setTop (mkF m 75 #[.val (.int p1)] [])) _
                        refine XS.iconst X0.here hx rfl (hb hby d2_75) ?_
                        show Steps p.tables e below (s₁.setTop (mkF m 76 #[.val (.int p1)] [(.int (0 : Int32))])) _
                        exact retN X0 hx (t := .boolean) Bd.returns (by simp) (hb hby d2_76) hr
                      · show Q2 Z p1 h0 n0 _ s₁.heap _
                        rw [e0]
                        exact ⟨(by simp [own_f2, hc4, hc12, hc20, hc26, hc32, hc38, hc44, hc50, hc56, hc62]), N0, rfl⟩
                    · by_cases hc68 : p1 = (92 : Int32)
                      · obtain ⟨fs, hr, hrun, hended, hW, hsame⟩ := X0.leave (v := some (.int (0 : Int32))) (fun h => by rw [Bd.returns] at h; cases h)
                        refine ⟨_, _, pre0 _ ?_, hrun, hended, _, _, rfl, ?_, ⟨_, rfl⟩, hW, hsame.mono (by decide) (by decide)⟩
                        · show Steps p.tables e below (s₁.setTop (mkF m 0 #[.val (.int p1)] [])) _
                          refine XS.iloadN X0.here hx rfl (hb hby d2_0) rfl ?_
                          show Steps p.tables e below (s₁.setTop (mkF m 1 #[.val (.int p1)] [(.int p1)])) _
                          refine XS.sipush X0.here hx rfl (hb hby d2_1) ?_
                          show Steps p.tables e below (s₁.setTop (mkF m 4 #[.val (.int p1)] [(.int (128 : Int32)), (.int p1)])) _
                          refine XS.icmpYes X0.here hx rfl (pc0 := 4) (pc' := 9) rfl (hb hby d2_4) rfl (tlt hc4).1 (by decide) (by decide) ?_
                          show Steps p.tables e below (s₁.setTop (mkF m 9 #[.val (.int p1)] [])) _
                          refine XS.iloadN X0.here hx rfl (hb hby d2_9) rfl ?_
                          show Steps p.tables e below (s₁.setTop (mkF m 10 #[.val (.int p1)] [(.int p1)])) _
                          refine XS.bipush X0.here hx rfl (hb hby d2_10) ?_
                          show Steps p.tables e below (s₁.setTop (mkF m 12 #[.val (.int p1)] [(.int (32 : Int32)), (.int p1)])) _
                          refine XS.icmpYes X0.here hx rfl (pc0 := 12) (pc' := 17) rfl (hb hby d2_12) rfl (tlt hc12).2.2.1 (by decide) (by decide) ?_
                          show Steps p.tables e below (s₁.setTop (mkF m 17 #[.val (.int p1)] [])) _
                          refine XS.iloadN X0.here hx rfl (hb hby d2_17) rfl ?_
                          show Steps p.tables e below (s₁.setTop (mkF m 18 #[.val (.int p1)] [(.int p1)])) _
                          refine XS.bipush X0.here hx rfl (hb hby d2_18) ?_
                          show Steps p.tables e below (s₁.setTop (mkF m 20 #[.val (.int p1)] [(.int (60 : Int32)), (.int p1)])) _
                          refine XS.icmpNo X0.here hx rfl (hb hby d2_20) rfl (feq hc20).1 ?_
                          show Steps p.tables e below (s₁.setTop (mkF m 23 #[.val (.int p1)] [])) _
                          refine XS.iloadN X0.here hx rfl (hb hby d2_23) rfl ?_
                          show Steps p.tables e below (s₁.setTop (mkF m 24 #[.val (.int p1)] [(.int p1)])) _
                          refine XS.bipush X0.here hx rfl (hb hby d2_24) ?_
                          show Steps p.tables e below (s₁.setTop (mkF m 26 #[.val (.int p1)] [(.int (62 : Int32)), (.int p1)])) _
                          refine XS.icmpNo X0.here hx rfl (hb hby d2_26) rfl (feq hc26).1 ?_
                          show Steps p.tables e below (s₁.setTop (mkF m 29 #[.val (.int p1)] [])) _
                          refine XS.iloadN X0.here hx rfl (hb hby d2_29) rfl ?_
                          show Steps p.tables e below (s₁.setTop (mkF m 30 #[.val (.int p1)] [(.int p1)])) _
                          refine XS.bipush X0.here hx rfl (hb hby d2_30) ?_
                          show Steps p.tables e below (s₁.setTop (mkF m 32 #[.val (.int p1)] [(.int (34 : Int32)), (.int p1)])) _
                          refine XS.icmpNo X0.here hx rfl (hb hby d2_32) rfl (feq hc32).1 ?_
                          show Steps p.tables e below (s₁.setTop (mkF m 35 #[.val (.int p1)] [])) _
                          refine XS.iloadN X0.here hx rfl (hb hby d2_35) rfl ?_
                          show Steps p.tables e below (s₁.setTop (mkF m 36 #[.val (.int p1)] [(.int p1)])) _
                          refine XS.bipush X0.here hx rfl (hb hby d2_36) ?_
                          show Steps p.tables e below (s₁.setTop (mkF m 38 #[.val (.int p1)] [(.int (123 : Int32)), (.int p1)])) _
                          refine XS.icmpNo X0.here hx rfl (hb hby d2_38) rfl (feq hc38).1 ?_
                          show Steps p.tables e below (s₁.setTop (mkF m 41 #[.val (.int p1)] [])) _
                          refine XS.iloadN X0.here hx rfl (hb hby d2_41) rfl ?_
                          show Steps p.tables e below (s₁.setTop (mkF m 42 #[.val (.int p1)] [(.int p1)])) _
                          refine XS.bipush X0.here hx rfl (hb hby d2_42) ?_
                          show Steps p.tables e below (s₁.setTop (mkF m 44 #[.val (.int p1)] [(.int (125 : Int32)), (.int p1)])) _
                          refine XS.icmpNo X0.here hx rfl (hb hby d2_44) rfl (feq hc44).1 ?_
                          show Steps p.tables e below (s₁.setTop (mkF m 47 #[.val (.int p1)] [])) _
                          refine XS.iloadN X0.here hx rfl (hb hby d2_47) rfl ?_
                          show Steps p.tables e below (s₁.setTop (mkF m 48 #[.val (.int p1)] [(.int p1)])) _
                          refine XS.bipush X0.here hx rfl (hb hby d2_48) ?_
                          show Steps p.tables e below (s₁.setTop (mkF m 50 #[.val (.int p1)] [(.int (124 : Int32)), (.int p1)])) _
                          refine XS.icmpNo X0.here hx rfl (hb hby d2_50) rfl (feq hc50).1 ?_
                          show Steps p.tables e below (s₁.setTop (mkF m 53 #[.val (.int p1)] [])) _
                          refine XS.iloadN X0.here hx rfl (hb hby d2_53) rfl ?_
                          show Steps p.tables e below (s₁.setTop (mkF m 54 #[.val (.int p1)] [(.int p1)])) _
                          refine XS.bipush X0.here hx rfl (hb hby d2_54) ?_
                          show Steps p.tables e below (s₁.setTop (mkF m 56 #[.val (.int p1)] [(.int (94 : Int32)), (.int p1)])) _
                          refine XS.icmpNo X0.here hx rfl (hb hby d2_56) rfl (feq hc56).1 ?_
                          show Steps p.tables e below (s₁.setTop (mkF m 59 #[.val (.int p1)] [])) _
                          refine XS.iloadN X0.here hx rfl (hb hby d2_59) rfl ?_
                          show Steps p.tables e below (s₁.setTop (mkF m 60 #[.val (.int p1)] [(.int p1)])) _
                          refine XS.bipush X0.here hx rfl (hb hby d2_60) ?_
                          show Steps p.tables e below (s₁.setTop (mkF m 62 #[.val (.int p1)] [(.int (96 : Int32)), (.int p1)])) _
                          refine XS.icmpNo X0.here hx rfl (hb hby d2_62) rfl (feq hc62).1 ?_
                          show Steps p.tables e below (s₁.setTop (mkF m 65 #[.val (.int p1)] [])) _
                          refine XS.iloadN X0.here hx rfl (hb hby d2_65) rfl ?_
                          show Steps p.tables e below (s₁.setTop (mkF m 66 #[.val (.int p1)] [(.int p1)])) _
                          refine XS.bipush X0.here hx rfl (hb hby d2_66) ?_
                          show Steps p.tables e below (s₁.setTop (mkF m 68 #[.val (.int p1)] [(.int (92 : Int32)), (.int p1)])) _
                          refine XS.icmpYes X0.here hx rfl (pc0 := 68) (pc' := 75) rfl (hb hby d2_68) rfl (teq hc68).1 (by decide) (by decide) ?_
                          show Steps p.tables e below (s₁.setTop (mkF m 75 #[.val (.int p1)] [])) _
                          refine XS.iconst X0.here hx rfl (hb hby d2_75) ?_
                          show Steps p.tables e below (s₁.setTop (mkF m 76 #[.val (.int p1)] [(.int (0 : Int32))])) _
                          exact retN X0 hx (t := .boolean) Bd.returns (by simp) (hb hby d2_76) hr
                        · show Q2 Z p1 h0 n0 _ s₁.heap _
                          rw [e0]
                          exact ⟨(by simp [own_f2, hc4, hc12, hc20, hc26, hc32, hc38, hc44, hc50, hc56, hc62, hc68]), N0, rfl⟩
                      · obtain ⟨fs, hr, hrun, hended, hW, hsame⟩ := X0.leave (v := some (.int (1 : Int32))) (fun h => by rw [Bd.returns] at h; cases h)
                        refine ⟨_, _, pre0 _ ?_, hrun, hended, _, _, rfl, ?_, ⟨_, rfl⟩, hW, hsame.mono (by decide) (by decide)⟩
                        · show Steps p.tables e below (s₁.setTop (mkF m 0 #[.val (.int p1)] [])) _
                          refine XS.iloadN X0.here hx rfl (hb hby d2_0) rfl ?_
                          show Steps p.tables e below (s₁.setTop (mkF m 1 #[.val (.int p1)] [(.int p1)])) _
                          refine XS.sipush X0.here hx rfl (hb hby d2_1) ?_
                          show Steps p.tables e below (s₁.setTop (mkF m 4 #[.val (.int p1)] [(.int (128 : Int32)), (.int p1)])) _
                          refine XS.icmpYes X0.here hx rfl (pc0 := 4) (pc' := 9) rfl (hb hby d2_4) rfl (tlt hc4).1 (by decide) (by decide) ?_
                          show Steps p.tables e below (s₁.setTop (mkF m 9 #[.val (.int p1)] [])) _
                          refine XS.iloadN X0.here hx rfl (hb hby d2_9) rfl ?_
                          show Steps p.tables e below (s₁.setTop (mkF m 10 #[.val (.int p1)] [(.int p1)])) _
                          refine XS.bipush X0.here hx rfl (hb hby d2_10) ?_
                          show Steps p.tables e below (s₁.setTop (mkF m 12 #[.val (.int p1)] [(.int (32 : Int32)), (.int p1)])) _
                          refine XS.icmpYes X0.here hx rfl (pc0 := 12) (pc' := 17) rfl (hb hby d2_12) rfl (tlt hc12).2.2.1 (by decide) (by decide) ?_
                          show Steps p.tables e below (s₁.setTop (mkF m 17 #[.val (.int p1)] [])) _
                          refine XS.iloadN X0.here hx rfl (hb hby d2_17) rfl ?_
                          show Steps p.tables e below (s₁.setTop (mkF m 18 #[.val (.int p1)] [(.int p1)])) _
                          refine XS.bipush X0.here hx rfl (hb hby d2_18) ?_
                          show Steps p.tables e below (s₁.setTop (mkF m 20 #[.val (.int p1)] [(.int (60 : Int32)), (.int p1)])) _
                          refine XS.icmpNo X0.here hx rfl (hb hby d2_20) rfl (feq hc20).1 ?_
                          show Steps p.tables e below (s₁.setTop (mkF m 23 #[.val (.int p1)] [])) _
                          refine XS.iloadN X0.here hx rfl (hb hby d2_23) rfl ?_
                          show Steps p.tables e below (s₁.setTop (mkF m 24 #[.val (.int p1)] [(.int p1)])) _
                          refine XS.bipush X0.here hx rfl (hb hby d2_24) ?_
                          show Steps p.tables e below (s₁.setTop (mkF m 26 #[.val (.int p1)] [(.int (62 : Int32)), (.int p1)])) _
                          refine XS.icmpNo X0.here hx rfl (hb hby d2_26) rfl (feq hc26).1 ?_
                          show Steps p.tables e below (s₁.setTop (mkF m 29 #[.val (.int p1)] [])) _
                          refine XS.iloadN X0.here hx rfl (hb hby d2_29) rfl ?_
                          show Steps p.tables e below (s₁.setTop (mkF m 30 #[.val (.int p1)] [(.int p1)])) _
                          refine XS.bipush X0.here hx rfl (hb hby d2_30) ?_
                          show Steps p.tables e below (s₁.setTop (mkF m 32 #[.val (.int p1)] [(.int (34 : Int32)), (.int p1)])) _
                          refine XS.icmpNo X0.here hx rfl (hb hby d2_32) rfl (feq hc32).1 ?_
                          show Steps p.tables e below (s₁.setTop (mkF m 35 #[.val (.int p1)] [])) _
                          refine XS.iloadN X0.here hx rfl (hb hby d2_35) rfl ?_
                          show Steps p.tables e below (s₁.setTop (mkF m 36 #[.val (.int p1)] [(.int p1)])) _
                          refine XS.bipush X0.here hx rfl (hb hby d2_36) ?_
                          show Steps p.tables e below (s₁.setTop (mkF m 38 #[.val (.int p1)] [(.int (123 : Int32)), (.int p1)])) _
                          refine XS.icmpNo X0.here hx rfl (hb hby d2_38) rfl (feq hc38).1 ?_
                          show Steps p.tables e below (s₁.setTop (mkF m 41 #[.val (.int p1)] [])) _
                          refine XS.iloadN X0.here hx rfl (hb hby d2_41) rfl ?_
                          show Steps p.tables e below (s₁.setTop (mkF m 42 #[.val (.int p1)] [(.int p1)])) _
                          refine XS.bipush X0.here hx rfl (hb hby d2_42) ?_
                          show Steps p.tables e below (s₁.setTop (mkF m 44 #[.val (.int p1)] [(.int (125 : Int32)), (.int p1)])) _
                          refine XS.icmpNo X0.here hx rfl (hb hby d2_44) rfl (feq hc44).1 ?_
                          show Steps p.tables e below (s₁.setTop (mkF m 47 #[.val (.int p1)] [])) _
                          refine XS.iloadN X0.here hx rfl (hb hby d2_47) rfl ?_
                          show Steps p.tables e below (s₁.setTop (mkF m 48 #[.val (.int p1)] [(.int p1)])) _
                          refine XS.bipush X0.here hx rfl (hb hby d2_48) ?_
                          show Steps p.tables e below (s₁.setTop (mkF m 50 #[.val (.int p1)] [(.int (124 : Int32)), (.int p1)])) _
                          refine XS.icmpNo X0.here hx rfl (hb hby d2_50) rfl (feq hc50).1 ?_
                          show Steps p.tables e below (s₁.setTop (mkF m 53 #[.val (.int p1)] [])) _
                          refine XS.iloadN X0.here hx rfl (hb hby d2_53) rfl ?_
                          show Steps p.tables e below (s₁.setTop (mkF m 54 #[.val (.int p1)] [(.int p1)])) _
                          refine XS.bipush X0.here hx rfl (hb hby d2_54) ?_
                          show Steps p.tables e below (s₁.setTop (mkF m 56 #[.val (.int p1)] [(.int (94 : Int32)), (.int p1)])) _
                          refine XS.icmpNo X0.here hx rfl (hb hby d2_56) rfl (feq hc56).1 ?_
                          show Steps p.tables e below (s₁.setTop (mkF m 59 #[.val (.int p1)] [])) _
                          refine XS.iloadN X0.here hx rfl (hb hby d2_59) rfl ?_
                          show Steps p.tables e below (s₁.setTop (mkF m 60 #[.val (.int p1)] [(.int p1)])) _
                          refine XS.bipush X0.here hx rfl (hb hby d2_60) ?_
                          show Steps p.tables e below (s₁.setTop (mkF m 62 #[.val (.int p1)] [(.int (96 : Int32)), (.int p1)])) _
                          refine XS.icmpNo X0.here hx rfl (hb hby d2_62) rfl (feq hc62).1 ?_
                          show Steps p.tables e below (s₁.setTop (mkF m 65 #[.val (.int p1)] [])) _
                          refine XS.iloadN X0.here hx rfl (hb hby d2_65) rfl ?_
                          show Steps p.tables e below (s₁.setTop (mkF m 66 #[.val (.int p1)] [(.int p1)])) _
                          refine XS.bipush X0.here hx rfl (hb hby d2_66) ?_
                          show Steps p.tables e below (s₁.setTop (mkF m 68 #[.val (.int p1)] [(.int (92 : Int32)), (.int p1)])) _
                          refine XS.icmpNo X0.here hx rfl (hb hby d2_68) rfl (feq hc68).1 ?_
                          show Steps p.tables e below (s₁.setTop (mkF m 71 #[.val (.int p1)] [])) _
                          refine XS.iconst X0.here hx rfl (hb hby d2_71) ?_
                          show Steps p.tables e below (s₁.setTop (mkF m 72 #[.val (.int p1)] [(.int (1 : Int32))])) _
                          refine XS.goto X0.here hx rfl (pc0 := 72) (pc' := 76) rfl (hb hby d2_72) (by decide) (by decide) ?_
                          show Steps p.tables e below (s₁.setTop (mkF m 76 #[.val (.int p1)] [(.int (1 : Int32))])) _
                          exact retN X0 hx (t := .boolean) Bd.returns (by simp) (hb hby d2_76) hr
                        · show Q2 Z p1 h0 n0 _ s₁.heap _
                          rw [e0]
                          exact ⟨(by simp [own_f2, hc4, hc12, hc20, hc26, hc32, hc38, hc44, hc50, hc56, hc62, hc68]), N0, rfl⟩
    · obtain ⟨fs, hr, hrun, hended, hW, hsame⟩ := X0.leave (v := some (.int (0 : Int32))) (fun h => by rw [Bd.returns] at h; cases h)
      refine ⟨_, _, pre0 _ ?_, hrun, hended, _, _, rfl, ?_, ⟨_, rfl⟩, hW, hsame.mono (by decide) (by decide)⟩
      · show Steps p.tables e below (s₁.setTop (mkF m 0 #[.val (.int p1)] [])) _
        refine XS.iloadN X0.here hx rfl (hb hby d2_0) rfl ?_
        show Steps p.tables e below (s₁.setTop (mkF m 1 #[.val (.int p1)] [(.int p1)])) _
        refine XS.sipush X0.here hx rfl (hb hby d2_1) ?_
        show Steps p.tables e below (s₁.setTop (mkF m 4 #[.val (.int p1)] [(.int (128 : Int32)), (.int p1)])) _
        refine XS.icmpYes X0.here hx rfl (pc0 := 4) (pc' := 9) rfl (hb hby d2_4) rfl (tlt hc4).1 (by decide) (by decide) ?_
        show Steps p.tables e below (s₁.setTop (mkF m 9 #[.val (.int p1)] [])) _
        refine XS.iloadN X0.here hx rfl (hb hby d2_9) rfl ?_
        show Steps p.tables e below (s₁.setTop (mkF m 10 #[.val (.int p1)] [(.int p1)])) _
        refine XS.bipush X0.here hx rfl (hb hby d2_10) ?_
        show Steps p.tables e below (s₁.setTop (mkF m 12 #[.val (.int p1)] [(.int (32 : Int32)), (.int p1)])) _
        refine XS.icmpNo X0.here hx rfl (hb hby d2_12) rfl (flt hc12).2.2.1 ?_
        show Steps p.tables e below (s₁.setTop (mkF m 15 #[.val (.int p1)] [])) _
        refine XS.iconst X0.here hx rfl (hb hby d2_15) ?_
        show Steps p.tables e below (s₁.setTop (mkF m 16 #[.val (.int p1)] [(.int (0 : Int32))])) _
        exact retN X0 hx (t := .boolean) Bd.returns (by simp) (hb hby d2_16) hr
      · show Q2 Z p1 h0 n0 _ s₁.heap _
        rw [e0]
        exact ⟨(by simp [own_f2, hc4, hc12]), N0, rfl⟩
  · obtain ⟨fs, hr, hrun, hended, hW, hsame⟩ := X0.leave (v := some (.int (1 : Int32))) (fun h => by rw [Bd.returns] at h; cases h)
    refine ⟨_, _, pre0 _ ?_, hrun, hended, _, _, rfl, ?_, ⟨_, rfl⟩, hW, hsame.mono (by decide) (by decide)⟩
    · show Steps p.tables e below (s₁.setTop (mkF m 0 #[.val (.int p1)] [])) _
      refine XS.iloadN X0.here hx rfl (hb hby d2_0) rfl ?_
      show Steps p.tables e below (s₁.setTop (mkF m 1 #[.val (.int p1)] [(.int p1)])) _
      refine XS.sipush X0.here hx rfl (hb hby d2_1) ?_
      show Steps p.tables e below (s₁.setTop (mkF m 4 #[.val (.int p1)] [(.int (128 : Int32)), (.int p1)])) _
      refine XS.icmpNo X0.here hx rfl (hb hby d2_4) rfl (flt hc4).1 ?_
      show Steps p.tables e below (s₁.setTop (mkF m 7 #[.val (.int p1)] [])) _
      refine XS.iconst X0.here hx rfl (hb hby d2_7) ?_
      show Steps p.tables e below (s₁.setTop (mkF m 8 #[.val (.int p1)] [(.int (1 : Int32))])) _
      exact retN X0 hx (t := .boolean) Bd.returns (by simp) (hb hby d2_8) hr
    · show Q2 Z p1 h0 n0 _ s₁.heap _
      rw [e0]
      exact ⟨(by simp [own_f2, hc4]), N0, rfl⟩
/-! from the case's words on the array to what it holds -/
theorem own_size {args : Array Value} {s : State} {t : Term} {b : Addr} {cl : Cell} (eb : t.eval args s none [] s = some (.ref b)) (hA : s.arrayAt? b = some cl) (h : (Term.length t).eval args s none [] s = some (.int (128 : Int32))) : cl.slots.size = (128 : Int32).toNatClampNeg := by
  by_cases q : cl.slots.size < 2 ^ 31
  · have e := len_f (o := none) (first := s) eb hA q
    rw [h] at e
    have e2 : (128 : Int32) = cl.slots.size.toInt32 := Value.int.inj (Option.some.inj e)
    have e3 := len_toInt q
    rw [← e2] at e3
    have k : (128 : Int32).toInt = 128 := by decide
    have k2 : (128 : Int32).toNatClampNeg = 128 := by decide
    rw [k] at e3
    rw [k2]
    omega
  · exfalso
    simp [Term.eval, eb, hA, q] at h
theorem own_cst {args : Array Value} {s : State} {t : Term} {b : Addr} {cl : Cell} (eb : t.eval args s none [] s = some (.ref b)) (hA : s.arrayAt? b = some cl) (G : ∀ j : Int32, ¬ j < 0 → j < (128 : Int32) → cl.slots[j.toNatClampNeg]? = some (.int (atv cl j))) {j v : Int32} (h0 : ¬ j < 0) (h1 : j < (128 : Int32)) (h : (Jvm.Cond.eq (Term.elem t (Term.int j)) (Term.int v)).value args s none s [] = some true) : atv cl j = v := by
  have e := eqv_i (Term.int_eval v) h
  rw [elem_f eb (Term.int_eval j) hA h0, G j h0 h1] at e
  exact Value.int.inj (Option.some.inj e)
theorem own_al1 {args : Array Value} {s : State} {t : Term} {b : Addr} {cl : Cell} (et : ∀ idx, t.eval args s none idx s = some (.ref b)) (hA : s.arrayAt? b = some cl) (S : cl.slots.size = (128 : Int32).toNatClampNeg) (G : ∀ j : Int32, ¬ j < 0 → j < (128 : Int32) → cl.slots[j.toNatClampNeg]? = some (.int (atv cl j))) {lo v : Int32} (h : (Jvm.Cond.all t (Jvm.Cond.or (Jvm.Cond.le (Term.int lo) (Term.index 0)) (Jvm.Cond.eq (Term.elem t (Term.index 0)) (Term.int v)))).value args s none s [] = some true) :
    ∀ j : Int32, ¬ j < 0 → j < (128 : Int32) → lo ≤ j ∨ atv cl j = v := fun j h0 h1 => by
  have q := Cond.all_elim (et []) hA h j.toNatClampNeg (Nat.lt_of_not_le fun y => inb_of S ⟨h0, h1⟩ (Or.inr y))
  exact or_e2 (Cond.le_ints (Term.int_eval _) (idx_at h0)) (Cond.eq_ints ((elem_f (et _) (idx_at h0) hA h0).trans (G j h0 h1)) (Term.int_eval _)) q
theorem own_al2 {args : Array Value} {s : State} {t : Term} {b : Addr} {cl : Cell} (et : ∀ idx, t.eval args s none idx s = some (.ref b)) (hA : s.arrayAt? b = some cl) (S : cl.slots.size = (128 : Int32).toNatClampNeg) (G : ∀ j : Int32, ¬ j < 0 → j < (128 : Int32) → cl.slots[j.toNatClampNeg]? = some (.int (atv cl j))) {lo hi v : Int32} (h : (Jvm.Cond.all t (Jvm.Cond.or (Jvm.Cond.lt (Term.index 0) (Term.int lo)) (Jvm.Cond.or (Jvm.Cond.le (Term.int hi) (Term.index 0)) (Jvm.Cond.eq (Term.elem t (Term.index 0)) (Term.int v))))).value args s none s [] = some true) :
    ∀ j : Int32, ¬ j < 0 → j < (128 : Int32) → j < lo ∨ ¬ j < hi ∨ atv cl j = v := fun j h0 h1 => by
  have q := Cond.all_elim (et []) hA h j.toNatClampNeg (Nat.lt_of_not_le fun y => inb_of S ⟨h0, h1⟩ (Or.inr y))
  exact or3 q (Cond.lt_ints (idx_at h0) (Term.int_eval _)) (Cond.le_ints (Term.int_eval _) (idx_at h0)) (Cond.eq_ints ((elem_f (et _) (idx_at h0) hA h0).trans (G j h0 h1)) (Term.int_eval _))
theorem own_f2_at (j : Int32) : own_f2 j = if 128 ≤ j.toInt then 1 else if j.toInt ≤ 32 then 0 else if j.toInt = 60 ∨ j.toInt = 62 ∨ j.toInt = 34 ∨ j.toInt = 123 ∨ j.toInt = 125 ∨ j.toInt = 124 ∨ j.toInt = 94 ∨ j.toInt = 96 ∨ j.toInt = 92 then 0 else 1 := by
  have hk : ∀ k : Int32, j = k ↔ j.toInt = k.toInt := fun k => ⟨fun q => by rw [q], fun q => Int32.toInt_inj.mp q⟩
  unfold own_f2
  simp only [Int32.lt_iff_toInt_lt, hk, Int.not_lt, show (128 : Int32).toInt = 128 by decide, show (32 : Int32).toInt = 32 by decide, show (60 : Int32).toInt = 60 by decide, show (62 : Int32).toInt = 62 by decide, show (34 : Int32).toInt = 34 by decide, show (123 : Int32).toInt = 123 by decide, show (125 : Int32).toInt = 125 by decide, show (124 : Int32).toInt = 124 by decide, show (94 : Int32).toInt = 94 by decide, show (96 : Int32).toInt = 96 by decide, show (92 : Int32).toInt = 92 by decide]
theorem own_fill (f : Int32 → Int32) (r33 : ∀ j : Int32, ¬ j < 0 → j < (128 : Int32) → (33 : Int32) ≤ j ∨ f j = (0 : Int32)) (r35 : ∀ j : Int32, ¬ j < 0 → j < (128 : Int32) → j < (35 : Int32) ∨ ¬ j < (60 : Int32) ∨ f j = (1 : Int32)) (r63 : ∀ j : Int32, ¬ j < 0 → j < (128 : Int32) → j < (63 : Int32) ∨ ¬ j < (92 : Int32) ∨ f j = (1 : Int32)) (r97 : ∀ j : Int32, ¬ j < 0 → j < (128 : Int32) → j < (97 : Int32) ∨ ¬ j < (123 : Int32) ∨ f j = (1 : Int32))
    (k33 : f (33 : Int32) = (1 : Int32)) (k34 : f (34 : Int32) = (0 : Int32)) (k60 : f (60 : Int32) = (0 : Int32)) (k61 : f (61 : Int32) = (1 : Int32)) (k62 : f (62 : Int32) = (0 : Int32)) (k92 : f (92 : Int32) = (0 : Int32)) (k93 : f (93 : Int32) = (1 : Int32)) (k94 : f (94 : Int32) = (0 : Int32)) (k95 : f (95 : Int32) = (1 : Int32)) (k96 : f (96 : Int32) = (0 : Int32)) (k123 : f (123 : Int32) = (0 : Int32)) (k124 : f (124 : Int32) = (0 : Int32)) (k125 : f (125 : Int32) = (0 : Int32)) (k126 : f (126 : Int32) = (1 : Int32)) (k127 : f (127 : Int32) = (1 : Int32)) : ∀ j : Int32, ¬ j < 0 → j < (128 : Int32) → f j = own_f2 j := by
  intro j h0 h1
  have a := r33 j h0 h1
  have b1 := r35 j h0 h1
  have b2 := r63 j h0 h1
  have b3 := r97 j h0 h1
  rw [Int32.le_iff_toInt_le, show (33 : Int32).toInt = 33 by decide] at a
  rw [Int32.lt_iff_toInt_lt, Int32.lt_iff_toInt_lt, show (35 : Int32).toInt = 35 by decide, show (60 : Int32).toInt = 60 by decide] at b1
  rw [Int32.lt_iff_toInt_lt, Int32.lt_iff_toInt_lt, show (63 : Int32).toInt = 63 by decide, show (92 : Int32).toInt = 92 by decide] at b2
  rw [Int32.lt_iff_toInt_lt, Int32.lt_iff_toInt_lt, show (97 : Int32).toInt = 97 by decide, show (123 : Int32).toInt = 123 by decide] at b3
  rw [Int32.lt_iff_toInt_lt, show (0 : Int32).toInt = 0 by decide] at h0
  rw [Int32.lt_iff_toInt_lt, show (128 : Int32).toInt = 128 by decide] at h1
  have hk : ∀ k : Int32, j.toInt = k.toInt → j = k := fun k q => Int32.toInt_inj.mp q
  rw [own_f2_at, if_neg (by omega)]
  rcases (show j.toInt ≤ 32 ∨ (35 ≤ j.toInt ∧ j.toInt < 60) ∨ (63 ≤ j.toInt ∧ j.toInt < 92) ∨ (97 ≤ j.toInt ∧ j.toInt < 123) ∨ j.toInt = 33 ∨ j.toInt = 34 ∨ j.toInt = 60 ∨ j.toInt = 61 ∨ j.toInt = 62 ∨ j.toInt = 92 ∨ j.toInt = 93 ∨ j.toInt = 94 ∨ j.toInt = 95 ∨ j.toInt = 96 ∨ j.toInt = 123 ∨ j.toInt = 124 ∨ j.toInt = 125 ∨ j.toInt = 126 ∨ j.toInt = 127 by omega) with q | q | q | q | q | q | q | q | q | q | q | q | q | q | q | q | q | q | q
  · rw [if_pos q]; rcases a with a | a
    · omega
    · exact a
  · rw [if_neg (by omega), if_neg (by omega)]; rcases b1 with z | z | z
    · omega
    · omega
    · exact z
  · rw [if_neg (by omega), if_neg (by omega)]; rcases b2 with z | z | z
    · omega
    · omega
    · exact z
  · rw [if_neg (by omega), if_neg (by omega)]; rcases b3 with z | z | z
    · omega
    · omega
    · exact z
  · rw [hk (33 : Int32) (q.trans (by decide)), k33]; rw [if_neg (by decide), if_neg (by decide)]
  · rw [hk (34 : Int32) (q.trans (by decide)), k34]; rw [if_neg (by decide), if_pos (by decide)]
  · rw [hk (60 : Int32) (q.trans (by decide)), k60]; rw [if_neg (by decide), if_pos (by decide)]
  · rw [hk (61 : Int32) (q.trans (by decide)), k61]; rw [if_neg (by decide), if_neg (by decide)]
  · rw [hk (62 : Int32) (q.trans (by decide)), k62]; rw [if_neg (by decide), if_pos (by decide)]
  · rw [hk (92 : Int32) (q.trans (by decide)), k92]; rw [if_neg (by decide), if_pos (by decide)]
  · rw [hk (93 : Int32) (q.trans (by decide)), k93]; rw [if_neg (by decide), if_neg (by decide)]
  · rw [hk (94 : Int32) (q.trans (by decide)), k94]; rw [if_neg (by decide), if_pos (by decide)]
  · rw [hk (95 : Int32) (q.trans (by decide)), k95]; rw [if_neg (by decide), if_neg (by decide)]
  · rw [hk (96 : Int32) (q.trans (by decide)), k96]; rw [if_neg (by decide), if_pos (by decide)]
  · rw [hk (123 : Int32) (q.trans (by decide)), k123]; rw [if_neg (by decide), if_pos (by decide)]
  · rw [hk (124 : Int32) (q.trans (by decide)), k124]; rw [if_neg (by decide), if_pos (by decide)]
  · rw [hk (125 : Int32) (q.trans (by decide)), k125]; rw [if_neg (by decide), if_pos (by decide)]
  · rw [hk (126 : Int32) (q.trans (by decide)), k126]; rw [if_neg (by decide), if_neg (by decide)]
  · rw [hk (127 : Int32) (q.trans (by decide)), k127]; rw [if_neg (by decide), if_neg (by decide)]
theorem pn_0 : plainName "com/example/provenant/provenant/rdf/IriAllowsPinLaw" = true := by first | (simp [plainName, overriddenIn]; done) | decide +kernel
theorem pd_0_0 : parseMethodDescriptor "(I)Z" = some ⟨[.int], some .boolean⟩ := by decide +kernel
theorem ef_0 (m : MethodId) (x0 : Int32) (x1 : Int32) : entryFrame m #[(.int x0), (.int x1)] maxLocals = mkF m 0 #[.val (.int x0), .val (.int x1), .unset, .unset] [] := by first | (simp [entryFrame, mkF, argsToLocals, Value.category, maxLocals]; done) | rfl
def Q0 (Z : State) (p1 : Int32) (p2 : Int32) (h0 : Heap) (n0 : Nat) (v : Option Value) (h : Heap) (L : List Loc) : Prop := v = some (.int (1 : Int32)) ∧ Fr n0 L
set_option maxRecDepth 65536 in
set_option maxHeartbeats 40000000 in
theorem rm0 (l : Launch) (Z : State) (a0 : Array Value) (hw : ∀ d ∈ tables_1, d.before a0 Z = true) (ws : List Jvm.Cond) (p1 : Int32) (p2 : Int32) (b : Addr) (f : Int32 → Int32) (h0 : Heap) (n0 : Nat) (Z0 : n0 ≤ h0.size) (S0 : Sta Z h0 "com/example/provenant/provenant/rdf/Term$Iri" "ALLOWED" "[Z" (.ref b)) (A0 : own_arz Z h0 b (128 : Int32) f) (hf : ∀ j : Int32, ¬ j < 0 → j < (128 : Int32) → f j = own_f2 j) :
    MetFree l x (head1 (Jvm.Cond.code x code maxLocals ret :: ws) room_1) (fun a U => a = #[(.int p1), (.int p2)] ∧ Z.Warmed39 U.vm ∧ U.heap = h0) (fun _ _ _ _ _ => True) (fun _ U o U' => ∃ v L, o = .returned v ∧ Q0 Z p1 p2 h0 n0 v U'.heap L ∧ FrameEnd U o U' L room_1.cells room_1.slots) := by
  refine MetFree.of_bodySF (plainFor_of_name pn_0) hisR ?_
  intro p e s m args below meth c s₁ Bd hml0 hP hK
  obtain ⟨rfl, hZ, hh⟩ := hP
  have hx := Bd.exec
  have hby := Bd.bytes
  have hml : c.maxLocals = 4 := hml0
  have hown : s.vm.findClass "com/example/provenant/provenant/rdf/IriAllowsPinLaw" = some m.cls := findClass_of_methodNamed Bd.named
  have hnm := (name_of_methodNamed Bd.named Bd.method).1
  have X0 : Stand p l e room_1 s m #[(.int p1), (.int p2)] below meth c s₁ [] 0 0 := Stand.of_body Bd
  have e0 : s₁.heap = h0 := by rw [← hh, Bd.state]; rfl
  have N0 := Fr.nil n0
  have pre0 : ∀ t, Steps p.tables e below (s₁.setTop (mkF m 0 #[.val (.int p1), .val (.int p2), .unset, .unset] [])) t → Steps p.tables e below (s₁.setTop (entryFrame m #[(.int p1), (.int p2)] maxLocals)) t := fun t k => castTop (ef_0 m p1 p2) k
  by_cases hc5 : (p2 &&& (3 : Int32)) = (0 : Int32)
  · obtain ⟨_, _, ⟨T3, L3, k3, n3⟩, -, X3, ⟨Lc3, hQ3, l3, y3, z3⟩, st3⟩ := Jvm.LawKit.callS X0 hx (y := (⟨"com/example/provenant/provenant/rdf/Term$Iri", "allows", "(I)Z"⟩ : MethodName)) hown (mvT hZ (hw _ (List.mem_of_getElem? (i := 1) rfl))) (mvT hZ (hw _ (List.mem_of_getElem? (i := 2) rfl))) (mvT hZ (hw _ (List.mem_of_getElem? (i := 3) rfl))) (mvT hZ (hw _ (List.mem_of_getElem? (i := 4) rfl))) (by decide) (backOf (W := 0) (rm1 l Z a0 hw [] (p1 &&& (127 : Int32)) b f h0 n0 Z0 S0 A0 (own_nn _ _ (by decide))) hZ (hw _ (List.mem_of_getElem? (i := 4) rfl)) (hw _ (List.mem_of_getElem? (i := 3) rfl)) (by decide) (by decide)) (g := (mkF m 40 #[.val (.int p1), .val (.int p2), .val (.int (p2 &&& (3 : Int32))), .val (.int (p1 &&& (127 : Int32)))] [(.int (p1 &&& (127 : Int32)))])) rfl (by rw [hml]; rfl) (argsL := [(.int (p1 &&& (127 : Int32)))]) (rest := []) (lenOf pd_0_0 rfl) rfl (by show 2 * 0 + _ ≤ _; exact Nat.le_of_eq rfl) (hb hby at_40) (fun _ _ => ⟨rfl, e0, (by decide : 0 + 0 ≤ _), (by decide : 0 + 0 ≤ _)⟩)
    dsimp only [Pt.U, Pt.locs, Pt.cells, Pt.slots] at X3 l3 y3 z3 st3 hQ3
    subst l3 y3 z3
    obtain ⟨rfl, N3q, q3⟩ := hQ3
    have N3 := Fr.app N0 N3q
    obtain ⟨_, _, ⟨T4, L4, k4, n4⟩, -, X4, ⟨Lc4, hQ4, l4, y4, z4⟩, st4⟩ := Jvm.LawKit.callS X3 hx (y := (⟨"com/example/provenant/provenant/rdf/IriAllowsPinLaw", "expected", "(I)Z"⟩ : MethodName)) hown (mvT hZ (hw _ (List.mem_of_getElem? (i := 7) rfl))) (mvT hZ (hw _ (List.mem_of_getElem? (i := 8) rfl))) (mvT hZ (hw _ (List.mem_of_getElem? (i := 9) rfl))) (mvT hZ (hw _ (List.mem_of_getElem? (i := 10) rfl))) (by decide) (backOf (W := 1) (rm2 l Z a0 hw [] (p1 &&& (127 : Int32)) T3.heap n0 (by rw [q3]; exact Z0)) hZ (hw _ (List.mem_of_getElem? (i := 10) rfl)) (hw _ (List.mem_of_getElem? (i := 9) rfl)) (by decide) (by decide)) (g := (mkF m 44 #[.val (.int p1), .val (.int p2), .val (.int (p2 &&& (3 : Int32))), .val (.int (p1 &&& (127 : Int32)))] [(.int (p1 &&& (127 : Int32))), (.int (own_al f (p1 &&& (127 : Int32))))])) rfl (by rw [hml]; rfl) (argsL := [(.int (p1 &&& (127 : Int32)))]) (rest := [(.int (own_al f (p1 &&& (127 : Int32))))]) (lenOf pd_0_0 rfl) rfl (by show 2 * 0 + _ ≤ _; exact Nat.le_of_eq rfl) (hb hby at_44) (fun _ _ => ⟨rfl, rfl, (by decide : 0 + 0 ≤ _), (by decide : 0 + 0 ≤ _)⟩)
    dsimp only [Pt.U, Pt.locs, Pt.cells, Pt.slots] at X4 l4 y4 z4 st4 hQ4
    subst l4 y4 z4
    obtain ⟨rfl, N4q, -⟩ := hQ4
    have N4 := Fr.app N3 N4q
    obtain ⟨fs, hr, hrun, hended, hW, hsame⟩ := X4.leave (v := some (.int (1 : Int32))) (fun h => by rw [Bd.returns] at h; cases h)
    refine ⟨_, _, pre0 _ ?_, hrun, hended, _, _, rfl, ?_, ⟨_, rfl⟩, hW, hsame.mono (by decide) (by decide)⟩
    · show Steps p.tables e below (s₁.setTop (mkF m 0 #[.val (.int p1), .val (.int p2), .unset, .unset] [])) _
      refine XS.iloadN X0.here hx rfl (hb hby at_0) rfl ?_
      show Steps p.tables e below (s₁.setTop (mkF m 1 #[.val (.int p1), .val (.int p2), .unset, .unset] [(.int p2)])) _
      refine XS.iconst X0.here hx rfl (hb hby at_1) ?_
      show Steps p.tables e below (s₁.setTop (mkF m 2 #[.val (.int p1), .val (.int p2), .unset, .unset] [(.int (3 : Int32)), (.int p2)])) _
      refine XS.iand X0.here hx rfl (hb hby at_2) rfl ?_
      show Steps p.tables e below (s₁.setTop (mkF m 3 #[.val (.int p1), .val (.int p2), .unset, .unset] [(.int (p2 &&& (3 : Int32)))])) _
      refine XS.istoreN X0.here hx rfl (hb hby at_3) rfl (l' := #[.val (.int p1), .val (.int p2), .val (.int (p2 &&& (3 : Int32))), .unset]) rfl ?_
      show Steps p.tables e below (s₁.setTop (mkF m 4 #[.val (.int p1), .val (.int p2), .val (.int (p2 &&& (3 : Int32))), .unset] [])) _
      refine XS.iloadN X0.here hx rfl (hb hby at_4) rfl ?_
      show Steps p.tables e below (s₁.setTop (mkF m 5 #[.val (.int p1), .val (.int p2), .val (.int (p2 &&& (3 : Int32))), .unset] [(.int (p2 &&& (3 : Int32)))])) _
      refine XS.ifYes X0.here hx rfl (pc0 := 5) (pc' := 13) rfl (hb hby at_5) rfl ((if0 _ _).trans (teq hc5).1) (by decide) (by decide) ?_
      show Steps p.tables e below (s₁.setTop (mkF m 13 #[.val (.int p1), .val (.int p2), .val (.int (p2 &&& (3 : Int32))), .unset] [])) _
      refine XS.iloadN X0.here hx rfl (hb hby at_13) rfl ?_
      show Steps p.tables e below (s₁.setTop (mkF m 14 #[.val (.int p1), .val (.int p2), .val (.int (p2 &&& (3 : Int32))), .unset] [(.int p1)])) _
      refine XS.bipush X0.here hx rfl (hb hby at_14) ?_
      show Steps p.tables e below (s₁.setTop (mkF m 16 #[.val (.int p1), .val (.int p2), .val (.int (p2 &&& (3 : Int32))), .unset] [(.int (127 : Int32)), (.int p1)])) _
      refine XS.iand X0.here hx rfl (hb hby at_16) rfl ?_
      show Steps p.tables e below (s₁.setTop (mkF m 17 #[.val (.int p1), .val (.int p2), .val (.int (p2 &&& (3 : Int32))), .unset] [(.int (p1 &&& (127 : Int32)))])) _
      refine XS.istoreN X0.here hx rfl (hb hby at_17) rfl (l' := #[.val (.int p1), .val (.int p2), .val (.int (p2 &&& (3 : Int32))), .val (.int (p1 &&& (127 : Int32)))]) rfl ?_
      show Steps p.tables e below (s₁.setTop (mkF m 18 #[.val (.int p1), .val (.int p2), .val (.int (p2 &&& (3 : Int32))), .val (.int (p1 &&& (127 : Int32)))] [])) _
      refine XS.goto X0.here hx rfl (pc0 := 18) (pc' := 39) rfl (hb hby at_18) (by decide) (by decide) ?_
      show Steps p.tables e below (s₁.setTop (mkF m 39 #[.val (.int p1), .val (.int p2), .val (.int (p2 &&& (3 : Int32))), .val (.int (p1 &&& (127 : Int32)))] [])) _
      refine XS.iloadN X0.here hx rfl (hb hby at_39) rfl ?_
      show Steps p.tables e below (s₁.setTop (mkF m 40 #[.val (.int p1), .val (.int p2), .val (.int (p2 &&& (3 : Int32))), .val (.int (p1 &&& (127 : Int32)))] [(.int (p1 &&& (127 : Int32)))])) _
      refine st3 _ ?_
      show Steps p.tables e below (T3.setTop (mkF m 43 #[.val (.int p1), .val (.int p2), .val (.int (p2 &&& (3 : Int32))), .val (.int (p1 &&& (127 : Int32)))] [(.int (own_al f (p1 &&& (127 : Int32))))])) _
      refine XS.iloadN X3.here hx rfl (hb hby at_43) rfl ?_
      show Steps p.tables e below (T3.setTop (mkF m 44 #[.val (.int p1), .val (.int p2), .val (.int (p2 &&& (3 : Int32))), .val (.int (p1 &&& (127 : Int32)))] [(.int (p1 &&& (127 : Int32))), (.int (own_al f (p1 &&& (127 : Int32))))])) _
      refine st4 _ ?_
      show Steps p.tables e below (T4.setTop (mkF m 47 #[.val (.int p1), .val (.int p2), .val (.int (p2 &&& (3 : Int32))), .val (.int (p1 &&& (127 : Int32)))] [(.int (own_f2 (p1 &&& (127 : Int32)))), (.int (own_al f (p1 &&& (127 : Int32))))])) _
      refine XS.icmpNo X4.here hx rfl (hb hby at_47) rfl (teq (own_eq f hf _ (own_nn _ _ (by decide)))).2 ?_
      show Steps p.tables e below (T4.setTop (mkF m 50 #[.val (.int p1), .val (.int p2), .val (.int (p2 &&& (3 : Int32))), .val (.int (p1 &&& (127 : Int32)))] [])) _
      refine XS.iconst X4.here hx rfl (hb hby at_50) ?_
      show Steps p.tables e below (T4.setTop (mkF m 51 #[.val (.int p1), .val (.int p2), .val (.int (p2 &&& (3 : Int32))), .val (.int (p1 &&& (127 : Int32)))] [(.int (1 : Int32))])) _
      refine XS.goto X4.here hx rfl (pc0 := 51) (pc' := 55) rfl (hb hby at_51) (by decide) (by decide) ?_
      show Steps p.tables e below (T4.setTop (mkF m 55 #[.val (.int p1), .val (.int p2), .val (.int (p2 &&& (3 : Int32))), .val (.int (p1 &&& (127 : Int32)))] [(.int (1 : Int32))])) _
      exact retN X4 hx (t := .boolean) Bd.returns (by simp) (hb hby at_55) hr
    · show Q0 Z p1 p2 h0 n0 _ T4.heap _
      exact ⟨rfl, N4⟩
  · by_cases hc10 : (p2 &&& (3 : Int32)) = (1 : Int32)
    · obtain ⟨_, _, ⟨T3, L3, k3, n3⟩, -, X3, ⟨Lc3, hQ3, l3, y3, z3⟩, st3⟩ := Jvm.LawKit.callS X0 hx (y := (⟨"com/example/provenant/provenant/rdf/Term$Iri", "allows", "(I)Z"⟩ : MethodName)) hown (mvT hZ (hw _ (List.mem_of_getElem? (i := 1) rfl))) (mvT hZ (hw _ (List.mem_of_getElem? (i := 2) rfl))) (mvT hZ (hw _ (List.mem_of_getElem? (i := 3) rfl))) (mvT hZ (hw _ (List.mem_of_getElem? (i := 4) rfl))) (by decide) (backOf (W := 0) (rm1 l Z a0 hw [] (p1 &&& (127 : Int32)) b f h0 n0 Z0 S0 A0 (own_nn _ _ (by decide))) hZ (hw _ (List.mem_of_getElem? (i := 4) rfl)) (hw _ (List.mem_of_getElem? (i := 3) rfl)) (by decide) (by decide)) (g := (mkF m 40 #[.val (.int p1), .val (.int p2), .val (.int (p2 &&& (3 : Int32))), .val (.int (p1 &&& (127 : Int32)))] [(.int (p1 &&& (127 : Int32)))])) rfl (by rw [hml]; rfl) (argsL := [(.int (p1 &&& (127 : Int32)))]) (rest := []) (lenOf pd_0_0 rfl) rfl (by show 2 * 0 + _ ≤ _; exact Nat.le_of_eq rfl) (hb hby at_40) (fun _ _ => ⟨rfl, e0, (by decide : 0 + 0 ≤ _), (by decide : 0 + 0 ≤ _)⟩)
      dsimp only [Pt.U, Pt.locs, Pt.cells, Pt.slots] at X3 l3 y3 z3 st3 hQ3
      subst l3 y3 z3
      obtain ⟨rfl, N3q, q3⟩ := hQ3
      have N3 := Fr.app N0 N3q
      obtain ⟨_, _, ⟨T4, L4, k4, n4⟩, -, X4, ⟨Lc4, hQ4, l4, y4, z4⟩, st4⟩ := Jvm.LawKit.callS X3 hx (y := (⟨"com/example/provenant/provenant/rdf/IriAllowsPinLaw", "expected", "(I)Z"⟩ : MethodName)) hown (mvT hZ (hw _ (List.mem_of_getElem? (i := 7) rfl))) (mvT hZ (hw _ (List.mem_of_getElem? (i := 8) rfl))) (mvT hZ (hw _ (List.mem_of_getElem? (i := 9) rfl))) (mvT hZ (hw _ (List.mem_of_getElem? (i := 10) rfl))) (by decide) (backOf (W := 1) (rm2 l Z a0 hw [] (p1 &&& (127 : Int32)) T3.heap n0 (by rw [q3]; exact Z0)) hZ (hw _ (List.mem_of_getElem? (i := 10) rfl)) (hw _ (List.mem_of_getElem? (i := 9) rfl)) (by decide) (by decide)) (g := (mkF m 44 #[.val (.int p1), .val (.int p2), .val (.int (p2 &&& (3 : Int32))), .val (.int (p1 &&& (127 : Int32)))] [(.int (p1 &&& (127 : Int32))), (.int (own_al f (p1 &&& (127 : Int32))))])) rfl (by rw [hml]; rfl) (argsL := [(.int (p1 &&& (127 : Int32)))]) (rest := [(.int (own_al f (p1 &&& (127 : Int32))))]) (lenOf pd_0_0 rfl) rfl (by show 2 * 0 + _ ≤ _; exact Nat.le_of_eq rfl) (hb hby at_44) (fun _ _ => ⟨rfl, rfl, (by decide : 0 + 0 ≤ _), (by decide : 0 + 0 ≤ _)⟩)
      dsimp only [Pt.U, Pt.locs, Pt.cells, Pt.slots] at X4 l4 y4 z4 st4 hQ4
      subst l4 y4 z4
      obtain ⟨rfl, N4q, -⟩ := hQ4
      have N4 := Fr.app N3 N4q
      obtain ⟨fs, hr, hrun, hended, hW, hsame⟩ := X4.leave (v := some (.int (1 : Int32))) (fun h => by rw [Bd.returns] at h; cases h)
      refine ⟨_, _, pre0 _ ?_, hrun, hended, _, _, rfl, ?_, ⟨_, rfl⟩, hW, hsame.mono (by decide) (by decide)⟩
      · show Steps p.tables e below (s₁.setTop (mkF m 0 #[.val (.int p1), .val (.int p2), .unset, .unset] [])) _
        refine XS.iloadN X0.here hx rfl (hb hby at_0) rfl ?_
        show Steps p.tables e below (s₁.setTop (mkF m 1 #[.val (.int p1), .val (.int p2), .unset, .unset] [(.int p2)])) _
        refine XS.iconst X0.here hx rfl (hb hby at_1) ?_
        show Steps p.tables e below (s₁.setTop (mkF m 2 #[.val (.int p1), .val (.int p2), .unset, .unset] [(.int (3 : Int32)), (.int p2)])) _
        refine XS.iand X0.here hx rfl (hb hby at_2) rfl ?_
        show Steps p.tables e below (s₁.setTop (mkF m 3 #[.val (.int p1), .val (.int p2), .unset, .unset] [(.int (p2 &&& (3 : Int32)))])) _
        refine XS.istoreN X0.here hx rfl (hb hby at_3) rfl (l' := #[.val (.int p1), .val (.int p2), .val (.int (p2 &&& (3 : Int32))), .unset]) rfl ?_
        show Steps p.tables e below (s₁.setTop (mkF m 4 #[.val (.int p1), .val (.int p2), .val (.int (p2 &&& (3 : Int32))), .unset] [])) _
        refine XS.iloadN X0.here hx rfl (hb hby at_4) rfl ?_
        show Steps p.tables e below (s₁.setTop (mkF m 5 #[.val (.int p1), .val (.int p2), .val (.int (p2 &&& (3 : Int32))), .unset] [(.int (p2 &&& (3 : Int32)))])) _
        refine XS.ifNo X0.here hx rfl (hb hby at_5) rfl ((if0 _ _).trans (feq hc5).1) ?_
        show Steps p.tables e below (s₁.setTop (mkF m 8 #[.val (.int p1), .val (.int p2), .val (.int (p2 &&& (3 : Int32))), .unset] [])) _
        refine XS.iloadN X0.here hx rfl (hb hby at_8) rfl ?_
        show Steps p.tables e below (s₁.setTop (mkF m 9 #[.val (.int p1), .val (.int p2), .val (.int (p2 &&& (3 : Int32))), .unset] [(.int (p2 &&& (3 : Int32)))])) _
        refine XS.iconst X0.here hx rfl (hb hby at_9) ?_
        show Steps p.tables e below (s₁.setTop (mkF m 10 #[.val (.int p1), .val (.int p2), .val (.int (p2 &&& (3 : Int32))), .unset] [(.int (1 : Int32)), (.int (p2 &&& (3 : Int32)))])) _
        refine XS.icmpNo X0.here hx rfl (hb hby at_10) rfl (teq hc10).2 ?_
        show Steps p.tables e below (s₁.setTop (mkF m 13 #[.val (.int p1), .val (.int p2), .val (.int (p2 &&& (3 : Int32))), .unset] [])) _
        refine XS.iloadN X0.here hx rfl (hb hby at_13) rfl ?_
        show Steps p.tables e below (s₁.setTop (mkF m 14 #[.val (.int p1), .val (.int p2), .val (.int (p2 &&& (3 : Int32))), .unset] [(.int p1)])) _
        refine XS.bipush X0.here hx rfl (hb hby at_14) ?_
        show Steps p.tables e below (s₁.setTop (mkF m 16 #[.val (.int p1), .val (.int p2), .val (.int (p2 &&& (3 : Int32))), .unset] [(.int (127 : Int32)), (.int p1)])) _
        refine XS.iand X0.here hx rfl (hb hby at_16) rfl ?_
        show Steps p.tables e below (s₁.setTop (mkF m 17 #[.val (.int p1), .val (.int p2), .val (.int (p2 &&& (3 : Int32))), .unset] [(.int (p1 &&& (127 : Int32)))])) _
        refine XS.istoreN X0.here hx rfl (hb hby at_17) rfl (l' := #[.val (.int p1), .val (.int p2), .val (.int (p2 &&& (3 : Int32))), .val (.int (p1 &&& (127 : Int32)))]) rfl ?_
        show Steps p.tables e below (s₁.setTop (mkF m 18 #[.val (.int p1), .val (.int p2), .val (.int (p2 &&& (3 : Int32))), .val (.int (p1 &&& (127 : Int32)))] [])) _
        refine XS.goto X0.here hx rfl (pc0 := 18) (pc' := 39) rfl (hb hby at_18) (by decide) (by decide) ?_
        show Steps p.tables e below (s₁.setTop (mkF m 39 #[.val (.int p1), .val (.int p2), .val (.int (p2 &&& (3 : Int32))), .val (.int (p1 &&& (127 : Int32)))] [])) _
        refine XS.iloadN X0.here hx rfl (hb hby at_39) rfl ?_
        show Steps p.tables e below (s₁.setTop (mkF m 40 #[.val (.int p1), .val (.int p2), .val (.int (p2 &&& (3 : Int32))), .val (.int (p1 &&& (127 : Int32)))] [(.int (p1 &&& (127 : Int32)))])) _
        refine st3 _ ?_
        show Steps p.tables e below (T3.setTop (mkF m 43 #[.val (.int p1), .val (.int p2), .val (.int (p2 &&& (3 : Int32))), .val (.int (p1 &&& (127 : Int32)))] [(.int (own_al f (p1 &&& (127 : Int32))))])) _
        refine XS.iloadN X3.here hx rfl (hb hby at_43) rfl ?_
        show Steps p.tables e below (T3.setTop (mkF m 44 #[.val (.int p1), .val (.int p2), .val (.int (p2 &&& (3 : Int32))), .val (.int (p1 &&& (127 : Int32)))] [(.int (p1 &&& (127 : Int32))), (.int (own_al f (p1 &&& (127 : Int32))))])) _
        refine st4 _ ?_
        show Steps p.tables e below (T4.setTop (mkF m 47 #[.val (.int p1), .val (.int p2), .val (.int (p2 &&& (3 : Int32))), .val (.int (p1 &&& (127 : Int32)))] [(.int (own_f2 (p1 &&& (127 : Int32)))), (.int (own_al f (p1 &&& (127 : Int32))))])) _
        refine XS.icmpNo X4.here hx rfl (hb hby at_47) rfl (teq (own_eq f hf _ (own_nn _ _ (by decide)))).2 ?_
        show Steps p.tables e below (T4.setTop (mkF m 50 #[.val (.int p1), .val (.int p2), .val (.int (p2 &&& (3 : Int32))), .val (.int (p1 &&& (127 : Int32)))] [])) _
        refine XS.iconst X4.here hx rfl (hb hby at_50) ?_
        show Steps p.tables e below (T4.setTop (mkF m 51 #[.val (.int p1), .val (.int p2), .val (.int (p2 &&& (3 : Int32))), .val (.int (p1 &&& (127 : Int32)))] [(.int (1 : Int32))])) _
        refine XS.goto X4.here hx rfl (pc0 := 51) (pc' := 55) rfl (hb hby at_51) (by decide) (by decide) ?_
        show Steps p.tables e below (T4.setTop (mkF m 55 #[.val (.int p1), .val (.int p2), .val (.int (p2 &&& (3 : Int32))), .val (.int (p1 &&& (127 : Int32)))] [(.int (1 : Int32))])) _
        exact retN X4 hx (t := .boolean) Bd.returns (by simp) (hb hby at_55) hr
      · show Q0 Z p1 p2 h0 n0 _ T4.heap _
        exact ⟨rfl, N4⟩
    · by_cases hc23 : (p2 &&& (3 : Int32)) = (2 : Int32)
      · obtain ⟨_, _, ⟨T3, L3, k3, n3⟩, -, X3, ⟨Lc3, hQ3, l3, y3, z3⟩, st3⟩ := Jvm.LawKit.callS X0 hx (y := (⟨"com/example/provenant/provenant/rdf/Term$Iri", "allows", "(I)Z"⟩ : MethodName)) hown (mvT hZ (hw _ (List.mem_of_getElem? (i := 1) rfl))) (mvT hZ (hw _ (List.mem_of_getElem? (i := 2) rfl))) (mvT hZ (hw _ (List.mem_of_getElem? (i := 3) rfl))) (mvT hZ (hw _ (List.mem_of_getElem? (i := 4) rfl))) (by decide) (backOf (W := 0) (rm1 l Z a0 hw [] (p1 &&& (65535 : Int32)) b f h0 n0 Z0 S0 A0 (own_nn _ _ (by decide))) hZ (hw _ (List.mem_of_getElem? (i := 4) rfl)) (hw _ (List.mem_of_getElem? (i := 3) rfl)) (by decide) (by decide)) (g := (mkF m 40 #[.val (.int p1), .val (.int p2), .val (.int (p2 &&& (3 : Int32))), .val (.int (p1 &&& (65535 : Int32)))] [(.int (p1 &&& (65535 : Int32)))])) rfl (by rw [hml]; rfl) (argsL := [(.int (p1 &&& (65535 : Int32)))]) (rest := []) (lenOf pd_0_0 rfl) rfl (by show 2 * 0 + _ ≤ _; exact Nat.le_of_eq rfl) (hb hby at_40) (fun _ _ => ⟨rfl, e0, (by decide : 0 + 0 ≤ _), (by decide : 0 + 0 ≤ _)⟩)
        dsimp only [Pt.U, Pt.locs, Pt.cells, Pt.slots] at X3 l3 y3 z3 st3 hQ3
        subst l3 y3 z3
        obtain ⟨rfl, N3q, q3⟩ := hQ3
        have N3 := Fr.app N0 N3q
        obtain ⟨_, _, ⟨T4, L4, k4, n4⟩, -, X4, ⟨Lc4, hQ4, l4, y4, z4⟩, st4⟩ := Jvm.LawKit.callS X3 hx (y := (⟨"com/example/provenant/provenant/rdf/IriAllowsPinLaw", "expected", "(I)Z"⟩ : MethodName)) hown (mvT hZ (hw _ (List.mem_of_getElem? (i := 7) rfl))) (mvT hZ (hw _ (List.mem_of_getElem? (i := 8) rfl))) (mvT hZ (hw _ (List.mem_of_getElem? (i := 9) rfl))) (mvT hZ (hw _ (List.mem_of_getElem? (i := 10) rfl))) (by decide) (backOf (W := 1) (rm2 l Z a0 hw [] (p1 &&& (65535 : Int32)) T3.heap n0 (by rw [q3]; exact Z0)) hZ (hw _ (List.mem_of_getElem? (i := 10) rfl)) (hw _ (List.mem_of_getElem? (i := 9) rfl)) (by decide) (by decide)) (g := (mkF m 44 #[.val (.int p1), .val (.int p2), .val (.int (p2 &&& (3 : Int32))), .val (.int (p1 &&& (65535 : Int32)))] [(.int (p1 &&& (65535 : Int32))), (.int (own_al f (p1 &&& (65535 : Int32))))])) rfl (by rw [hml]; rfl) (argsL := [(.int (p1 &&& (65535 : Int32)))]) (rest := [(.int (own_al f (p1 &&& (65535 : Int32))))]) (lenOf pd_0_0 rfl) rfl (by show 2 * 0 + _ ≤ _; exact Nat.le_of_eq rfl) (hb hby at_44) (fun _ _ => ⟨rfl, rfl, (by decide : 0 + 0 ≤ _), (by decide : 0 + 0 ≤ _)⟩)
        dsimp only [Pt.U, Pt.locs, Pt.cells, Pt.slots] at X4 l4 y4 z4 st4 hQ4
        subst l4 y4 z4
        obtain ⟨rfl, N4q, -⟩ := hQ4
        have N4 := Fr.app N3 N4q
        obtain ⟨fs, hr, hrun, hended, hW, hsame⟩ := X4.leave (v := some (.int (1 : Int32))) (fun h => by rw [Bd.returns] at h; cases h)
        refine ⟨_, _, pre0 _ ?_, hrun, hended, _, _, rfl, ?_, ⟨_, rfl⟩, hW, hsame.mono (by decide) (by decide)⟩
        · show Steps p.tables e below (s₁.setTop (mkF m 0 #[.val (.int p1), .val (.int p2), .unset, .unset] [])) _
          refine XS.iloadN X0.here hx rfl (hb hby at_0) rfl ?_
          show Steps p.tables e below (s₁.setTop (mkF m 1 #[.val (.int p1), .val (.int p2), .unset, .unset] [(.int p2)])) _
          refine XS.iconst X0.here hx rfl (hb hby at_1) ?_
          show Steps p.tables e below (s₁.setTop (mkF m 2 #[.val (.int p1), .val (.int p2), .unset, .unset] [(.int (3 : Int32)), (.int p2)])) _
          refine XS.iand X0.here hx rfl (hb hby at_2) rfl ?_
          show Steps p.tables e below (s₁.setTop (mkF m 3 #[.val (.int p1), .val (.int p2), .unset, .unset] [(.int (p2 &&& (3 : Int32)))])) _
          refine XS.istoreN X0.here hx rfl (hb hby at_3) rfl (l' := #[.val (.int p1), .val (.int p2), .val (.int (p2 &&& (3 : Int32))), .unset]) rfl ?_
          show Steps p.tables e below (s₁.setTop (mkF m 4 #[.val (.int p1), .val (.int p2), .val (.int (p2 &&& (3 : Int32))), .unset] [])) _
          refine XS.iloadN X0.here hx rfl (hb hby at_4) rfl ?_
          show Steps p.tables e below (s₁.setTop (mkF m 5 #[.val (.int p1), .val (.int p2), .val (.int (p2 &&& (3 : Int32))), .unset] [(.int (p2 &&& (3 : Int32)))])) _
          refine XS.ifNo X0.here hx rfl (hb hby at_5) rfl ((if0 _ _).trans (feq hc5).1) ?_
          show Steps p.tables e below (s₁.setTop (mkF m 8 #[.val (.int p1), .val (.int p2), .val (.int (p2 &&& (3 : Int32))), .unset] [])) _
          refine XS.iloadN X0.here hx rfl (hb hby at_8) rfl ?_
          show Steps p.tables e below (s₁.setTop (mkF m 9 #[.val (.int p1), .val (.int p2), .val (.int (p2 &&& (3 : Int32))), .unset] [(.int (p2 &&& (3 : Int32)))])) _
          refine XS.iconst X0.here hx rfl (hb hby at_9) ?_
          show Steps p.tables e below (s₁.setTop (mkF m 10 #[.val (.int p1), .val (.int p2), .val (.int (p2 &&& (3 : Int32))), .unset] [(.int (1 : Int32)), (.int (p2 &&& (3 : Int32)))])) _
          refine XS.icmpYes X0.here hx rfl (pc0 := 10) (pc' := 21) rfl (hb hby at_10) rfl (feq hc10).2 (by decide) (by decide) ?_
          show Steps p.tables e below (s₁.setTop (mkF m 21 #[.val (.int p1), .val (.int p2), .val (.int (p2 &&& (3 : Int32))), .unset] [])) _
          refine XS.iloadN X0.here hx rfl (hb hby at_21) rfl ?_
          show Steps p.tables e below (s₁.setTop (mkF m 22 #[.val (.int p1), .val (.int p2), .val (.int (p2 &&& (3 : Int32))), .unset] [(.int (p2 &&& (3 : Int32)))])) _
          refine XS.iconst X0.here hx rfl (hb hby at_22) ?_
          show Steps p.tables e below (s₁.setTop (mkF m 23 #[.val (.int p1), .val (.int p2), .val (.int (p2 &&& (3 : Int32))), .unset] [(.int (2 : Int32)), (.int (p2 &&& (3 : Int32)))])) _
          refine XS.icmpNo X0.here hx rfl (hb hby at_23) rfl (teq hc23).2 ?_
          show Steps p.tables e below (s₁.setTop (mkF m 26 #[.val (.int p1), .val (.int p2), .val (.int (p2 &&& (3 : Int32))), .unset] [])) _
          refine XS.iloadN X0.here hx rfl (hb hby at_26) rfl ?_
          show Steps p.tables e below (s₁.setTop (mkF m 27 #[.val (.int p1), .val (.int p2), .val (.int (p2 &&& (3 : Int32))), .unset] [(.int p1)])) _
          refine X0.ldcInt hx hown (mvT hZ (hw _ (List.mem_of_getElem? (i := 11) rfl))) (g := (mkF m 27 #[.val (.int p1), .val (.int p2), .val (.int (p2 &&& (3 : Int32))), .unset] [(.int p1)])) rfl (hb hby at_27) _ ?_
          show Steps p.tables e below (s₁.setTop (mkF m 29 #[.val (.int p1), .val (.int p2), .val (.int (p2 &&& (3 : Int32))), .unset] [(.int (65535 : Int32)), (.int p1)])) _
          refine XS.iand X0.here hx rfl (hb hby at_29) rfl ?_
          show Steps p.tables e below (s₁.setTop (mkF m 30 #[.val (.int p1), .val (.int p2), .val (.int (p2 &&& (3 : Int32))), .unset] [(.int (p1 &&& (65535 : Int32)))])) _
          refine XS.istoreN X0.here hx rfl (hb hby at_30) rfl (l' := #[.val (.int p1), .val (.int p2), .val (.int (p2 &&& (3 : Int32))), .val (.int (p1 &&& (65535 : Int32)))]) rfl ?_
          show Steps p.tables e below (s₁.setTop (mkF m 31 #[.val (.int p1), .val (.int p2), .val (.int (p2 &&& (3 : Int32))), .val (.int (p1 &&& (65535 : Int32)))] [])) _
          refine XS.goto X0.here hx rfl (pc0 := 31) (pc' := 39) rfl (hb hby at_31) (by decide) (by decide) ?_
          show Steps p.tables e below (s₁.setTop (mkF m 39 #[.val (.int p1), .val (.int p2), .val (.int (p2 &&& (3 : Int32))), .val (.int (p1 &&& (65535 : Int32)))] [])) _
          refine XS.iloadN X0.here hx rfl (hb hby at_39) rfl ?_
          show Steps p.tables e below (s₁.setTop (mkF m 40 #[.val (.int p1), .val (.int p2), .val (.int (p2 &&& (3 : Int32))), .val (.int (p1 &&& (65535 : Int32)))] [(.int (p1 &&& (65535 : Int32)))])) _
          refine st3 _ ?_
          show Steps p.tables e below (T3.setTop (mkF m 43 #[.val (.int p1), .val (.int p2), .val (.int (p2 &&& (3 : Int32))), .val (.int (p1 &&& (65535 : Int32)))] [(.int (own_al f (p1 &&& (65535 : Int32))))])) _
          refine XS.iloadN X3.here hx rfl (hb hby at_43) rfl ?_
          show Steps p.tables e below (T3.setTop (mkF m 44 #[.val (.int p1), .val (.int p2), .val (.int (p2 &&& (3 : Int32))), .val (.int (p1 &&& (65535 : Int32)))] [(.int (p1 &&& (65535 : Int32))), (.int (own_al f (p1 &&& (65535 : Int32))))])) _
          refine st4 _ ?_
          show Steps p.tables e below (T4.setTop (mkF m 47 #[.val (.int p1), .val (.int p2), .val (.int (p2 &&& (3 : Int32))), .val (.int (p1 &&& (65535 : Int32)))] [(.int (own_f2 (p1 &&& (65535 : Int32)))), (.int (own_al f (p1 &&& (65535 : Int32))))])) _
          refine XS.icmpNo X4.here hx rfl (hb hby at_47) rfl (teq (own_eq f hf _ (own_nn _ _ (by decide)))).2 ?_
          show Steps p.tables e below (T4.setTop (mkF m 50 #[.val (.int p1), .val (.int p2), .val (.int (p2 &&& (3 : Int32))), .val (.int (p1 &&& (65535 : Int32)))] [])) _
          refine XS.iconst X4.here hx rfl (hb hby at_50) ?_
          show Steps p.tables e below (T4.setTop (mkF m 51 #[.val (.int p1), .val (.int p2), .val (.int (p2 &&& (3 : Int32))), .val (.int (p1 &&& (65535 : Int32)))] [(.int (1 : Int32))])) _
          refine XS.goto X4.here hx rfl (pc0 := 51) (pc' := 55) rfl (hb hby at_51) (by decide) (by decide) ?_
          show Steps p.tables e below (T4.setTop (mkF m 55 #[.val (.int p1), .val (.int p2), .val (.int (p2 &&& (3 : Int32))), .val (.int (p1 &&& (65535 : Int32)))] [(.int (1 : Int32))])) _
          exact retN X4 hx (t := .boolean) Bd.returns (by simp) (hb hby at_55) hr
        · show Q0 Z p1 p2 h0 n0 _ T4.heap _
          exact ⟨rfl, N4⟩
      · obtain ⟨_, _, ⟨T3, L3, k3, n3⟩, -, X3, ⟨Lc3, hQ3, l3, y3, z3⟩, st3⟩ := Jvm.LawKit.callS X0 hx (y := (⟨"com/example/provenant/provenant/rdf/Term$Iri", "allows", "(I)Z"⟩ : MethodName)) hown (mvT hZ (hw _ (List.mem_of_getElem? (i := 1) rfl))) (mvT hZ (hw _ (List.mem_of_getElem? (i := 2) rfl))) (mvT hZ (hw _ (List.mem_of_getElem? (i := 3) rfl))) (mvT hZ (hw _ (List.mem_of_getElem? (i := 4) rfl))) (by decide) (backOf (W := 0) (rm1 l Z a0 hw [] (p1 &&& (2147483647 : Int32)) b f h0 n0 Z0 S0 A0 (own_nn _ _ (by decide))) hZ (hw _ (List.mem_of_getElem? (i := 4) rfl)) (hw _ (List.mem_of_getElem? (i := 3) rfl)) (by decide) (by decide)) (g := (mkF m 40 #[.val (.int p1), .val (.int p2), .val (.int (p2 &&& (3 : Int32))), .val (.int (p1 &&& (2147483647 : Int32)))] [(.int (p1 &&& (2147483647 : Int32)))])) rfl (by rw [hml]; rfl) (argsL := [(.int (p1 &&& (2147483647 : Int32)))]) (rest := []) (lenOf pd_0_0 rfl) rfl (by show 2 * 0 + _ ≤ _; exact Nat.le_of_eq rfl) (hb hby at_40) (fun _ _ => ⟨rfl, e0, (by decide : 0 + 0 ≤ _), (by decide : 0 + 0 ≤ _)⟩)
        dsimp only [Pt.U, Pt.locs, Pt.cells, Pt.slots] at X3 l3 y3 z3 st3 hQ3
        subst l3 y3 z3
        obtain ⟨rfl, N3q, q3⟩ := hQ3
        have N3 := Fr.app N0 N3q
        obtain ⟨_, _, ⟨T4, L4, k4, n4⟩, -, X4, ⟨Lc4, hQ4, l4, y4, z4⟩, st4⟩ := Jvm.LawKit.callS X3 hx (y := (⟨"com/example/provenant/provenant/rdf/IriAllowsPinLaw", "expected", "(I)Z"⟩ : MethodName)) hown (mvT hZ (hw _ (List.mem_of_getElem? (i := 7) rfl))) (mvT hZ (hw _ (List.mem_of_getElem? (i := 8) rfl))) (mvT hZ (hw _ (List.mem_of_getElem? (i := 9) rfl))) (mvT hZ (hw _ (List.mem_of_getElem? (i := 10) rfl))) (by decide) (backOf (W := 1) (rm2 l Z a0 hw [] (p1 &&& (2147483647 : Int32)) T3.heap n0 (by rw [q3]; exact Z0)) hZ (hw _ (List.mem_of_getElem? (i := 10) rfl)) (hw _ (List.mem_of_getElem? (i := 9) rfl)) (by decide) (by decide)) (g := (mkF m 44 #[.val (.int p1), .val (.int p2), .val (.int (p2 &&& (3 : Int32))), .val (.int (p1 &&& (2147483647 : Int32)))] [(.int (p1 &&& (2147483647 : Int32))), (.int (own_al f (p1 &&& (2147483647 : Int32))))])) rfl (by rw [hml]; rfl) (argsL := [(.int (p1 &&& (2147483647 : Int32)))]) (rest := [(.int (own_al f (p1 &&& (2147483647 : Int32))))]) (lenOf pd_0_0 rfl) rfl (by show 2 * 0 + _ ≤ _; exact Nat.le_of_eq rfl) (hb hby at_44) (fun _ _ => ⟨rfl, rfl, (by decide : 0 + 0 ≤ _), (by decide : 0 + 0 ≤ _)⟩)
        dsimp only [Pt.U, Pt.locs, Pt.cells, Pt.slots] at X4 l4 y4 z4 st4 hQ4
        subst l4 y4 z4
        obtain ⟨rfl, N4q, -⟩ := hQ4
        have N4 := Fr.app N3 N4q
        obtain ⟨fs, hr, hrun, hended, hW, hsame⟩ := X4.leave (v := some (.int (1 : Int32))) (fun h => by rw [Bd.returns] at h; cases h)
        refine ⟨_, _, pre0 _ ?_, hrun, hended, _, _, rfl, ?_, ⟨_, rfl⟩, hW, hsame.mono (by decide) (by decide)⟩
        · show Steps p.tables e below (s₁.setTop (mkF m 0 #[.val (.int p1), .val (.int p2), .unset, .unset] [])) _
          refine XS.iloadN X0.here hx rfl (hb hby at_0) rfl ?_
          show Steps p.tables e below (s₁.setTop (mkF m 1 #[.val (.int p1), .val (.int p2), .unset, .unset] [(.int p2)])) _
          refine XS.iconst X0.here hx rfl (hb hby at_1) ?_
          show Steps p.tables e below (s₁.setTop (mkF m 2 #[.val (.int p1), .val (.int p2), .unset, .unset] [(.int (3 : Int32)), (.int p2)])) _
          refine XS.iand X0.here hx rfl (hb hby at_2) rfl ?_
          show Steps p.tables e below (s₁.setTop (mkF m 3 #[.val (.int p1), .val (.int p2), .unset, .unset] [(.int (p2 &&& (3 : Int32)))])) _
          refine XS.istoreN X0.here hx rfl (hb hby at_3) rfl (l' := #[.val (.int p1), .val (.int p2), .val (.int (p2 &&& (3 : Int32))), .unset]) rfl ?_
          show Steps p.tables e below (s₁.setTop (mkF m 4 #[.val (.int p1), .val (.int p2), .val (.int (p2 &&& (3 : Int32))), .unset] [])) _
          refine XS.iloadN X0.here hx rfl (hb hby at_4) rfl ?_
          show Steps p.tables e below (s₁.setTop (mkF m 5 #[.val (.int p1), .val (.int p2), .val (.int (p2 &&& (3 : Int32))), .unset] [(.int (p2 &&& (3 : Int32)))])) _
          refine XS.ifNo X0.here hx rfl (hb hby at_5) rfl ((if0 _ _).trans (feq hc5).1) ?_
          show Steps p.tables e below (s₁.setTop (mkF m 8 #[.val (.int p1), .val (.int p2), .val (.int (p2 &&& (3 : Int32))), .unset] [])) _
          refine XS.iloadN X0.here hx rfl (hb hby at_8) rfl ?_
          show Steps p.tables e below (s₁.setTop (mkF m 9 #[.val (.int p1), .val (.int p2), .val (.int (p2 &&& (3 : Int32))), .unset] [(.int (p2 &&& (3 : Int32)))])) _
          refine XS.iconst X0.here hx rfl (hb hby at_9) ?_
          show Steps p.tables e below (s₁.setTop (mkF m 10 #[.val (.int p1), .val (.int p2), .val (.int (p2 &&& (3 : Int32))), .unset] [(.int (1 : Int32)), (.int (p2 &&& (3 : Int32)))])) _
          refine XS.icmpYes X0.here hx rfl (pc0 := 10) (pc' := 21) rfl (hb hby at_10) rfl (feq hc10).2 (by decide) (by decide) ?_
          show Steps p.tables e below (s₁.setTop (mkF m 21 #[.val (.int p1), .val (.int p2), .val (.int (p2 &&& (3 : Int32))), .unset] [])) _
          refine XS.iloadN X0.here hx rfl (hb hby at_21) rfl ?_
          show Steps p.tables e below (s₁.setTop (mkF m 22 #[.val (.int p1), .val (.int p2), .val (.int (p2 &&& (3 : Int32))), .unset] [(.int (p2 &&& (3 : Int32)))])) _
          refine XS.iconst X0.here hx rfl (hb hby at_22) ?_
          show Steps p.tables e below (s₁.setTop (mkF m 23 #[.val (.int p1), .val (.int p2), .val (.int (p2 &&& (3 : Int32))), .unset] [(.int (2 : Int32)), (.int (p2 &&& (3 : Int32)))])) _
          refine XS.icmpYes X0.here hx rfl (pc0 := 23) (pc' := 34) rfl (hb hby at_23) rfl (feq hc23).2 (by decide) (by decide) ?_
          show Steps p.tables e below (s₁.setTop (mkF m 34 #[.val (.int p1), .val (.int p2), .val (.int (p2 &&& (3 : Int32))), .unset] [])) _
          refine XS.iloadN X0.here hx rfl (hb hby at_34) rfl ?_
          show Steps p.tables e below (s₁.setTop (mkF m 35 #[.val (.int p1), .val (.int p2), .val (.int (p2 &&& (3 : Int32))), .unset] [(.int p1)])) _
          refine X0.ldcInt hx hown (mvT hZ (hw _ (List.mem_of_getElem? (i := 0) rfl))) (g := (mkF m 35 #[.val (.int p1), .val (.int p2), .val (.int (p2 &&& (3 : Int32))), .unset] [(.int p1)])) rfl (hb hby at_35) _ ?_
          show Steps p.tables e below (s₁.setTop (mkF m 37 #[.val (.int p1), .val (.int p2), .val (.int (p2 &&& (3 : Int32))), .unset] [(.int (2147483647 : Int32)), (.int p1)])) _
          refine XS.iand X0.here hx rfl (hb hby at_37) rfl ?_
          show Steps p.tables e below (s₁.setTop (mkF m 38 #[.val (.int p1), .val (.int p2), .val (.int (p2 &&& (3 : Int32))), .unset] [(.int (p1 &&& (2147483647 : Int32)))])) _
          refine XS.istoreN X0.here hx rfl (hb hby at_38) rfl (l' := #[.val (.int p1), .val (.int p2), .val (.int (p2 &&& (3 : Int32))), .val (.int (p1 &&& (2147483647 : Int32)))]) rfl ?_
          show Steps p.tables e below (s₁.setTop (mkF m 39 #[.val (.int p1), .val (.int p2), .val (.int (p2 &&& (3 : Int32))), .val (.int (p1 &&& (2147483647 : Int32)))] [])) _
          refine XS.iloadN X0.here hx rfl (hb hby at_39) rfl ?_
          show Steps p.tables e below (s₁.setTop (mkF m 40 #[.val (.int p1), .val (.int p2), .val (.int (p2 &&& (3 : Int32))), .val (.int (p1 &&& (2147483647 : Int32)))] [(.int (p1 &&& (2147483647 : Int32)))])) _
          refine st3 _ ?_
          show Steps p.tables e below (T3.setTop (mkF m 43 #[.val (.int p1), .val (.int p2), .val (.int (p2 &&& (3 : Int32))), .val (.int (p1 &&& (2147483647 : Int32)))] [(.int (own_al f (p1 &&& (2147483647 : Int32))))])) _
          refine XS.iloadN X3.here hx rfl (hb hby at_43) rfl ?_
          show Steps p.tables e below (T3.setTop (mkF m 44 #[.val (.int p1), .val (.int p2), .val (.int (p2 &&& (3 : Int32))), .val (.int (p1 &&& (2147483647 : Int32)))] [(.int (p1 &&& (2147483647 : Int32))), (.int (own_al f (p1 &&& (2147483647 : Int32))))])) _
          refine st4 _ ?_
          show Steps p.tables e below (T4.setTop (mkF m 47 #[.val (.int p1), .val (.int p2), .val (.int (p2 &&& (3 : Int32))), .val (.int (p1 &&& (2147483647 : Int32)))] [(.int (own_f2 (p1 &&& (2147483647 : Int32)))), (.int (own_al f (p1 &&& (2147483647 : Int32))))])) _
          refine XS.icmpNo X4.here hx rfl (hb hby at_47) rfl (teq (own_eq f hf _ (own_nn _ _ (by decide)))).2 ?_
          show Steps p.tables e below (T4.setTop (mkF m 50 #[.val (.int p1), .val (.int p2), .val (.int (p2 &&& (3 : Int32))), .val (.int (p1 &&& (2147483647 : Int32)))] [])) _
          refine XS.iconst X4.here hx rfl (hb hby at_50) ?_
          show Steps p.tables e below (T4.setTop (mkF m 51 #[.val (.int p1), .val (.int p2), .val (.int (p2 &&& (3 : Int32))), .val (.int (p1 &&& (2147483647 : Int32)))] [(.int (1 : Int32))])) _
          refine XS.goto X4.here hx rfl (pc0 := 51) (pc' := 55) rfl (hb hby at_51) (by decide) (by decide) ?_
          show Steps p.tables e below (T4.setTop (mkF m 55 #[.val (.int p1), .val (.int p2), .val (.int (p2 &&& (3 : Int32))), .val (.int (p1 &&& (2147483647 : Int32)))] [(.int (1 : Int32))])) _
          exact retN X4 hx (t := .boolean) Bd.returns (by simp) (hb hby at_55) hr
        · show Q0 Z p1 p2 h0 n0 _ T4.heap _
          exact ⟨rfl, N4⟩
set_option maxRecDepth 65536 in
set_option maxHeartbeats 40000000 in
theorem comes_1 {Post : Tables → Env → Array Value → State → Outcome → State → Prop} (hpost : ∀ tb e args s v u, (limb_1_1.after args s (.returned v) u = true ∧ limb_1_2.after args s (.returned v) u = true ∧ True) → FrameEnd s (.returned v) u (Jvm.fieldLocs frame_1_writes args s ++ Jvm.arrayLocs frame_1_arrays args s ++ Jvm.staticLocs frame_1_statics s) 0 0 → Post tb e args s (.returned v) u) :
    ArmFor flags0 classFile x code maxLocals ret World_1 tables_1 room_1 Calls_1 rest_1 Pre_1 Post := by
  intro l hfl _ _ p e ha hc hk s m args below hf hA hF happ hP
  obtain ⟨hcalls, hrest, hpre⟩ := hP
  obtain ⟨-, -, -, hnamed, -, -, -, hat⟩ := (Spec.applies_iff hf).mp happ
  obtain ⟨hg, hn⟩ := and_e (Cond.before_iff.mp (show (Jvm.Cond.and given_1 narrow_1).before args s = true from hpre))
  obtain ⟨g5, g6⟩ := and_e hg
  obtain ⟨g7, g8⟩ := and_e g6
  obtain ⟨w0, w1, rfl⟩ : ∃ w0 w1 : Value, args = #[w0, w1] := by
    have hs : args.size = 2 := by simpa [Cond.value, given_1] using g5
    obtain ⟨L⟩ := args
    match L, hs with
    | [w0, w1], _ => exact ⟨w0, w1, rfl⟩
  have hw := fun d (hd : d ∈ tables_1) => atoms_spec (ws := Jvm.Cond.code x code maxLocals ret :: tables_1) hat d (List.mem_cons_of_mem _ hd)
  have hfit : Fit s := fun {y c} hc i hi => by
    obtain ⟨ha, rfl⟩ := Array.getElem?_eq_some_iff.mp hc
    have q := List.all_eq_true.mp ((Array.all_eq_true_iff_forall_mem.mp hF) _ (Array.getElem_mem ha)) i (List.mem_range.mpr hi)
    simpa [Array.getElem?_eq_getElem hi] using q
  obtain ⟨i0, ei0⟩ := is_v g7
  obtain rfl : w0 = (.int i0) := Option.some.inj ei0
  obtain ⟨i1, ei1⟩ := is_v g8
  obtain rfl : w1 = (.int i1) := Option.some.inj ei1
  obtain ⟨a0', n0'⟩ := and_e hn
  obtain ⟨c0, m0⟩ := and_e n0'
  obtain ⟨c1, m1⟩ := and_e m0
  obtain ⟨c2, m2⟩ := and_e m1
  obtain ⟨c3, m3⟩ := and_e m2
  obtain ⟨c4, m4⟩ := and_e m3
  obtain ⟨c5, m5⟩ := and_e m4
  obtain ⟨c6, m6⟩ := and_e m5
  obtain ⟨c7, m7⟩ := and_e m6
  obtain ⟨c8, m8⟩ := and_e m7
  obtain ⟨c9, m9⟩ := and_e m8
  obtain ⟨c10, m10⟩ := and_e m9
  obtain ⟨c11, m11⟩ := and_e m10
  obtain ⟨c12, m12⟩ := and_e m11
  obtain ⟨c13, m13⟩ := and_e m12
  obtain ⟨c14, m14⟩ := and_e m13
  obtain ⟨c15, m15⟩ := and_e m14
  obtain ⟨c16, m16⟩ := and_e m15
  obtain ⟨c17, m17⟩ := and_e m16
  obtain ⟨c18, m18⟩ := and_e m17
  obtain ⟨b, eb⟩ := arr_v a0'
  obtain ⟨cl, A⟩ := Arr.start eb a0'
  have hA : s.arrayAt? b = some cl := A.fin (Vm.Alike.refl _)
  have S := own_size eb hA (eqv_i (Term.int_eval _) c0)
  have G : ∀ j : Int32, ¬ j < 0 → j < (128 : Int32) → cl.slots[j.toNatClampNeg]? = some (.int (atv cl j)) := fun j q0 q1 => by
    obtain ⟨v, e1, e2⟩ := elem_fit hfit A (inb_of S ⟨q0, q1⟩)
    obtain ⟨x, rfl⟩ := fit_I e2 (by simp)
    simp [atv, e1]
  have et : ∀ idx, (Jvm.Term.static "com/example/provenant/provenant/rdf/Term$Iri" "ALLOWED" "[Z").eval #[Value.int i0, Value.int i1] s none idx s = some (.ref b) := fun _ => eb
  have r33 : ∀ j : Int32, ¬ j < 0 → j < (128 : Int32) → (33 : Int32) ≤ j ∨ atv cl j = (0 : Int32) := own_al1 et hA S G c1
  have k33 : atv cl (33 : Int32) = (1 : Int32) := own_cst eb hA G (by decide) (by decide) c2
  have k34 : atv cl (34 : Int32) = (0 : Int32) := own_cst eb hA G (by decide) (by decide) c3
  have r35 : ∀ j : Int32, ¬ j < 0 → j < (128 : Int32) → j < (35 : Int32) ∨ ¬ j < (60 : Int32) ∨ atv cl j = (1 : Int32) := own_al2 et hA S G c4
  have k60 : atv cl (60 : Int32) = (0 : Int32) := own_cst eb hA G (by decide) (by decide) c5
  have k61 : atv cl (61 : Int32) = (1 : Int32) := own_cst eb hA G (by decide) (by decide) c6
  have k62 : atv cl (62 : Int32) = (0 : Int32) := own_cst eb hA G (by decide) (by decide) c7
  have r63 : ∀ j : Int32, ¬ j < 0 → j < (128 : Int32) → j < (63 : Int32) ∨ ¬ j < (92 : Int32) ∨ atv cl j = (1 : Int32) := own_al2 et hA S G c8
  have k92 : atv cl (92 : Int32) = (0 : Int32) := own_cst eb hA G (by decide) (by decide) c9
  have k93 : atv cl (93 : Int32) = (1 : Int32) := own_cst eb hA G (by decide) (by decide) c10
  have k94 : atv cl (94 : Int32) = (0 : Int32) := own_cst eb hA G (by decide) (by decide) c11
  have k95 : atv cl (95 : Int32) = (1 : Int32) := own_cst eb hA G (by decide) (by decide) c12
  have k96 : atv cl (96 : Int32) = (0 : Int32) := own_cst eb hA G (by decide) (by decide) c13
  have r97 : ∀ j : Int32, ¬ j < 0 → j < (128 : Int32) → j < (97 : Int32) ∨ ¬ j < (123 : Int32) ∨ atv cl j = (1 : Int32) := own_al2 et hA S G c14
  have k123 : atv cl (123 : Int32) = (0 : Int32) := own_cst eb hA G (by decide) (by decide) c15
  have k124 : atv cl (124 : Int32) = (0 : Int32) := own_cst eb hA G (by decide) (by decide) c16
  have k125 : atv cl (125 : Int32) = (0 : Int32) := own_cst eb hA G (by decide) (by decide) c17
  have k126 : atv cl (126 : Int32) = (1 : Int32) := own_cst eb hA G (by decide) (by decide) c18
  have k127 : atv cl (127 : Int32) = (1 : Int32) := own_cst eb hA G (by decide) (by decide) m18
  have hfl := own_fill (atv cl) r33 r35 r63 r97 k33 k34 k60 k61 k62 k92 k93 k94 k95 k96 k123 k124 k125 k126 k127
  obtain ⟨n, o, h1, h2, h3, _, L, rfl, ⟨rfl, N⟩, hq⟩ := rm0 l s _ hw tables_1 i0 i1 b (atv cl) s.heap s.heap.size (Nat.le_refl _) (Sta.start eb (Or.inr ⟨own_w hw 3 rfl, own_w hw 6 rfl⟩)) ⟨cl, A, S, by decide, G⟩ hfl p e ha hc hk s m _ below hf ((Spec.applies_iff_loose hf).mp happ).1 ⟨rfl, State.Warmed39.refl s, rfl⟩ trivial
  refine ⟨n, _, h1, h2, h3, hpost _ _ _ _ _ _ ⟨Cond.after_iff.mpr rfl, Cond.after_iff.mpr (eq_i res_at (Term.int_eval (1)) rfl), trivial⟩ ⟨hq.1, hq.2.1, (hq.2.2.sift fun y hy => Or.inr (N y hy)).mono (by decide) (by decide)⟩⟩
theorem main_1_1 : Claimed_1_1 := comes_1 fun _ _ _ _ _ _ h hF => ⟨h.1, hF⟩
theorem main_1_2 : Claimed_1_2 := comes_1 fun _ _ _ _ _ _ h hF => ⟨h.2.1, hF⟩
end Jvm.Pilot.@@N@@
namespace Jvm.Pilot.@@N@@
open Jvm Jvm.ClassFile Sem Op Lib Jvm.Free Jvm.Stand Jvm.Pilot.@@N@@.Jvm.D
/-! MADE BY PROGRAM (witnessworld.py) out of the Statement's table words and the real class files: 13 classes; the members and pool entries that the words name. The judged class is class 1, her method 2. -/
namespace start1
open Jvm.ClassFile
def u (s : String) : CpInfo := .utf8 (stringToUtf16 s)
/-- a pool by its gaps: so many unusable entries, then the entry; so many at the end -/
def gap : Nat → List CpInfo → List CpInfo
  | 0, r => r
  | n + 1, r => .unusable :: gap n r
def poolList (es : List (Nat × CpInfo)) (last : Nat) : List CpInfo := es.foldr (fun e r => gap e.1 (e.2 :: r)) (gap last [])
def pool (es : List (Nat × CpInfo)) (last : Nat) : Array CpInfo := ⟨poolList es last⟩
def fileOf (pool : Array CpInfo) (this : Nat) (attrs : Array Attribute := #[]) (ms : Array MethodInfo := #[]) (fl : Nat := 33) (sup : Nat := 0) (ifs : Array Nat := #[]) (fds : Array FieldInfo := #[]) : ClassFile where
  minorVersion := 0
  majorVersion := 65
  constantPool := pool
  accessFlags := fl
  thisClass := this
  superClass := sup
  interfaces := ifs
  fields := fds
  methods := ms
  attributes := attrs
def plain (name : String) (sup : Option ClassId) : Class where
  name := name
  kind := .ordinary
  loader := none
  accessFlags := 33
  super := sup
  interfaces := #[]
  cf := none
  fields := #[]
  methods := #[]
  instanceTypes := #[]
  staticTypes := #[]
  resolved := #[]
  callSites := []
  init := .initialized
  statics := none
  mirror := none

def pool0 : Array CpInfo := pool [(5, u "<init>"), (0, u "()V"), (1, .class_ 10), (1, u "java/lang/Object")] 113

def k0m0 : Method := { name := "<init>", desc := "()V", sig := { parameters := [], returnType := none }, accessFlags := 1, code := none }
/-- java/lang/Object -/
def k0 : Class := { plain "java/lang/Object" none with
  accessFlags := 33
  interfaces := #[]
  cf := some (fileOf pool0 8 #[] #[{ accessFlags := 1, nameIndex := 5, descriptorIndex := 6, attributes := #[] }] 33 0 #[] #[])
  fields := #[]
  methods := #[k0m0]
  instanceTypes := #[]
  staticTypes := #[]
  resolved := Array.replicate 124 none
  statics := none }

def pool1 : Array CpInfo := pool [(2, .class_ 4), (1, u "java/lang/Object"), (0, u "<init>"), (0, u "()V"), (0, .integer 65535), (0, .integer 2147483647), (0, .methodref 10 11), (0, .class_ 12), (0, .nameAndType 13 14), (0, u "com/example/provenant/provenant/rdf/Term$Iri"), (0, u "allows"), (0, u "(I)Z"), (0, .methodref 16 17), (0, .class_ 18), (0, .nameAndType 19 14), (0, u "com/example/provenant/provenant/rdf/IriAllowsPinLaw"), (0, u "expected"), (3, u "law"), (0, u "(II)Z")] 6

def k1m0 : Method := { name := "<init>", desc := "()V", sig := { parameters := [], returnType := none }, accessFlags := 1, code := none }
def k1c1 : Code := { maxStack := 2, maxLocals := 1, code := method_2_code, exceptionTable := #[], attributes := #[] }
def k1m1 : Method := { name := "expected", desc := "(I)Z", sig := { parameters := [.int], returnType := some .boolean }, accessFlags := 10, code := some k1c1 }
def k1c2 : Code := { maxStack := 2, maxLocals := 4, code := code, exceptionTable := #[], attributes := #[] }
def k1m2 : Method := { name := "law", desc := "(II)Z", sig := { parameters := [.int, .int], returnType := some .boolean }, accessFlags := 9, code := some k1c2 }
/-- com/example/provenant/provenant/rdf/IriAllowsPinLaw -/
def k1 : Class := { plain "com/example/provenant/provenant/rdf/IriAllowsPinLaw" (some 0) with
  accessFlags := 49
  interfaces := #[]
  cf := some (fileOf pool1 16 #[] #[{ accessFlags := 1, nameIndex := 5, descriptorIndex := 6, attributes := #[] }, { accessFlags := 10, nameIndex := 19, descriptorIndex := 14, attributes := #[] }, { accessFlags := 9, nameIndex := 23, descriptorIndex := 24, attributes := #[] }] 49 2 #[] #[])
  fields := #[]
  methods := #[k1m0, k1m1, k1m2]
  instanceTypes := #[]
  staticTypes := #[]
  resolved := Array.replicate 31 none
  statics := none }

def pool2 : Array CpInfo := pool [(2, .class_ 4), (1, u "java/lang/Object"), (0, u "<init>"), (0, u "()V"), (0, .class_ 8), (0, u "java/lang/Record")] 13

def k2m0 : Method := { name := "<init>", desc := "()V", sig := { parameters := [], returnType := none }, accessFlags := 4, code := none }
/-- java/lang/Record -/
def k2 : Class := { plain "java/lang/Record" (some 0) with
  accessFlags := 1057
  interfaces := #[]
  cf := some (fileOf pool2 7 #[] #[{ accessFlags := 4, nameIndex := 5, descriptorIndex := 6, attributes := #[] }] 1057 2 #[] #[])
  fields := #[]
  methods := #[k2m0]
  instanceTypes := #[]
  staticTypes := #[]
  resolved := Array.replicate 22 none
  statics := none }

def pool3 : Array CpInfo := pool [(1, .class_ 2), (0, u "com/example/provenant/provenant/rdf/Term"), (0, .class_ 4), (0, u "java/lang/Object"), (3, .class_ 9), (0, u "com/example/provenant/provenant/rdf/Term$Literal"), (0, .class_ 11), (0, u "com/example/provenant/provenant/rdf/Term$BlankNode"), (0, .class_ 13), (0, u "com/example/provenant/provenant/rdf/Term$Iri")] 5

/-- com/example/provenant/provenant/rdf/Term -/
def k3 : Class := { plain "com/example/provenant/provenant/rdf/Term" (some 0) with
  accessFlags := 1537
  interfaces := #[]
  cf := some (fileOf pool3 1 #[.nestMembers #[8, 10, 12]] #[] 1537 3 #[] #[])
  fields := #[]
  methods := #[]
  instanceTypes := #[]
  staticTypes := #[]
  resolved := Array.replicate 19 none
  statics := none }

def pool4 : Array CpInfo := pool [(2, .class_ 4), (1, u "java/lang/Record"), (3, u "value"), (7, .class_ 18), (1, u "com/example/provenant/provenant/rdf/Term$Iri"), (13, u "Ljava/lang/String;"), (0, .fieldref 16 34), (0, .nameAndType 35 36), (0, u "ALLOWED"), (0, u "[Z"), (12, u "allows"), (0, u "(I)Z"), (18, .class_ 70), (0, u "com/example/provenant/provenant/rdf/Term")] 36

def k4c0 : Code := { maxStack := 2, maxLocals := 1, code := prog_131_method_2_code, exceptionTable := #[], attributes := #[] }
def k4m0 : Method := { name := "allows", desc := "(I)Z", sig := { parameters := [.int], returnType := some .boolean }, accessFlags := 8, code := some k4c0 }
/-- com/example/provenant/provenant/rdf/Term$Iri -/
def k4 : Class := { plain "com/example/provenant/provenant/rdf/Term$Iri" (some 2) with
  accessFlags := 49
  interfaces := #[3]
  cf := some (fileOf pool4 16 #[.nestHost 69] #[{ accessFlags := 8, nameIndex := 49, descriptorIndex := 50, attributes := #[] }] 49 2 #[69] #[{ accessFlags := 18, nameIndex := 8, descriptorIndex := 32, attributes := #[] }, { accessFlags := 26, nameIndex := 35, descriptorIndex := 36, attributes := #[] }])
  fields := #[{ name := "value", type := (.object "java/lang/String"), accessFlags := 18, slot := 0, constantValue := 0 }, { name := "ALLOWED", type := (.array .boolean), accessFlags := 26, slot := 0, constantValue := 0 }]
  methods := #[k4m0]
  instanceTypes := #[(.object "java/lang/String")]
  staticTypes := #[(.array .boolean)]
  resolved := Array.replicate 107 none
  statics := some 0 }

def pool5 : Array CpInfo := pool [(1, u "java/lang/Cloneable"), (0, .class_ 1), (0, u "java/lang/Object"), (0, .class_ 3)] 3

/-- java/lang/Cloneable -/
def k5 : Class := { plain "java/lang/Cloneable" (some 0) with
  accessFlags := 1537
  interfaces := #[]
  cf := some (fileOf pool5 2 #[] #[] 1537 4 #[] #[])
  fields := #[]
  methods := #[]
  instanceTypes := #[]
  staticTypes := #[]
  resolved := Array.replicate 8 none
  statics := none }

def pool6 : Array CpInfo := pool [(1, u "java/io/Serializable"), (0, .class_ 1), (0, u "java/lang/Object"), (0, .class_ 3)] 3

/-- java/io/Serializable -/
def k6 : Class := { plain "java/io/Serializable" (some 0) with
  accessFlags := 1537
  interfaces := #[]
  cf := some (fileOf pool6 2 #[] #[] 1537 4 #[] #[])
  fields := #[]
  methods := #[]
  instanceTypes := #[]
  staticTypes := #[]
  resolved := Array.replicate 8 none
  statics := none }

/-- the primitive boolean -/
def k7 : Class := { plain "boolean" none with kind := .primitive 'Z', accessFlags := 0x411 }
/-- [Z -/
def k8 : Class := { plain "[Z" (some 0) with kind := .array 7 .boolean, interfaces := #[5, 6], accessFlags := 1041 }

/-- the primitive byte -/
def k9 : Class := { plain "byte" none with kind := .primitive 'B', accessFlags := 0x411 }
/-- [B -/
def k10 : Class := { plain "[B" (some 0) with kind := .array 9 .byte, interfaces := #[5, 6], accessFlags := 1041 }

/-- the primitive int -/
def k11 : Class := { plain "int" none with kind := .primitive 'I', accessFlags := 0x411 }
/-- [I -/
def k12 : Class := { plain "[I" (some 0) with kind := .array 11 .int, interfaces := #[5, 6], accessFlags := 1041 }

def heap : Heap := #[{ cls := 4, slots := #[.ref 1], vm := .statics 4 },
  { cls := 8, slots := #[.int 0, .int 0, .int 0, .int 0, .int 0, .int 0, .int 0, .int 0, .int 0, .int 0, .int 0, .int 0, .int 0, .int 0, .int 0, .int 0, .int 0, .int 0, .int 0, .int 0, .int 0, .int 0, .int 0, .int 0, .int 0, .int 0, .int 0, .int 0, .int 0, .int 0, .int 0, .int 0, .int 0, .int 1, .int 0, .int 1, .int 1, .int 1, .int 1, .int 1, .int 1, .int 1, .int 1, .int 1, .int 1, .int 1, .int 1, .int 1, .int 1, .int 1, .int 1, .int 1, .int 1, .int 1, .int 1, .int 1, .int 1, .int 1, .int 1, .int 1, .int 0, .int 1, .int 0, .int 1, .int 1, .int 1, .int 1, .int 1, .int 1, .int 1, .int 1, .int 1, .int 1, .int 1, .int 1, .int 1, .int 1, .int 1, .int 1, .int 1, .int 1, .int 1, .int 1, .int 1, .int 1, .int 1, .int 1, .int 1, .int 1, .int 1, .int 1, .int 1, .int 0, .int 1, .int 0, .int 1, .int 0, .int 1, .int 1, .int 1, .int 1, .int 1, .int 1, .int 1, .int 1, .int 1, .int 1, .int 1, .int 1, .int 1, .int 1, .int 1, .int 1, .int 1, .int 1, .int 1, .int 1, .int 1, .int 1, .int 1, .int 1, .int 1, .int 1, .int 0, .int 0, .int 0, .int 1, .int 1], vm := .none }]
def classes : Array Class := #[k0, k1, k2, k3, k4, k5, k6, k7, k8, k9, k10, k11, k12]
def interned : List (Array UInt16 × Addr) := []
def slotsUsed : Nat := 129
def theMethod : MethodId := ⟨1, 2⟩
def args0 : Array Value := #[.int 65, .int 2]
def aboutOver (below : List Frame) : State where
  vm := { classes := classes, interned := interned.toArray }
  heap := heap
  slotsUsed := slotsUsed
  threads := #[{ frames := .invoking theMethod args0 :: below }]
def below0 : List Frame := [.native { method := ⟨0, 0⟩, args := #[] }]
def about1 : State := aboutOver below0
def p0 : Program := .bare "" "" ""
def e0 : Env := launch0.env 0 0 0
theorem w_frames : about1.frames = Frame.invoking theMethod args0 :: below0 := rfl
set_option maxRecDepth 65536 in
theorem w_args : argsFit about1.vm theMethod args0 = true := by decide +kernel
set_option maxRecDepth 65536 in
theorem w_heap : heapFits about1 = true := by decide +kernel
set_option maxRecDepth 65536 in
theorem w_runnable : about1.curStatus? = some .runnable := by decide +kernel
set_option maxRecDepth 65536 in
theorem w_alone : about1.alone = true := by decide +kernel
set_option maxRecDepth 65536 in
theorem w_named : about1.methodNamed? x = some theMethod := by decide +kernel
set_option maxRecDepth 65536 in
theorem w_hears : about1.hears theMethod below0 = true := by decide +kernel
set_option maxRecDepth 65536 in
theorem w_ripe : about1.ripe theMethod args0 below0 = true := by decide +kernel
theorem w_running : about1.status = .running := rfl
set_option maxRecDepth 65536 in
theorem w_room : about1.hasRoom e0.platform room_1 = true :=
  launch0.hasRoom_least _ room_1 (by decide +kernel) (by decide +kernel) (by decide +kernel) (by decide +kernel) (by decide +kernel) (by decide +kernel)
theorem allAtoms_all (ts : List Jvm.Cond) (a : Array Jvm.Value) (st : Jvm.State) : (allAtoms ts).before a st = ts.all (fun c => c.before a st) := by
  induction ts with
  | nil => rfl
  | cons c t ih =>
    show (Jvm.Cond.and c (allAtoms t)).before a st = _
    rw [Jvm.Cond.before_and, ih, List.all_cons]
def words1 : List Jvm.Cond := Jvm.Cond.code x code maxLocals ret :: tables_1
/-- a 'code' word, met by the world's own term for the bytes: nothing is compared byte by byte -/
theorem code_word {y : MethodName} {bytes : ByteArray} {mx : Nat} {rt : Option FieldType} {a : Array Value} {s : State} {m : MethodId} {meth : Method} {c : Code} (h1 : s.methodNamed? y = some m) (h2 : s.vm.method? m = some meth) (h3 : meth.code = some c) (h4 : c.code = bytes)
    (h5 : (c.maxLocals == mx && c.exceptionTable.isEmpty && decide (c.maxStack ≤ mostOperands) && decide (meth.sig.returnType = rt) && !meth.locks && decide (parseMethodDescriptor y.desc = some meth.sig)) = true) : (Jvm.Cond.code y bytes mx rt).before a s = true := by
  simp only [Bool.and_eq_true, beq_iff_eq, Bool.not_eq_true', decide_eq_true_eq] at h5
  obtain ⟨⟨⟨⟨⟨g1, g2⟩, g3⟩, g4⟩, g5⟩, g6⟩ := h5
  simp [Cond.before, Cond.holds, Cond.value, h1, h2, h3, h4, g1, g2, g3, g4, g5, g6]
def isCode : Jvm.Cond → Bool
  | .code _ _ _ _ => true
  | _ => false
theorem all_split {L : List Jvm.Cond} {P : Jvm.Cond → Bool} (h1 : L.all (fun c => isCode c || P c) = true) (h2 : ∀ c ∈ L.filter isCode, P c = true) : L.all P = true := by
  refine List.all_eq_true.mpr fun c hc => ?_
  have h := List.all_eq_true.mp h1 c hc
  rcases Bool.eq_false_or_eq_true (isCode c) with hi | hi
  · exact h2 c (List.mem_filter.mpr ⟨hc, hi⟩)
  · simpa [hi] using h
set_option maxRecDepth 65536 in
theorem w_c0 : (Jvm.Cond.code x code maxLocals ret).before args0 about1 = true := code_word (m := ⟨1, 2⟩) (meth := k1m2) (c := k1c2) (by decide +kernel) rfl rfl rfl (by decide +kernel)
set_option maxRecDepth 65536 in
theorem w_c1 : (Jvm.Cond.code ({ cls := "com/example/provenant/provenant/rdf/Term$Iri", name := "allows", desc := "(I)Z" } : Jvm.MethodName) prog_131_method_2_code (1 : Nat) (Option.some Jvm.ClassFile.FieldType.boolean)).before args0 about1 = true := code_word (m := ⟨4, 0⟩) (meth := k4m0) (c := k4c0) (by decide +kernel) rfl rfl rfl (by decide +kernel)
set_option maxRecDepth 65536 in
theorem w_c2 : (Jvm.Cond.code ({ cls := "com/example/provenant/provenant/rdf/IriAllowsPinLaw", name := "expected", desc := "(I)Z" } : Jvm.MethodName) method_2_code (1 : Nat) (Option.some Jvm.ClassFile.FieldType.boolean)).before args0 about1 = true := code_word (m := ⟨1, 1⟩) (meth := k1m1) (c := k1c1) (by decide +kernel) rfl rfl rfl (by decide +kernel)
def codes1 : List Jvm.Cond := [Jvm.Cond.code x code maxLocals ret, Jvm.Cond.code ({ cls := "com/example/provenant/provenant/rdf/Term$Iri", name := "allows", desc := "(I)Z" } : Jvm.MethodName) prog_131_method_2_code (1 : Nat) (Option.some Jvm.ClassFile.FieldType.boolean), Jvm.Cond.code ({ cls := "com/example/provenant/provenant/rdf/IriAllowsPinLaw", name := "expected", desc := "(I)Z" } : Jvm.MethodName) method_2_code (1 : Nat) (Option.some Jvm.ClassFile.FieldType.boolean)]
set_option maxRecDepth 65536 in
theorem codes_eq : words1.filter isCode = codes1 := rfl
theorem w_codes : ∀ c ∈ words1.filter isCode, c.before args0 about1 = true := by
  rw [codes_eq]
  intro c hc
  simp only [codes1, List.mem_cons, List.not_mem_nil, or_false] at hc
  rcases hc with rfl | rfl | rfl
  · exact w_c0
  · exact w_c1
  · exact w_c2
set_option maxRecDepth 65536 in
theorem w_t1 : words1.all (fun c => isCode c || c.before args0 about1) = true := by decide +kernel
theorem w_tables : (allAtoms (Jvm.Cond.code x code maxLocals ret :: tables_1)).before args0 about1 = true := by
  rw [allAtoms_all]
  show words1.all (fun c => c.before args0 about1) = true
  refine all_split ?_ w_codes
  rw [w_t1]
set_option maxRecDepth 65536 in
theorem w_case : (Jvm.Cond.and given_1 narrow_1).before args0 about1 = true := by decide +kernel
theorem w_applies : (headSpec (Jvm.Cond.code x code maxLocals ret :: tables_1) room_1).applies x e0.platform about1 = true :=
  (Spec.applies_iff w_frames).mpr ⟨w_running, w_runnable, w_alone, w_named, w_hears, w_ripe, w_room, w_tables⟩
theorem atStart : AtStart classFile x code maxLocals ret World_1 tables_1 room_1 Calls_1 rest_1 Pre_1 launch0 p0 e0 about1 theMethod args0 below0 :=
  ⟨lists_1, trivial, launch0.admits_env _ _ _, launch0.least_env, fairChoices_fair.cas, fairChoices_fair.clock, w_frames, w_args, w_heap, w_applies, trivial, trivial, w_case⟩
end start1
theorem witness_1 : WitnessClaimed_1 := ⟨start1.p0, start1.e0, start1.about1, start1.theMethod, start1.args0, start1.below0, start1.atStart⟩
end Jvm.Pilot.@@N@@
