import JvmDerived
import JvmDerived.Pilot.@@N@@Statement
import JvmDerived.Pilot.@@N@@Code
set_option linter.unusedVariables false
set_option linter.unusedSimpArgs false
namespace Jvm.RoadKit
open Sem ClassFile Op Lib Jvm.Stand Jvm.Free Jvm.LawKit
section New
variable {p : Program} {l : Launch} {e : Env} {R : Room} {s : State} {m : MethodId} {args : Array Value} {below : List Frame} {meth : Method} {c : Code} {T : State} {locs : List Loc} {cells slots : Nat}
theorem retI (X : Stand p l e R s m args below meth c T locs cells slots) (hx : p.tables.exec = Jvm.exec) {pc : Nat} {Ls : Array Slot} {z : Int32} {rest : List Value} (hret : meth.sig.returnType = some .int) (hd : decode c.code pc = .ok (.ireturn, 1)) {fs : List Frame}
    (hl : ∀ (f : JFrame) (acts : List Action), f.method = m → f.locked = none → f.entered = [] → (doReturn e (T.setTop f) acts (some (.int z))).1 = T.setFrames fs) : Steps p.tables e below (T.setTop (mkF m pc Ls (.int z :: rest))) (T.setFrames fs) := by
  have hm' : T.vm.method? m = some meth := X.method'
  have hn : narrow .int (.int z) = .int z := rfl
  show Steps p.tables e below (T.setTop { method := m, pc := pc, locals := Ls, stack := _ :: rest, locked := none }) _
  jvm_step X.here [X.here.top, hx, hd, hm', hret, hn]
  first | (intro acts; rw [hl _ acts rfl rfl rfl]) | rw [hl _ _ rfl rfl rfl]
  exact Steps.refl _
end New
end Jvm.RoadKit
namespace Jvm.Pilot.@@N@@
open Jvm Jvm.ClassFile Sem Op Lib Jvm.Free Jvm.Stand Jvm.LawKit Jvm.RoadKit Bundle Jvm.Pilot.@@N@@.Jvm.D
theorem own_w {Z : State} {a0 : Array Value} (hw : ∀ d ∈ tables_1, d.before a0 Z = true) (i : Nat) {d : Jvm.Cond} (h : tables_1[i]? = some d) : d.before a0 Z = true := hw _ (List.mem_of_getElem? h)
/-! int arrays: what each place holds, as a function of the place -/
def own_zero : Int32 → Int32 := fun _ => 0
def own_upd (f : Int32 → Int32) (j v : Int32) : Int32 → Int32 := fun i => if i = j then v else f i
def own_arr (Z : State) (h : Heap) (b : Nat) (n : Int32) (f : Int32 → Int32) : Prop := ∃ c : Cell, Arr Z h b c .int ∧ c.slots.size = n.toNatClampNeg ∧ ¬ n < 0 ∧ ∀ j : Int32, ¬ j < 0 → j < n → c.slots[j.toNatClampNeg]? = some (.int (f j))
theorem own_arr_lt {Z : State} {h : Heap} {b : Nat} {n : Int32} {f : Int32 → Int32} (V : own_arr Z h b n f) : b < h.size := by obtain ⟨c, A, -⟩ := V; exact A.lt
theorem own_arr_ext {Z : State} {h h' : Heap} {b : Nat} {n : Int32} {f : Int32 → Int32} (V : own_arr Z h b n f) (E : Ext h h') : own_arr Z h' b n f := by obtain ⟨c, A, r⟩ := V; exact ⟨c, A.ext E, r⟩
theorem own_arr_other {Z : State} {h h' : Heap} {a b : Nat} {sl : Nat} {v : Value} {n : Int32} {f : Int32 → Int32} (V : own_arr Z h b n f) (W : Wr h h' a sl v) (q : b ≠ a) : own_arr Z h' b n f := by obtain ⟨c, A, r⟩ := V; exact ⟨c, A.other W q, r⟩
theorem own_arr_keep {Z : State} {h h' : Heap} {b : Nat} {ws : List Addr} {n : Int32} {f : Int32 → Int32} (V : own_arr Z h b n f) (K : Keep h h' ws) (q : b ∉ ws) : own_arr Z h' b n f := by obtain ⟨c, A, r⟩ := V; exact ⟨c, ⟨K.2.1 b c A.1 q, A.2⟩, r⟩
theorem own_arr_same {Z : State} {h h' : Heap} {b : Nat} {j v n : Int32} {f : Int32 → Int32} (V : own_arr Z h b n f) (W : Wr h h' b j.toNatClampNeg (.int v)) (hj : ¬ j < 0) (hn : j < n) : own_arr Z h' b n (own_upd f j v) := by
  obtain ⟨c, A, S, N, G⟩ := V
  refine ⟨_, A.same W, by rw [sz_set]; exact S, N, fun i hi hin => ?_⟩
  by_cases q : i = j
  · rw [get_hit (inb_of S ⟨hj, hn⟩) q]
    unfold own_upd
    rw [if_pos q]
  · rw [get_miss hj hi q, G i hi hin]
    unfold own_upd
    rw [if_neg q]
theorem own_arr_new {Z : State} {h : Heap} {b : Nat} {k : ClassId} {n : Int32} (A : Arr Z h b (newA k .int n) .int) (q : ¬ n < 0) : own_arr Z h b n own_zero :=
  ⟨_, A, sz_new _ _ _, q, fun j hj hn => get_new (by have := inb_of (c := newA k .int n) (sz_new _ _ _) ⟨hj, hn⟩; rwa [sz_new] at this)⟩
section Steps
variable {p : Program} {l : Launch} {e : Env} {R : Room} {s : State} {m : MethodId} {args : Array Value} {below : List Frame} {meth : Method} {c : Code} {T : State} {locs : List Loc} {cells slots : Nat} {Z : State} {h : Heap}
theorem own_ld (X : Stand p l e R s m args below meth c T locs cells slots) (hx : p.tables.exec = Jvm.exec) (hZ : Z.Warmed39 s.vm) (eT : T.heap = h) {b : Nat} {n : Int32} {f : Int32 → Int32} (V : own_arr Z h b n f) {j : Int32} (hj : ¬ j < 0) (hn : j < n) {g : JFrame} (hg : g.method = m) {rest : List Value} (hs : g.stack = .int j :: .ref b :: rest) (hd : decode c.code g.pc = .ok (.iaload, 1)) (target : State)
    (hr : Steps p.tables e below (T.setTop { g with pc := g.pc + 1, stack := .int (f j) :: rest }) target) : Steps p.tables e below (T.setTop g) target := by
  obtain ⟨cl, A, S, N, G⟩ := V
  exact X.iaload hx (by rw [eT]; exact A.1) (State.isArrayOf_alike hZ.alike A.2.1) A.2.2 (inb_of S ⟨hj, hn⟩) (G j hj hn) hg hs hd target hr
theorem own_len (X : Stand p l e R s m args below meth c T locs cells slots) (hx : p.tables.exec = Jvm.exec) (hZ : Z.Warmed39 s.vm) (eT : T.heap = h) {b : Nat} {n : Int32} {f : Int32 → Int32} (V : own_arr Z h b n f) {g : JFrame} (hg : g.method = m) {rest : List Value} (hs : g.stack = .ref b :: rest) (hd : decode c.code g.pc = .ok (.arraylength, 1)) (target : State)
    (hr : Steps p.tables e below (T.setTop { g with pc := g.pc + 1, stack := .int n :: rest }) target) : Steps p.tables e below (T.setTop g) target := by
  obtain ⟨cl, A, S, N, G⟩ := V
  refine X.arraylength hx (by rw [eT]; exact A.1) (State.isArrayOf_alike hZ.alike A.2.1) hg hs hd target ?_
  rw [len_of S N]
  exact hr
theorem own_st (X : Stand p l e R s m args below meth c T locs cells slots) (hx : p.tables.exec = Jvm.exec) (hZ : Z.Warmed39 s.vm) (eT : T.heap = h) {b : Nat} {n : Int32} {f : Int32 → Int32} (V : own_arr Z h b n f) {j x : Int32} (hj : ¬ j < 0) (hn : j < n) {g : JFrame} (hg : g.method = m) {rest : List Value} (hs : g.stack = .int x :: .int j :: .ref b :: rest) (hd : decode c.code g.pc = .ok (.iastore, 1)) :
    ∃ T' h', Stand p l e R s m args below meth c T' (locs ++ [⟨b, j.toNatClampNeg⟩]) cells slots ∧ T'.heap = h' ∧ Wr h h' b j.toNatClampNeg (.int x) ∧ ∀ target, Steps p.tables e below (T'.setTop { g with pc := g.pc + 1, stack := rest }) target → Steps p.tables e below (T.setTop g) target := by
  obtain ⟨cl, A, S, N, G⟩ := V
  exact stI X hx hZ eT A (inb_of S ⟨hj, hn⟩) hg hs hd
end Steps
/-! the object: its class, its four arrays (heads, sizes, next, previous), which lie one behind the other -/
def own_L (Z : State) (n0 : Nat) (h : Heap) (a b1 b2 b3 b4 : Nat) (fH fS fN fP : Int32 → Int32) : Prop :=
  Exa Z h a "com/example/process_stepper/processstepper/equivalence/IntLists" ∧ (Fld Z h a "com/example/process_stepper/processstepper/equivalence/IntLists" "heads" "[I" (.ref b1) ∧ Fld Z h a "com/example/process_stepper/processstepper/equivalence/IntLists" "sizes" "[I" (.ref b2) ∧ Fld Z h a "com/example/process_stepper/processstepper/equivalence/IntLists" "next" "[I" (.ref b3) ∧ Fld Z h a "com/example/process_stepper/processstepper/equivalence/IntLists" "previous" "[I" (.ref b4)) ∧
  (own_arr Z h b1 2 fH ∧ own_arr Z h b2 2 fS ∧ own_arr Z h b3 3 fN ∧ own_arr Z h b4 3 fP) ∧ (a < b1 ∧ b1 < b2 ∧ b2 < b3 ∧ b3 < b4) ∧ n0 ≤ b1
theorem own_ret {p : Program} {e : Env} {below : List Frame} {T target : State} {m : MethodId} {pc : Nat} {Ls : Array Slot} {rest : List Value} {z w : Int32} (h : z = w) (k : Steps p.tables e below (T.setTop (mkF m pc Ls (.int z :: rest))) target) : Steps p.tables e below (T.setTop (mkF m pc Ls (.int w :: rest))) target := h ▸ k
section Lists
variable {Z : State} {n0 : Nat} {h h' : Heap} {a b1 b2 b3 b4 : Nat} {fH fS fN fP : Int32 → Int32}
theorem own_L_g (V : own_L Z n0 h a b1 b2 b3 b4 fH fS fN fP) : n0 ≤ b1 ∧ n0 ≤ b2 ∧ n0 ≤ b3 ∧ n0 ≤ b4 := by
  obtain ⟨-, -, -, o, g⟩ := V
  omega
theorem own_L_lt (V : own_L Z n0 h a b1 b2 b3 b4 fH fS fN fP) : b4 < h.size := own_arr_lt V.2.2.1.2.2.2
theorem own_L_lta (V : own_L Z n0 h a b1 b2 b3 b4 fH fS fN fP) : a < h.size := V.1.lt
theorem own_L_ext (V : own_L Z n0 h a b1 b2 b3 b4 fH fS fN fP) (E : Ext h h') : own_L Z n0 h' a b1 b2 b3 b4 fH fS fN fP := by
  obtain ⟨e, ⟨f1, f2, f3, f4⟩, ⟨a1, a2, a3, a4⟩, o⟩ := V
  exact ⟨e.ext E, ⟨f1.ext E, f2.ext E, f3.ext E, f4.ext E⟩, ⟨own_arr_ext a1 E, own_arr_ext a2 E, own_arr_ext a3 E, own_arr_ext a4 E⟩, o⟩
theorem own_L_keep {ws : List Addr} (V : own_L Z n0 h a b1 b2 b3 b4 fH fS fN fP) (K : Keep h h' ws) (qa : a ∉ ws) (q1 : b1 ∉ ws) (q2 : b2 ∉ ws) (q3 : b3 ∉ ws) (q4 : b4 ∉ ws) : own_L Z n0 h' a b1 b2 b3 b4 fH fS fN fP := by
  obtain ⟨e, ⟨f1, f2, f3, f4⟩, ⟨a1, a2, a3, a4⟩, o⟩ := V
  exact ⟨e.keep K, ⟨f1.keep K qa, f2.keep K qa, f3.keep K qa, f4.keep K qa⟩, ⟨own_arr_keep a1 K q1, own_arr_keep a2 K q2, own_arr_keep a3 K q3, own_arr_keep a4 K q4⟩, o⟩
theorem own_L_out {x : Nat} {sl : Nat} {v : Value} (V : own_L Z n0 h a b1 b2 b3 b4 fH fS fN fP) (W : Wr h h' x sl v) (q : b4 < x) : own_L Z n0 h' a b1 b2 b3 b4 fH fS fN fP := by
  obtain ⟨e, ⟨f1, f2, f3, f4⟩, ⟨a1, a2, a3, a4⟩, ⟨o1, o2, o3, o4⟩, g⟩ := V
  have qa : a ≠ x := by omega
  exact ⟨e.wr W, ⟨f1.other W (Or.inl qa), f2.other W (Or.inl qa), f3.other W (Or.inl qa), f4.other W (Or.inl qa)⟩, ⟨own_arr_other a1 W (by omega), own_arr_other a2 W (by omega), own_arr_other a3 W (by omega), own_arr_other a4 W (by omega)⟩, ⟨o1, o2, o3, o4⟩, g⟩
theorem own_L_wH {j v : Int32} (V : own_L Z n0 h a b1 b2 b3 b4 fH fS fN fP) (W : Wr h h' b1 j.toNatClampNeg (.int v)) (hj : ¬ j < 0) (hn : j < 2) : own_L Z n0 h' a b1 b2 b3 b4 (own_upd fH j v) fS fN fP := by
  obtain ⟨e, ⟨f1, f2, f3, f4⟩, ⟨a1, a2, a3, a4⟩, ⟨o1, o2, o3, o4⟩, g⟩ := V
  have qa : a ≠ b1 := by omega
  exact ⟨e.wr W, ⟨f1.other W (Or.inl qa), f2.other W (Or.inl qa), f3.other W (Or.inl qa), f4.other W (Or.inl qa)⟩, ⟨own_arr_same a1 W hj hn, own_arr_other a2 W (by omega), own_arr_other a3 W (by omega), own_arr_other a4 W (by omega)⟩, ⟨o1, o2, o3, o4⟩, g⟩
theorem own_L_wS {j v : Int32} (V : own_L Z n0 h a b1 b2 b3 b4 fH fS fN fP) (W : Wr h h' b2 j.toNatClampNeg (.int v)) (hj : ¬ j < 0) (hn : j < 2) : own_L Z n0 h' a b1 b2 b3 b4 fH (own_upd fS j v) fN fP := by
  obtain ⟨e, ⟨f1, f2, f3, f4⟩, ⟨a1, a2, a3, a4⟩, ⟨o1, o2, o3, o4⟩, g⟩ := V
  have qa : a ≠ b2 := by omega
  exact ⟨e.wr W, ⟨f1.other W (Or.inl qa), f2.other W (Or.inl qa), f3.other W (Or.inl qa), f4.other W (Or.inl qa)⟩, ⟨own_arr_other a1 W (by omega), own_arr_same a2 W hj hn, own_arr_other a3 W (by omega), own_arr_other a4 W (by omega)⟩, ⟨o1, o2, o3, o4⟩, g⟩
theorem own_L_wN {j v : Int32} (V : own_L Z n0 h a b1 b2 b3 b4 fH fS fN fP) (W : Wr h h' b3 j.toNatClampNeg (.int v)) (hj : ¬ j < 0) (hn : j < 3) : own_L Z n0 h' a b1 b2 b3 b4 fH fS (own_upd fN j v) fP := by
  obtain ⟨e, ⟨f1, f2, f3, f4⟩, ⟨a1, a2, a3, a4⟩, ⟨o1, o2, o3, o4⟩, g⟩ := V
  have qa : a ≠ b3 := by omega
  exact ⟨e.wr W, ⟨f1.other W (Or.inl qa), f2.other W (Or.inl qa), f3.other W (Or.inl qa), f4.other W (Or.inl qa)⟩, ⟨own_arr_other a1 W (by omega), own_arr_other a2 W (by omega), own_arr_same a3 W hj hn, own_arr_other a4 W (by omega)⟩, ⟨o1, o2, o3, o4⟩, g⟩
theorem own_L_wP {j v : Int32} (V : own_L Z n0 h a b1 b2 b3 b4 fH fS fN fP) (W : Wr h h' b4 j.toNatClampNeg (.int v)) (hj : ¬ j < 0) (hn : j < 3) : own_L Z n0 h' a b1 b2 b3 b4 fH fS fN (own_upd fP j v) := by
  obtain ⟨e, ⟨f1, f2, f3, f4⟩, ⟨a1, a2, a3, a4⟩, ⟨o1, o2, o3, o4⟩, g⟩ := V
  have qa : a ≠ b4 := by omega
  exact ⟨e.wr W, ⟨f1.other W (Or.inl qa), f2.other W (Or.inl qa), f3.other W (Or.inl qa), f4.other W (Or.inl qa)⟩, ⟨own_arr_other a1 W (by omega), own_arr_other a2 W (by omega), own_arr_other a3 W (by omega), own_arr_same a4 W hj hn⟩, ⟨o1, o2, o3, o4⟩, g⟩
end Lists
/-! what the two methods that write do -/
def own_H0 : Int32 → Int32 := own_upd (own_upd own_zero 0 (-1)) 1 (-1)
def own_pP (fH fP : Int32 → Int32) (k e : Int32) : Int32 → Int32 := if fH k = (-1 : Int32) then own_upd fP e (-1) else own_upd (own_upd fP e (-1)) (fH k) e
def own_rH (fH fN fP : Int32 → Int32) (k e : Int32) : Int32 → Int32 := if fP e = (-1 : Int32) then own_upd fH k (fN e) else fH
def own_rN (fN fP : Int32 → Int32) (e : Int32) : Int32 → Int32 := if fP e = (-1 : Int32) then fN else own_upd fN (fP e) (fN e)
def own_rP (fN fP : Int32 → Int32) (e : Int32) : Int32 → Int32 := if own_rN fN fP e e = (-1 : Int32) then fP else own_upd fP (own_rN fN fP e e) (fP e)
def own_in (z : Int32) : Prop := z = (-1 : Int32) ∨ (¬ z < (0 : Int32) ∧ z < (3 : Int32))
theorem d7_0 : decode prog_108_method_5_code 0 = .ok (.aload_n 0, 1) := by decide +kernel
theorem d7_1 : decode prog_108_method_5_code 1 = .ok (.getfield 19, 3) := by decide +kernel
theorem d7_4 : decode prog_108_method_5_code 4 = .ok (.iload_n 1, 1) := by decide +kernel
theorem d7_5 : decode prog_108_method_5_code 5 = .ok (.iaload, 1) := by decide +kernel
theorem d7_6 : decode prog_108_method_5_code 6 = .ok (.ireturn, 1) := by decide +kernel
theorem pn_7 : plainName "com/example/process_stepper/processstepper/equivalence/IntLists" = true := by first | (simp [plainName, overriddenIn]; done) | decide +kernel
theorem ef_7 (m : MethodId) (a1 : Addr) (p2 : Int32) : entryFrame m #[(.ref a1), (.int p2)] 2 = mkF m 0 #[.val (.ref a1), .val (.int p2)] [] := by first | (simp [entryFrame, mkF, argsToLocals, Value.category]; done) | rfl
def Q7 (Z : State) (a1 : Addr) (p2 : Int32) (b1 b2 b3 b4 : Addr) (fH fS fN fP : Int32 → Int32) (h0 : Heap) (n0 : Nat) (v : Option Value) (h : Heap) (L : List Loc) : Prop := v = some (.int (fS p2)) ∧ Fr n0 L ∧ h = h0
set_option maxRecDepth 65536 in
set_option maxHeartbeats 40000000 in
theorem rm7 (l : Launch) (Z : State) (a0 : Array Value) (hw : ∀ d ∈ tables_1, d.before a0 Z = true) (ws : List Jvm.Cond) (a1 : Addr) (p2 : Int32) (b1 b2 b3 b4 : Addr) (fH fS fN fP : Int32 → Int32) (h0 : Heap) (n0 : Nat) (Z0 : n0 ≤ h0.size) (V0 : own_L Z n0 h0 a1 b1 b2 b3 b4 fH fS fN fP) (hj : ¬ p2 < 0) (hn : p2 < (2 : Int32)) :
    MetFree l (⟨"com/example/process_stepper/processstepper/equivalence/IntLists", "size", "(I)I"⟩ : MethodName) (head1 (Jvm.Cond.code (⟨"com/example/process_stepper/processstepper/equivalence/IntLists", "size", "(I)I"⟩ : MethodName) prog_108_method_5_code 2 (some .int) :: ws) ({ frames := 0, cells := 0, slots := 0, locals := 0 } : Room)) (fun a U => a = #[(.ref a1), (.int p2)] ∧ Z.Warmed39 U.vm ∧ U.heap = h0) (fun _ _ _ _ _ => True) (fun _ U o U' => ∃ v L, o = .returned v ∧ Q7 Z a1 p2 b1 b2 b3 b4 fH fS fN fP h0 n0 v U'.heap L ∧ FrameEnd U o U' L ({ frames := 0, cells := 0, slots := 0, locals := 0 } : Room).cells ({ frames := 0, cells := 0, slots := 0, locals := 0 } : Room).slots) := by
  refine MetFree.of_bodySF (plainFor_of_name pn_7) hisR ?_
  intro p e s m args below meth c s₁ Bd hml0 hP hK
  obtain ⟨rfl, hZ, hh⟩ := hP
  have hx := Bd.exec
  have hby := Bd.bytes
  have hml : c.maxLocals = 2 := hml0
  have hown : s.vm.findClass "com/example/process_stepper/processstepper/equivalence/IntLists" = some m.cls := findClass_of_methodNamed Bd.named
  have hnm := (name_of_methodNamed Bd.named Bd.method).1
  have X0 : Stand p l e ({ frames := 0, cells := 0, slots := 0, locals := 0 } : Room) s m #[(.ref a1), (.int p2)] below meth c s₁ [] 0 0 := Stand.of_body Bd
  have e0 : s₁.heap = h0 := by rw [← hh, Bd.state]; rfl
  have N0 := Fr.nil n0
  have pre0 : ∀ t, Steps p.tables e below (s₁.setTop (mkF m 0 #[.val (.ref a1), .val (.int p2)] [])) t → Steps p.tables e below (s₁.setTop (entryFrame m #[(.ref a1), (.int p2)] 2)) t := fun t k => castTop (ef_7 m a1 p2) k
  obtain ⟨T1, X1, e1, st1⟩ := getF X0 hx hZ hown (host := "") (Or.inl (own_w hw 17 rfl)) Via.refl e0 V0.2.1.2.1 (g := (mkF m 1 #[.val (.ref a1), .val (.int p2)] [(.ref a1)])) rfl rfl (hb hby d7_1)
  obtain ⟨fs, hr, hrun, hended, hW, hsame⟩ := X1.leave (v := some (.int (fS p2))) (fun h => by rw [Bd.returns] at h; cases h)
  refine ⟨_, _, pre0 _ ?_, hrun, hended, _, _, rfl, ?_, ⟨_, rfl⟩, hW, hsame.mono (by decide) (by decide)⟩
  · show Steps p.tables e below (s₁.setTop (mkF m 0 #[.val (.ref a1), .val (.int p2)] [])) _
    refine XS.aloadN X0.here hx rfl (hb hby d7_0) rfl rfl ?_
    show Steps p.tables e below (s₁.setTop (mkF m 1 #[.val (.ref a1), .val (.int p2)] [(.ref a1)])) _
    refine st1 _ ?_
    show Steps p.tables e below (T1.setTop (mkF m 4 #[.val (.ref a1), .val (.int p2)] [(.ref b2)])) _
    refine XS.iloadN X1.here hx rfl (hb hby d7_4) rfl ?_
    show Steps p.tables e below (T1.setTop (mkF m 5 #[.val (.ref a1), .val (.int p2)] [(.int p2), (.ref b2)])) _
    refine own_ld X1 hx hZ e1 V0.2.2.1.2.1 hj hn (g := (mkF m 5 #[.val (.ref a1), .val (.int p2)] [(.int p2), (.ref b2)])) rfl rfl (hb hby d7_5) _ ?_
    show Steps p.tables e below (T1.setTop (mkF m 6 #[.val (.ref a1), .val (.int p2)] [(.int (fS p2))])) _
    exact retI X1 hx Bd.returns (hb hby d7_6) hr
  · show Q7 Z a1 p2 b1 b2 b3 b4 fH fS fN fP h0 n0 _ T1.heap _
    rw [e1]
    exact ⟨rfl, N0, rfl⟩
theorem d8_0 : decode prog_108_method_3_code 0 = .ok (.aload_n 0, 1) := by decide +kernel
theorem d8_1 : decode prog_108_method_3_code 1 = .ok (.getfield 7, 3) := by decide +kernel
theorem d8_4 : decode prog_108_method_3_code 4 = .ok (.iload_n 1, 1) := by decide +kernel
theorem d8_5 : decode prog_108_method_3_code 5 = .ok (.iaload, 1) := by decide +kernel
theorem d8_6 : decode prog_108_method_3_code 6 = .ok (.ireturn, 1) := by decide +kernel
theorem pn_8 : plainName "com/example/process_stepper/processstepper/equivalence/IntLists" = true := by first | (simp [plainName, overriddenIn]; done) | decide +kernel
theorem ef_8 (m : MethodId) (a1 : Addr) (p2 : Int32) : entryFrame m #[(.ref a1), (.int p2)] 2 = mkF m 0 #[.val (.ref a1), .val (.int p2)] [] := by first | (simp [entryFrame, mkF, argsToLocals, Value.category]; done) | rfl
def Q8 (Z : State) (a1 : Addr) (p2 : Int32) (b1 b2 b3 b4 : Addr) (fH fS fN fP : Int32 → Int32) (h0 : Heap) (n0 : Nat) (v : Option Value) (h : Heap) (L : List Loc) : Prop := v = some (.int (fH p2)) ∧ Fr n0 L ∧ h = h0
set_option maxRecDepth 65536 in
set_option maxHeartbeats 40000000 in
theorem rm8 (l : Launch) (Z : State) (a0 : Array Value) (hw : ∀ d ∈ tables_1, d.before a0 Z = true) (ws : List Jvm.Cond) (a1 : Addr) (p2 : Int32) (b1 b2 b3 b4 : Addr) (fH fS fN fP : Int32 → Int32) (h0 : Heap) (n0 : Nat) (Z0 : n0 ≤ h0.size) (V0 : own_L Z n0 h0 a1 b1 b2 b3 b4 fH fS fN fP) (hj : ¬ p2 < 0) (hn : p2 < (2 : Int32)) :
    MetFree l (⟨"com/example/process_stepper/processstepper/equivalence/IntLists", "first", "(I)I"⟩ : MethodName) (head1 (Jvm.Cond.code (⟨"com/example/process_stepper/processstepper/equivalence/IntLists", "first", "(I)I"⟩ : MethodName) prog_108_method_3_code 2 (some .int) :: ws) ({ frames := 0, cells := 0, slots := 0, locals := 0 } : Room)) (fun a U => a = #[(.ref a1), (.int p2)] ∧ Z.Warmed39 U.vm ∧ U.heap = h0) (fun _ _ _ _ _ => True) (fun _ U o U' => ∃ v L, o = .returned v ∧ Q8 Z a1 p2 b1 b2 b3 b4 fH fS fN fP h0 n0 v U'.heap L ∧ FrameEnd U o U' L ({ frames := 0, cells := 0, slots := 0, locals := 0 } : Room).cells ({ frames := 0, cells := 0, slots := 0, locals := 0 } : Room).slots) := by
  refine MetFree.of_bodySF (plainFor_of_name pn_8) hisR ?_
  intro p e s m args below meth c s₁ Bd hml0 hP hK
  obtain ⟨rfl, hZ, hh⟩ := hP
  have hx := Bd.exec
  have hby := Bd.bytes
  have hml : c.maxLocals = 2 := hml0
  have hown : s.vm.findClass "com/example/process_stepper/processstepper/equivalence/IntLists" = some m.cls := findClass_of_methodNamed Bd.named
  have hnm := (name_of_methodNamed Bd.named Bd.method).1
  have X0 : Stand p l e ({ frames := 0, cells := 0, slots := 0, locals := 0 } : Room) s m #[(.ref a1), (.int p2)] below meth c s₁ [] 0 0 := Stand.of_body Bd
  have e0 : s₁.heap = h0 := by rw [← hh, Bd.state]; rfl
  have N0 := Fr.nil n0
  have pre0 : ∀ t, Steps p.tables e below (s₁.setTop (mkF m 0 #[.val (.ref a1), .val (.int p2)] [])) t → Steps p.tables e below (s₁.setTop (entryFrame m #[(.ref a1), (.int p2)] 2)) t := fun t k => castTop (ef_8 m a1 p2) k
  obtain ⟨T1, X1, e1, st1⟩ := getF X0 hx hZ hown (host := "") (Or.inl (own_w hw 11 rfl)) Via.refl e0 V0.2.1.1 (g := (mkF m 1 #[.val (.ref a1), .val (.int p2)] [(.ref a1)])) rfl rfl (hb hby d8_1)
  obtain ⟨fs, hr, hrun, hended, hW, hsame⟩ := X1.leave (v := some (.int (fH p2))) (fun h => by rw [Bd.returns] at h; cases h)
  refine ⟨_, _, pre0 _ ?_, hrun, hended, _, _, rfl, ?_, ⟨_, rfl⟩, hW, hsame.mono (by decide) (by decide)⟩
  · show Steps p.tables e below (s₁.setTop (mkF m 0 #[.val (.ref a1), .val (.int p2)] [])) _
    refine XS.aloadN X0.here hx rfl (hb hby d8_0) rfl rfl ?_
    show Steps p.tables e below (s₁.setTop (mkF m 1 #[.val (.ref a1), .val (.int p2)] [(.ref a1)])) _
    refine st1 _ ?_
    show Steps p.tables e below (T1.setTop (mkF m 4 #[.val (.ref a1), .val (.int p2)] [(.ref b1)])) _
    refine XS.iloadN X1.here hx rfl (hb hby d8_4) rfl ?_
    show Steps p.tables e below (T1.setTop (mkF m 5 #[.val (.ref a1), .val (.int p2)] [(.int p2), (.ref b1)])) _
    refine own_ld X1 hx hZ e1 V0.2.2.1.1 hj hn (g := (mkF m 5 #[.val (.ref a1), .val (.int p2)] [(.int p2), (.ref b1)])) rfl rfl (hb hby d8_5) _ ?_
    show Steps p.tables e below (T1.setTop (mkF m 6 #[.val (.ref a1), .val (.int p2)] [(.int (fH p2))])) _
    exact retI X1 hx Bd.returns (hb hby d8_6) hr
  · show Q8 Z a1 p2 b1 b2 b3 b4 fH fS fN fP h0 n0 _ T1.heap _
    rw [e1]
    exact ⟨rfl, N0, rfl⟩
theorem d9_0 : decode prog_108_method_4_code 0 = .ok (.aload_n 0, 1) := by decide +kernel
theorem d9_1 : decode prog_108_method_4_code 1 = .ok (.getfield 22, 3) := by decide +kernel
theorem d9_4 : decode prog_108_method_4_code 4 = .ok (.iload_n 1, 1) := by decide +kernel
theorem d9_5 : decode prog_108_method_4_code 5 = .ok (.iaload, 1) := by decide +kernel
theorem d9_6 : decode prog_108_method_4_code 6 = .ok (.ireturn, 1) := by decide +kernel
theorem pn_9 : plainName "com/example/process_stepper/processstepper/equivalence/IntLists" = true := by first | (simp [plainName, overriddenIn]; done) | decide +kernel
theorem ef_9 (m : MethodId) (a1 : Addr) (p2 : Int32) : entryFrame m #[(.ref a1), (.int p2)] 2 = mkF m 0 #[.val (.ref a1), .val (.int p2)] [] := by first | (simp [entryFrame, mkF, argsToLocals, Value.category]; done) | rfl
def Q9 (Z : State) (a1 : Addr) (p2 : Int32) (b1 b2 b3 b4 : Addr) (fH fS fN fP : Int32 → Int32) (h0 : Heap) (n0 : Nat) (v : Option Value) (h : Heap) (L : List Loc) : Prop := v = some (.int (fN p2)) ∧ Fr n0 L ∧ h = h0
set_option maxRecDepth 65536 in
set_option maxHeartbeats 40000000 in
theorem rm9 (l : Launch) (Z : State) (a0 : Array Value) (hw : ∀ d ∈ tables_1, d.before a0 Z = true) (ws : List Jvm.Cond) (a1 : Addr) (p2 : Int32) (b1 b2 b3 b4 : Addr) (fH fS fN fP : Int32 → Int32) (h0 : Heap) (n0 : Nat) (Z0 : n0 ≤ h0.size) (V0 : own_L Z n0 h0 a1 b1 b2 b3 b4 fH fS fN fP) (hj : ¬ p2 < 0) (hn : p2 < (3 : Int32)) :
    MetFree l (⟨"com/example/process_stepper/processstepper/equivalence/IntLists", "next", "(I)I"⟩ : MethodName) (head1 (Jvm.Cond.code (⟨"com/example/process_stepper/processstepper/equivalence/IntLists", "next", "(I)I"⟩ : MethodName) prog_108_method_4_code 2 (some .int) :: ws) ({ frames := 0, cells := 0, slots := 0, locals := 0 } : Room)) (fun a U => a = #[(.ref a1), (.int p2)] ∧ Z.Warmed39 U.vm ∧ U.heap = h0) (fun _ _ _ _ _ => True) (fun _ U o U' => ∃ v L, o = .returned v ∧ Q9 Z a1 p2 b1 b2 b3 b4 fH fS fN fP h0 n0 v U'.heap L ∧ FrameEnd U o U' L ({ frames := 0, cells := 0, slots := 0, locals := 0 } : Room).cells ({ frames := 0, cells := 0, slots := 0, locals := 0 } : Room).slots) := by
  refine MetFree.of_bodySF (plainFor_of_name pn_9) hisR ?_
  intro p e s m args below meth c s₁ Bd hml0 hP hK
  obtain ⟨rfl, hZ, hh⟩ := hP
  have hx := Bd.exec
  have hby := Bd.bytes
  have hml : c.maxLocals = 2 := hml0
  have hown : s.vm.findClass "com/example/process_stepper/processstepper/equivalence/IntLists" = some m.cls := findClass_of_methodNamed Bd.named
  have hnm := (name_of_methodNamed Bd.named Bd.method).1
  have X0 : Stand p l e ({ frames := 0, cells := 0, slots := 0, locals := 0 } : Room) s m #[(.ref a1), (.int p2)] below meth c s₁ [] 0 0 := Stand.of_body Bd
  have e0 : s₁.heap = h0 := by rw [← hh, Bd.state]; rfl
  have N0 := Fr.nil n0
  have pre0 : ∀ t, Steps p.tables e below (s₁.setTop (mkF m 0 #[.val (.ref a1), .val (.int p2)] [])) t → Steps p.tables e below (s₁.setTop (entryFrame m #[(.ref a1), (.int p2)] 2)) t := fun t k => castTop (ef_9 m a1 p2) k
  obtain ⟨T1, X1, e1, st1⟩ := getF X0 hx hZ hown (host := "") (Or.inl (own_w hw 19 rfl)) Via.refl e0 V0.2.1.2.2.1 (g := (mkF m 1 #[.val (.ref a1), .val (.int p2)] [(.ref a1)])) rfl rfl (hb hby d9_1)
  obtain ⟨fs, hr, hrun, hended, hW, hsame⟩ := X1.leave (v := some (.int (fN p2))) (fun h => by rw [Bd.returns] at h; cases h)
  refine ⟨_, _, pre0 _ ?_, hrun, hended, _, _, rfl, ?_, ⟨_, rfl⟩, hW, hsame.mono (by decide) (by decide)⟩
  · show Steps p.tables e below (s₁.setTop (mkF m 0 #[.val (.ref a1), .val (.int p2)] [])) _
    refine XS.aloadN X0.here hx rfl (hb hby d9_0) rfl rfl ?_
    show Steps p.tables e below (s₁.setTop (mkF m 1 #[.val (.ref a1), .val (.int p2)] [(.ref a1)])) _
    refine st1 _ ?_
    show Steps p.tables e below (T1.setTop (mkF m 4 #[.val (.ref a1), .val (.int p2)] [(.ref b3)])) _
    refine XS.iloadN X1.here hx rfl (hb hby d9_4) rfl ?_
    show Steps p.tables e below (T1.setTop (mkF m 5 #[.val (.ref a1), .val (.int p2)] [(.int p2), (.ref b3)])) _
    refine own_ld X1 hx hZ e1 V0.2.2.1.2.2.1 hj hn (g := (mkF m 5 #[.val (.ref a1), .val (.int p2)] [(.int p2), (.ref b3)])) rfl rfl (hb hby d9_5) _ ?_
    show Steps p.tables e below (T1.setTop (mkF m 6 #[.val (.ref a1), .val (.int p2)] [(.int (fN p2))])) _
    exact retI X1 hx Bd.returns (hb hby d9_6) hr
  · show Q9 Z a1 p2 b1 b2 b3 b4 fH fS fN fP h0 n0 _ T1.heap _
    rw [e1]
    exact ⟨rfl, N0, rfl⟩
theorem d4_0 : decode prog_108_method_6_code 0 = .ok (.aload_n 0, 1) := by decide +kernel
theorem d4_1 : decode prog_108_method_6_code 1 = .ok (.getfield 25, 3) := by decide +kernel
theorem d4_4 : decode prog_108_method_6_code 4 = .ok (.iload_n 2, 1) := by decide +kernel
theorem d4_5 : decode prog_108_method_6_code 5 = .ok (.iconst (-1), 1) := by decide +kernel
theorem d4_6 : decode prog_108_method_6_code 6 = .ok (.iastore, 1) := by decide +kernel
theorem d4_7 : decode prog_108_method_6_code 7 = .ok (.aload_n 0, 1) := by decide +kernel
theorem d4_8 : decode prog_108_method_6_code 8 = .ok (.getfield 22, 3) := by decide +kernel
theorem d4_11 : decode prog_108_method_6_code 11 = .ok (.iload_n 2, 1) := by decide +kernel
theorem d4_12 : decode prog_108_method_6_code 12 = .ok (.aload_n 0, 1) := by decide +kernel
theorem d4_13 : decode prog_108_method_6_code 13 = .ok (.getfield 7, 3) := by decide +kernel
theorem d4_16 : decode prog_108_method_6_code 16 = .ok (.iload_n 1, 1) := by decide +kernel
theorem d4_17 : decode prog_108_method_6_code 17 = .ok (.iaload, 1) := by decide +kernel
theorem d4_18 : decode prog_108_method_6_code 18 = .ok (.iastore, 1) := by decide +kernel
theorem d4_19 : decode prog_108_method_6_code 19 = .ok (.aload_n 0, 1) := by decide +kernel
theorem d4_20 : decode prog_108_method_6_code 20 = .ok (.getfield 7, 3) := by decide +kernel
theorem d4_23 : decode prog_108_method_6_code 23 = .ok (.iload_n 1, 1) := by decide +kernel
theorem d4_24 : decode prog_108_method_6_code 24 = .ok (.iaload, 1) := by decide +kernel
theorem d4_25 : decode prog_108_method_6_code 25 = .ok (.iconst (-1), 1) := by decide +kernel
theorem d4_26 : decode prog_108_method_6_code 26 = .ok (.if_icmp .eq 15, 3) := by decide +kernel
theorem d4_29 : decode prog_108_method_6_code 29 = .ok (.aload_n 0, 1) := by decide +kernel
theorem d4_30 : decode prog_108_method_6_code 30 = .ok (.getfield 25, 3) := by decide +kernel
theorem d4_33 : decode prog_108_method_6_code 33 = .ok (.aload_n 0, 1) := by decide +kernel
theorem d4_34 : decode prog_108_method_6_code 34 = .ok (.getfield 7, 3) := by decide +kernel
theorem d4_37 : decode prog_108_method_6_code 37 = .ok (.iload_n 1, 1) := by decide +kernel
theorem d4_38 : decode prog_108_method_6_code 38 = .ok (.iaload, 1) := by decide +kernel
theorem d4_39 : decode prog_108_method_6_code 39 = .ok (.iload_n 2, 1) := by decide +kernel
theorem d4_40 : decode prog_108_method_6_code 40 = .ok (.iastore, 1) := by decide +kernel
theorem d4_41 : decode prog_108_method_6_code 41 = .ok (.aload_n 0, 1) := by decide +kernel
theorem d4_42 : decode prog_108_method_6_code 42 = .ok (.getfield 7, 3) := by decide +kernel
theorem d4_45 : decode prog_108_method_6_code 45 = .ok (.iload_n 1, 1) := by decide +kernel
theorem d4_46 : decode prog_108_method_6_code 46 = .ok (.iload_n 2, 1) := by decide +kernel
theorem d4_47 : decode prog_108_method_6_code 47 = .ok (.iastore, 1) := by decide +kernel
theorem d4_48 : decode prog_108_method_6_code 48 = .ok (.aload_n 0, 1) := by decide +kernel
theorem d4_49 : decode prog_108_method_6_code 49 = .ok (.getfield 19, 3) := by decide +kernel
theorem d4_52 : decode prog_108_method_6_code 52 = .ok (.iload_n 1, 1) := by decide +kernel
theorem d4_53 : decode prog_108_method_6_code 53 = .ok (.dup2, 1) := by decide +kernel
theorem d4_54 : decode prog_108_method_6_code 54 = .ok (.iaload, 1) := by decide +kernel
theorem d4_55 : decode prog_108_method_6_code 55 = .ok (.iconst 1, 1) := by decide +kernel
theorem d4_56 : decode prog_108_method_6_code 56 = .ok (.iadd, 1) := by decide +kernel
theorem d4_57 : decode prog_108_method_6_code 57 = .ok (.iastore, 1) := by decide +kernel
theorem d4_58 : decode prog_108_method_6_code 58 = .ok (.return_, 1) := by decide +kernel
theorem pn_4 : plainName "com/example/process_stepper/processstepper/equivalence/IntLists" = true := by first | (simp [plainName, overriddenIn]; done) | decide +kernel
theorem ef_4 (m : MethodId) (a1 : Addr) (p2 : Int32) (p3 : Int32) : entryFrame m #[(.ref a1), (.int p2), (.int p3)] 3 = mkF m 0 #[.val (.ref a1), .val (.int p2), .val (.int p3)] [] := by first | (simp [entryFrame, mkF, argsToLocals, Value.category]; done) | rfl
def Q4 (Z : State) (a1 : Addr) (p2 p3 : Int32) (b1 b2 b3 b4 : Addr) (fH fS fN fP : Int32 → Int32) (h0 : Heap) (n0 : Nat) (v : Option Value) (h : Heap) (L : List Loc) : Prop := v = none ∧ Fr n0 L ∧ Keep h0 h [b1, b2, b3, b4] ∧ own_L Z n0 h a1 b1 b2 b3 b4 (own_upd fH p2 p3) (own_upd fS p2 (fS p2 + (1 : Int32))) (own_upd fN p3 (fH p2)) (own_pP fH fP p2 p3)
set_option maxRecDepth 65536 in
set_option maxHeartbeats 40000000 in
theorem rm4 (l : Launch) (Z : State) (a0 : Array Value) (hw : ∀ d ∈ tables_1, d.before a0 Z = true) (ws : List Jvm.Cond) (a1 : Addr) (p2 p3 : Int32) (b1 b2 b3 b4 : Addr) (fH fS fN fP : Int32 → Int32) (h0 : Heap) (n0 : Nat) (Z0 : n0 ≤ h0.size) (V0 : own_L Z n0 h0 a1 b1 b2 b3 b4 fH fS fN fP) (l0 : ¬ p2 < 0) (l1 : p2 < (2 : Int32)) (q0 : ¬ p3 < 0) (q1 : p3 < (3 : Int32)) (hH : own_in (fH p2)) :
    MetFree l (⟨"com/example/process_stepper/processstepper/equivalence/IntLists", "push", "(II)V"⟩ : MethodName) (head1 (Jvm.Cond.code (⟨"com/example/process_stepper/processstepper/equivalence/IntLists", "push", "(II)V"⟩ : MethodName) prog_108_method_6_code 3 none :: ws) ({ frames := 0, cells := 0, slots := 0, locals := 0 } : Room)) (fun a U => a = #[(.ref a1), (.int p2), (.int p3)] ∧ Z.Warmed39 U.vm ∧ U.heap = h0) (fun _ _ _ _ _ => True) (fun _ U o U' => ∃ v L, o = .returned v ∧ Q4 Z a1 p2 p3 b1 b2 b3 b4 fH fS fN fP h0 n0 v U'.heap L ∧ FrameEnd U o U' L ({ frames := 0, cells := 0, slots := 0, locals := 0 } : Room).cells ({ frames := 0, cells := 0, slots := 0, locals := 0 } : Room).slots) := by
  refine MetFree.of_bodySF (plainFor_of_name pn_4) hisR ?_
  intro p e s m args below meth c s₁ Bd hml0 hP hK
  obtain ⟨rfl, hZ, hh⟩ := hP
  have hx := Bd.exec
  have hby := Bd.bytes
  have hml : c.maxLocals = 3 := hml0
  have hown : s.vm.findClass "com/example/process_stepper/processstepper/equivalence/IntLists" = some m.cls := findClass_of_methodNamed Bd.named
  have hnm := (name_of_methodNamed Bd.named Bd.method).1
  have X0 : Stand p l e ({ frames := 0, cells := 0, slots := 0, locals := 0 } : Room) s m #[(.ref a1), (.int p2), (.int p3)] below meth c s₁ [] 0 0 := Stand.of_body Bd
  have e0 : s₁.heap = h0 := by rw [← hh, Bd.state]; rfl
  have N0 := Fr.nil n0
  have pre0 : ∀ t, Steps p.tables e below (s₁.setTop (mkF m 0 #[.val (.ref a1), .val (.int p2), .val (.int p3)] [])) t → Steps p.tables e below (s₁.setTop (entryFrame m #[(.ref a1), (.int p2), (.int p3)] 3)) t := fun t k => castTop (ef_4 m a1 p2 p3) k
  obtain ⟨T1, X1, e1, st1⟩ := getF X0 hx hZ hown (host := "") (Or.inl (own_w hw 21 rfl)) Via.refl e0 V0.2.1.2.2.2 (g := (mkF m 1 #[.val (.ref a1), .val (.int p2), .val (.int p3)] [(.ref a1)])) rfl rfl (hb hby d4_1)
  obtain ⟨T2, h2, X2, e2, W2, st2⟩ := own_st X1 hx hZ e1 V0.2.2.1.2.2.2 q0 q1 (g := (mkF m 6 #[.val (.ref a1), .val (.int p2), .val (.int p3)] [(.int (-1 : Int32)), (.int p3), (.ref b4)])) rfl rfl (hb hby d4_6)
  have V_a1_2 : own_L Z n0 h2 a1 b1 b2 b3 b4 fH fS fN (own_upd fP p3 (-1 : Int32)) := own_L_wP V0 W2 q0 q1
  have K2 : Keep h0 h2 [b1, b2, b3, b4] := (Keep.refl h0 [b1, b2, b3, b4]).wr W2 (Or.inl (List.mem_of_getElem? (i := 3) rfl))
  have N2 := Fr.snoc X2 N0 (own_L_g V0).2.2.2
  have Zs2 : n0 ≤ h2.size := by rw [W2.size]; exact Z0
  obtain ⟨T3, X3, e3, st3⟩ := getF X2 hx hZ hown (host := "") (Or.inl (own_w hw 19 rfl)) Via.refl e2 V_a1_2.2.1.2.2.1 (g := (mkF m 8 #[.val (.ref a1), .val (.int p2), .val (.int p3)] [(.ref a1)])) rfl rfl (hb hby d4_8)
  obtain ⟨T4, X4, e4, st4⟩ := getF X3 hx hZ hown (host := "") (Or.inl (own_w hw 11 rfl)) Via.refl e3 V_a1_2.2.1.1 (g := (mkF m 13 #[.val (.ref a1), .val (.int p2), .val (.int p3)] [(.ref a1), (.int p3), (.ref b3)])) rfl rfl (hb hby d4_13)
  obtain ⟨T5, h5, X5, e5, W5, st5⟩ := own_st X4 hx hZ e4 V_a1_2.2.2.1.2.2.1 q0 q1 (g := (mkF m 18 #[.val (.ref a1), .val (.int p2), .val (.int p3)] [(.int (fH p2)), (.int p3), (.ref b3)])) rfl rfl (hb hby d4_18)
  have V_a1_5 : own_L Z n0 h5 a1 b1 b2 b3 b4 fH fS (own_upd fN p3 (fH p2)) (own_upd fP p3 (-1 : Int32)) := own_L_wN V_a1_2 W5 q0 q1
  have K5 : Keep h0 h5 [b1, b2, b3, b4] := K2.wr W5 (Or.inl (List.mem_of_getElem? (i := 2) rfl))
  have N5 := Fr.snoc X5 N2 (own_L_g V0).2.2.1
  have Zs5 : n0 ≤ h5.size := by rw [W5.size]; exact Zs2
  obtain ⟨T6, X6, e6, st6⟩ := getF X5 hx hZ hown (host := "") (Or.inl (own_w hw 11 rfl)) Via.refl e5 V_a1_5.2.1.1 (g := (mkF m 20 #[.val (.ref a1), .val (.int p2), .val (.int p3)] [(.ref a1)])) rfl rfl (hb hby d4_20)
  by_cases hc26 : (fH p2) = (-1 : Int32)
  · obtain ⟨T7, X7, e7, st7⟩ := getF X6 hx hZ hown (host := "") (Or.inl (own_w hw 11 rfl)) Via.refl e6 V_a1_5.2.1.1 (g := (mkF m 42 #[.val (.ref a1), .val (.int p2), .val (.int p3)] [(.ref a1)])) rfl rfl (hb hby d4_42)
    obtain ⟨T8, h8, X8, e8, W8, st8⟩ := own_st X7 hx hZ e7 V_a1_5.2.2.1.1 l0 l1 (g := (mkF m 47 #[.val (.ref a1), .val (.int p2), .val (.int p3)] [(.int p3), (.int p2), (.ref b1)])) rfl rfl (hb hby d4_47)
    have V_a1_8 : own_L Z n0 h8 a1 b1 b2 b3 b4 (own_upd fH p2 p3) fS (own_upd fN p3 (fH p2)) (own_upd fP p3 (-1 : Int32)) := own_L_wH V_a1_5 W8 l0 l1
    have K8 : Keep h0 h8 [b1, b2, b3, b4] := K5.wr W8 (Or.inl (List.mem_of_getElem? (i := 0) rfl))
    have N8 := Fr.snoc X8 N5 (own_L_g V0).1
    have Zs8 : n0 ≤ h8.size := by rw [W8.size]; exact Zs5
    obtain ⟨T9, X9, e9, st9⟩ := getF X8 hx hZ hown (host := "") (Or.inl (own_w hw 17 rfl)) Via.refl e8 V_a1_8.2.1.2.1 (g := (mkF m 49 #[.val (.ref a1), .val (.int p2), .val (.int p3)] [(.ref a1)])) rfl rfl (hb hby d4_49)
    obtain ⟨T10, h10, X10, e10, W10, st10⟩ := own_st X9 hx hZ e9 V_a1_8.2.2.1.2.1 l0 l1 (g := (mkF m 57 #[.val (.ref a1), .val (.int p2), .val (.int p3)] [(.int ((fS p2) + (1 : Int32))), (.int p2), (.ref b2)])) rfl rfl (hb hby d4_57)
    have V_a1_10 : own_L Z n0 h10 a1 b1 b2 b3 b4 (own_upd fH p2 p3) (own_upd fS p2 ((fS p2) + (1 : Int32))) (own_upd fN p3 (fH p2)) (own_upd fP p3 (-1 : Int32)) := own_L_wS V_a1_8 W10 l0 l1
    have K10 : Keep h0 h10 [b1, b2, b3, b4] := K8.wr W10 (Or.inl (List.mem_of_getElem? (i := 1) rfl))
    have N10 := Fr.snoc X10 N8 (own_L_g V0).2.1
    have Zs10 : n0 ≤ h10.size := by rw [W10.size]; exact Zs8
    obtain ⟨fs, hr, hrun, hended, hW, hsame⟩ := X10.leave (v := none) (fun _ => rfl)
    refine ⟨_, _, pre0 _ ?_, hrun, hended, _, _, rfl, ?_, ⟨_, rfl⟩, hW, hsame.mono (by decide) (by decide)⟩
    · show Steps p.tables e below (s₁.setTop (mkF m 0 #[.val (.ref a1), .val (.int p2), .val (.int p3)] [])) _
      refine XS.aloadN X0.here hx rfl (hb hby d4_0) rfl rfl ?_
      show Steps p.tables e below (s₁.setTop (mkF m 1 #[.val (.ref a1), .val (.int p2), .val (.int p3)] [(.ref a1)])) _
      refine st1 _ ?_
      show Steps p.tables e below (T1.setTop (mkF m 4 #[.val (.ref a1), .val (.int p2), .val (.int p3)] [(.ref b4)])) _
      refine XS.iloadN X1.here hx rfl (hb hby d4_4) rfl ?_
      refine XS.iconst X1.here hx rfl (hb hby d4_5) ?_
      show Steps p.tables e below (T1.setTop (mkF m 6 #[.val (.ref a1), .val (.int p2), .val (.int p3)] [(.int (-1 : Int32)), (.int p3), (.ref b4)])) _
      refine st2 _ ?_
      show Steps p.tables e below (T2.setTop (mkF m 7 #[.val (.ref a1), .val (.int p2), .val (.int p3)] [])) _
      refine XS.aloadN X2.here hx rfl (hb hby d4_7) rfl rfl ?_
      show Steps p.tables e below (T2.setTop (mkF m 8 #[.val (.ref a1), .val (.int p2), .val (.int p3)] [(.ref a1)])) _
      refine st3 _ ?_
      show Steps p.tables e below (T3.setTop (mkF m 11 #[.val (.ref a1), .val (.int p2), .val (.int p3)] [(.ref b3)])) _
      refine XS.iloadN X3.here hx rfl (hb hby d4_11) rfl ?_
      refine XS.aloadN X3.here hx rfl (hb hby d4_12) rfl rfl ?_
      show Steps p.tables e below (T3.setTop (mkF m 13 #[.val (.ref a1), .val (.int p2), .val (.int p3)] [(.ref a1), (.int p3), (.ref b3)])) _
      refine st4 _ ?_
      show Steps p.tables e below (T4.setTop (mkF m 16 #[.val (.ref a1), .val (.int p2), .val (.int p3)] [(.ref b1), (.int p3), (.ref b3)])) _
      refine XS.iloadN X4.here hx rfl (hb hby d4_16) rfl ?_
      show Steps p.tables e below (T4.setTop (mkF m 17 #[.val (.ref a1), .val (.int p2), .val (.int p3)] [(.int p2), (.ref b1), (.int p3), (.ref b3)])) _
      refine own_ld X4 hx hZ e4 V_a1_2.2.2.1.1 l0 l1 (g := (mkF m 17 #[.val (.ref a1), .val (.int p2), .val (.int p3)] [(.int p2), (.ref b1), (.int p3), (.ref b3)])) rfl rfl (hb hby d4_17) _ ?_
      show Steps p.tables e below (T4.setTop (mkF m 18 #[.val (.ref a1), .val (.int p2), .val (.int p3)] [(.int (fH p2)), (.int p3), (.ref b3)])) _
      refine st5 _ ?_
      show Steps p.tables e below (T5.setTop (mkF m 19 #[.val (.ref a1), .val (.int p2), .val (.int p3)] [])) _
      refine XS.aloadN X5.here hx rfl (hb hby d4_19) rfl rfl ?_
      show Steps p.tables e below (T5.setTop (mkF m 20 #[.val (.ref a1), .val (.int p2), .val (.int p3)] [(.ref a1)])) _
      refine st6 _ ?_
      show Steps p.tables e below (T6.setTop (mkF m 23 #[.val (.ref a1), .val (.int p2), .val (.int p3)] [(.ref b1)])) _
      refine XS.iloadN X6.here hx rfl (hb hby d4_23) rfl ?_
      show Steps p.tables e below (T6.setTop (mkF m 24 #[.val (.ref a1), .val (.int p2), .val (.int p3)] [(.int p2), (.ref b1)])) _
      refine own_ld X6 hx hZ e6 V_a1_5.2.2.1.1 l0 l1 (g := (mkF m 24 #[.val (.ref a1), .val (.int p2), .val (.int p3)] [(.int p2), (.ref b1)])) rfl rfl (hb hby d4_24) _ ?_
      show Steps p.tables e below (T6.setTop (mkF m 25 #[.val (.ref a1), .val (.int p2), .val (.int p3)] [(.int (fH p2))])) _
      refine XS.iconst X6.here hx rfl (hb hby d4_25) ?_
      show Steps p.tables e below (T6.setTop (mkF m 26 #[.val (.ref a1), .val (.int p2), .val (.int p3)] [(.int (-1 : Int32)), (.int (fH p2))])) _
      refine XS.icmpYes X6.here hx rfl (pc0 := 26) (pc' := 41) rfl (hb hby d4_26) rfl (teq hc26).1 (by decide) (by decide) ?_
      show Steps p.tables e below (T6.setTop (mkF m 41 #[.val (.ref a1), .val (.int p2), .val (.int p3)] [])) _
      refine XS.aloadN X6.here hx rfl (hb hby d4_41) rfl rfl ?_
      show Steps p.tables e below (T6.setTop (mkF m 42 #[.val (.ref a1), .val (.int p2), .val (.int p3)] [(.ref a1)])) _
      refine st7 _ ?_
      show Steps p.tables e below (T7.setTop (mkF m 45 #[.val (.ref a1), .val (.int p2), .val (.int p3)] [(.ref b1)])) _
      refine XS.iloadN X7.here hx rfl (hb hby d4_45) rfl ?_
      refine XS.iloadN X7.here hx rfl (hb hby d4_46) rfl ?_
      show Steps p.tables e below (T7.setTop (mkF m 47 #[.val (.ref a1), .val (.int p2), .val (.int p3)] [(.int p3), (.int p2), (.ref b1)])) _
      refine st8 _ ?_
      show Steps p.tables e below (T8.setTop (mkF m 48 #[.val (.ref a1), .val (.int p2), .val (.int p3)] [])) _
      refine XS.aloadN X8.here hx rfl (hb hby d4_48) rfl rfl ?_
      show Steps p.tables e below (T8.setTop (mkF m 49 #[.val (.ref a1), .val (.int p2), .val (.int p3)] [(.ref a1)])) _
      refine st9 _ ?_
      show Steps p.tables e below (T9.setTop (mkF m 52 #[.val (.ref a1), .val (.int p2), .val (.int p3)] [(.ref b2)])) _
      refine XS.iloadN X9.here hx rfl (hb hby d4_52) rfl ?_
      refine XT.dup2 X9.here hx rfl (hb hby d4_53) rfl rfl rfl ?_
      show Steps p.tables e below (T9.setTop (mkF m 54 #[.val (.ref a1), .val (.int p2), .val (.int p3)] [(.int p2), (.ref b2), (.int p2), (.ref b2)])) _
      refine own_ld X9 hx hZ e9 V_a1_8.2.2.1.2.1 l0 l1 (g := (mkF m 54 #[.val (.ref a1), .val (.int p2), .val (.int p3)] [(.int p2), (.ref b2), (.int p2), (.ref b2)])) rfl rfl (hb hby d4_54) _ ?_
      show Steps p.tables e below (T9.setTop (mkF m 55 #[.val (.ref a1), .val (.int p2), .val (.int p3)] [(.int (fS p2)), (.int p2), (.ref b2)])) _
      refine XS.iconst X9.here hx rfl (hb hby d4_55) ?_
      show Steps p.tables e below (T9.setTop (mkF m 56 #[.val (.ref a1), .val (.int p2), .val (.int p3)] [(.int (1 : Int32)), (.int (fS p2)), (.int p2), (.ref b2)])) _
      refine XS.iadd X9.here hx rfl (hb hby d4_56) rfl ?_
      show Steps p.tables e below (T9.setTop (mkF m 57 #[.val (.ref a1), .val (.int p2), .val (.int p3)] [(.int ((fS p2) + (1 : Int32))), (.int p2), (.ref b2)])) _
      refine st10 _ ?_
      show Steps p.tables e below (T10.setTop (mkF m 58 #[.val (.ref a1), .val (.int p2), .val (.int p3)] [])) _
      exact X10.returnOut hx Bd.returns (hb hby d4_58) hr
    · show Q4 Z a1 p2 p3 b1 b2 b3 b4 fH fS fN fP h0 n0 _ T10.heap _
      rw [e10]
      refine ⟨rfl, N10, K10, ?_⟩
      rw [show own_pP fH fP p2 p3 = (own_upd fP p3 (-1 : Int32)) from if_pos hc26]
      exact V_a1_10
  · obtain ⟨T11, X11, e11, st11⟩ := getF X6 hx hZ hown (host := "") (Or.inl (own_w hw 21 rfl)) Via.refl e6 V_a1_5.2.1.2.2.2 (g := (mkF m 30 #[.val (.ref a1), .val (.int p2), .val (.int p3)] [(.ref a1)])) rfl rfl (hb hby d4_30)
    obtain ⟨T12, X12, e12, st12⟩ := getF X11 hx hZ hown (host := "") (Or.inl (own_w hw 11 rfl)) Via.refl e11 V_a1_5.2.1.1 (g := (mkF m 34 #[.val (.ref a1), .val (.int p2), .val (.int p3)] [(.ref a1), (.ref b4)])) rfl rfl (hb hby d4_34)
    obtain ⟨T13, h13, X13, e13, W13, st13⟩ := own_st X12 hx hZ e12 V_a1_5.2.2.1.2.2.2 (hH.resolve_left hc26).1 (hH.resolve_left hc26).2 (g := (mkF m 40 #[.val (.ref a1), .val (.int p2), .val (.int p3)] [(.int p3), (.int (fH p2)), (.ref b4)])) rfl rfl (hb hby d4_40)
    have V_a1_13 : own_L Z n0 h13 a1 b1 b2 b3 b4 fH fS (own_upd fN p3 (fH p2)) (own_upd (own_upd fP p3 (-1 : Int32)) (fH p2) p3) := own_L_wP V_a1_5 W13 (hH.resolve_left hc26).1 (hH.resolve_left hc26).2
    have K13 : Keep h0 h13 [b1, b2, b3, b4] := K5.wr W13 (Or.inl (List.mem_of_getElem? (i := 3) rfl))
    have N13 := Fr.snoc X13 N5 (own_L_g V0).2.2.2
    have Zs13 : n0 ≤ h13.size := by rw [W13.size]; exact Zs5
    obtain ⟨T14, X14, e14, st14⟩ := getF X13 hx hZ hown (host := "") (Or.inl (own_w hw 11 rfl)) Via.refl e13 V_a1_13.2.1.1 (g := (mkF m 42 #[.val (.ref a1), .val (.int p2), .val (.int p3)] [(.ref a1)])) rfl rfl (hb hby d4_42)
    obtain ⟨T15, h15, X15, e15, W15, st15⟩ := own_st X14 hx hZ e14 V_a1_13.2.2.1.1 l0 l1 (g := (mkF m 47 #[.val (.ref a1), .val (.int p2), .val (.int p3)] [(.int p3), (.int p2), (.ref b1)])) rfl rfl (hb hby d4_47)
    have V_a1_15 : own_L Z n0 h15 a1 b1 b2 b3 b4 (own_upd fH p2 p3) fS (own_upd fN p3 (fH p2)) (own_upd (own_upd fP p3 (-1 : Int32)) (fH p2) p3) := own_L_wH V_a1_13 W15 l0 l1
    have K15 : Keep h0 h15 [b1, b2, b3, b4] := K13.wr W15 (Or.inl (List.mem_of_getElem? (i := 0) rfl))
    have N15 := Fr.snoc X15 N13 (own_L_g V0).1
    have Zs15 : n0 ≤ h15.size := by rw [W15.size]; exact Zs13
    obtain ⟨T16, X16, e16, st16⟩ := getF X15 hx hZ hown (host := "") (Or.inl (own_w hw 17 rfl)) Via.refl e15 V_a1_15.2.1.2.1 (g := (mkF m 49 #[.val (.ref a1), .val (.int p2), .val (.int p3)] [(.ref a1)])) rfl rfl (hb hby d4_49)
    obtain ⟨T17, h17, X17, e17, W17, st17⟩ := own_st X16 hx hZ e16 V_a1_15.2.2.1.2.1 l0 l1 (g := (mkF m 57 #[.val (.ref a1), .val (.int p2), .val (.int p3)] [(.int ((fS p2) + (1 : Int32))), (.int p2), (.ref b2)])) rfl rfl (hb hby d4_57)
    have V_a1_17 : own_L Z n0 h17 a1 b1 b2 b3 b4 (own_upd fH p2 p3) (own_upd fS p2 ((fS p2) + (1 : Int32))) (own_upd fN p3 (fH p2)) (own_upd (own_upd fP p3 (-1 : Int32)) (fH p2) p3) := own_L_wS V_a1_15 W17 l0 l1
    have K17 : Keep h0 h17 [b1, b2, b3, b4] := K15.wr W17 (Or.inl (List.mem_of_getElem? (i := 1) rfl))
    have N17 := Fr.snoc X17 N15 (own_L_g V0).2.1
    have Zs17 : n0 ≤ h17.size := by rw [W17.size]; exact Zs15
    obtain ⟨fs, hr, hrun, hended, hW, hsame⟩ := X17.leave (v := none) (fun _ => rfl)
    refine ⟨_, _, pre0 _ ?_, hrun, hended, _, _, rfl, ?_, ⟨_, rfl⟩, hW, hsame.mono (by decide) (by decide)⟩
    · show Steps p.tables e below (s₁.setTop (mkF m 0 #[.val (.ref a1), .val (.int p2), .val (.int p3)] [])) _
      refine XS.aloadN X0.here hx rfl (hb hby d4_0) rfl rfl ?_
      show Steps p.tables e below (s₁.setTop (mkF m 1 #[.val (.ref a1), .val (.int p2), .val (.int p3)] [(.ref a1)])) _
      refine st1 _ ?_
      show Steps p.tables e below (T1.setTop (mkF m 4 #[.val (.ref a1), .val (.int p2), .val (.int p3)] [(.ref b4)])) _
      refine XS.iloadN X1.here hx rfl (hb hby d4_4) rfl ?_
      refine XS.iconst X1.here hx rfl (hb hby d4_5) ?_
      show Steps p.tables e below (T1.setTop (mkF m 6 #[.val (.ref a1), .val (.int p2), .val (.int p3)] [(.int (-1 : Int32)), (.int p3), (.ref b4)])) _
      refine st2 _ ?_
      show Steps p.tables e below (T2.setTop (mkF m 7 #[.val (.ref a1), .val (.int p2), .val (.int p3)] [])) _
      refine XS.aloadN X2.here hx rfl (hb hby d4_7) rfl rfl ?_
      show Steps p.tables e below (T2.setTop (mkF m 8 #[.val (.ref a1), .val (.int p2), .val (.int p3)] [(.ref a1)])) _
      refine st3 _ ?_
      show Steps p.tables e below (T3.setTop (mkF m 11 #[.val (.ref a1), .val (.int p2), .val (.int p3)] [(.ref b3)])) _
      refine XS.iloadN X3.here hx rfl (hb hby d4_11) rfl ?_
      refine XS.aloadN X3.here hx rfl (hb hby d4_12) rfl rfl ?_
      show Steps p.tables e below (T3.setTop (mkF m 13 #[.val (.ref a1), .val (.int p2), .val (.int p3)] [(.ref a1), (.int p3), (.ref b3)])) _
      refine st4 _ ?_
      show Steps p.tables e below (T4.setTop (mkF m 16 #[.val (.ref a1), .val (.int p2), .val (.int p3)] [(.ref b1), (.int p3), (.ref b3)])) _
      refine XS.iloadN X4.here hx rfl (hb hby d4_16) rfl ?_
      show Steps p.tables e below (T4.setTop (mkF m 17 #[.val (.ref a1), .val (.int p2), .val (.int p3)] [(.int p2), (.ref b1), (.int p3), (.ref b3)])) _
      refine own_ld X4 hx hZ e4 V_a1_2.2.2.1.1 l0 l1 (g := (mkF m 17 #[.val (.ref a1), .val (.int p2), .val (.int p3)] [(.int p2), (.ref b1), (.int p3), (.ref b3)])) rfl rfl (hb hby d4_17) _ ?_
      show Steps p.tables e below (T4.setTop (mkF m 18 #[.val (.ref a1), .val (.int p2), .val (.int p3)] [(.int (fH p2)), (.int p3), (.ref b3)])) _
      refine st5 _ ?_
      show Steps p.tables e below (T5.setTop (mkF m 19 #[.val (.ref a1), .val (.int p2), .val (.int p3)] [])) _
      refine XS.aloadN X5.here hx rfl (hb hby d4_19) rfl rfl ?_
      show Steps p.tables e below (T5.setTop (mkF m 20 #[.val (.ref a1), .val (.int p2), .val (.int p3)] [(.ref a1)])) _
      refine st6 _ ?_
      show Steps p.tables e below (T6.setTop (mkF m 23 #[.val (.ref a1), .val (.int p2), .val (.int p3)] [(.ref b1)])) _
      refine XS.iloadN X6.here hx rfl (hb hby d4_23) rfl ?_
      show Steps p.tables e below (T6.setTop (mkF m 24 #[.val (.ref a1), .val (.int p2), .val (.int p3)] [(.int p2), (.ref b1)])) _
      refine own_ld X6 hx hZ e6 V_a1_5.2.2.1.1 l0 l1 (g := (mkF m 24 #[.val (.ref a1), .val (.int p2), .val (.int p3)] [(.int p2), (.ref b1)])) rfl rfl (hb hby d4_24) _ ?_
      show Steps p.tables e below (T6.setTop (mkF m 25 #[.val (.ref a1), .val (.int p2), .val (.int p3)] [(.int (fH p2))])) _
      refine XS.iconst X6.here hx rfl (hb hby d4_25) ?_
      show Steps p.tables e below (T6.setTop (mkF m 26 #[.val (.ref a1), .val (.int p2), .val (.int p3)] [(.int (-1 : Int32)), (.int (fH p2))])) _
      refine XS.icmpNo X6.here hx rfl (hb hby d4_26) rfl (feq hc26).1 ?_
      show Steps p.tables e below (T6.setTop (mkF m 29 #[.val (.ref a1), .val (.int p2), .val (.int p3)] [])) _
      refine XS.aloadN X6.here hx rfl (hb hby d4_29) rfl rfl ?_
      show Steps p.tables e below (T6.setTop (mkF m 30 #[.val (.ref a1), .val (.int p2), .val (.int p3)] [(.ref a1)])) _
      refine st11 _ ?_
      show Steps p.tables e below (T11.setTop (mkF m 33 #[.val (.ref a1), .val (.int p2), .val (.int p3)] [(.ref b4)])) _
      refine XS.aloadN X11.here hx rfl (hb hby d4_33) rfl rfl ?_
      show Steps p.tables e below (T11.setTop (mkF m 34 #[.val (.ref a1), .val (.int p2), .val (.int p3)] [(.ref a1), (.ref b4)])) _
      refine st12 _ ?_
      show Steps p.tables e below (T12.setTop (mkF m 37 #[.val (.ref a1), .val (.int p2), .val (.int p3)] [(.ref b1), (.ref b4)])) _
      refine XS.iloadN X12.here hx rfl (hb hby d4_37) rfl ?_
      show Steps p.tables e below (T12.setTop (mkF m 38 #[.val (.ref a1), .val (.int p2), .val (.int p3)] [(.int p2), (.ref b1), (.ref b4)])) _
      refine own_ld X12 hx hZ e12 V_a1_5.2.2.1.1 l0 l1 (g := (mkF m 38 #[.val (.ref a1), .val (.int p2), .val (.int p3)] [(.int p2), (.ref b1), (.ref b4)])) rfl rfl (hb hby d4_38) _ ?_
      show Steps p.tables e below (T12.setTop (mkF m 39 #[.val (.ref a1), .val (.int p2), .val (.int p3)] [(.int (fH p2)), (.ref b4)])) _
      refine XS.iloadN X12.here hx rfl (hb hby d4_39) rfl ?_
      show Steps p.tables e below (T12.setTop (mkF m 40 #[.val (.ref a1), .val (.int p2), .val (.int p3)] [(.int p3), (.int (fH p2)), (.ref b4)])) _
      refine st13 _ ?_
      show Steps p.tables e below (T13.setTop (mkF m 41 #[.val (.ref a1), .val (.int p2), .val (.int p3)] [])) _
      refine XS.aloadN X13.here hx rfl (hb hby d4_41) rfl rfl ?_
      show Steps p.tables e below (T13.setTop (mkF m 42 #[.val (.ref a1), .val (.int p2), .val (.int p3)] [(.ref a1)])) _
      refine st14 _ ?_
      show Steps p.tables e below (T14.setTop (mkF m 45 #[.val (.ref a1), .val (.int p2), .val (.int p3)] [(.ref b1)])) _
      refine XS.iloadN X14.here hx rfl (hb hby d4_45) rfl ?_
      refine XS.iloadN X14.here hx rfl (hb hby d4_46) rfl ?_
      show Steps p.tables e below (T14.setTop (mkF m 47 #[.val (.ref a1), .val (.int p2), .val (.int p3)] [(.int p3), (.int p2), (.ref b1)])) _
      refine st15 _ ?_
      show Steps p.tables e below (T15.setTop (mkF m 48 #[.val (.ref a1), .val (.int p2), .val (.int p3)] [])) _
      refine XS.aloadN X15.here hx rfl (hb hby d4_48) rfl rfl ?_
      show Steps p.tables e below (T15.setTop (mkF m 49 #[.val (.ref a1), .val (.int p2), .val (.int p3)] [(.ref a1)])) _
      refine st16 _ ?_
      show Steps p.tables e below (T16.setTop (mkF m 52 #[.val (.ref a1), .val (.int p2), .val (.int p3)] [(.ref b2)])) _
      refine XS.iloadN X16.here hx rfl (hb hby d4_52) rfl ?_
      refine XT.dup2 X16.here hx rfl (hb hby d4_53) rfl rfl rfl ?_
      show Steps p.tables e below (T16.setTop (mkF m 54 #[.val (.ref a1), .val (.int p2), .val (.int p3)] [(.int p2), (.ref b2), (.int p2), (.ref b2)])) _
      refine own_ld X16 hx hZ e16 V_a1_15.2.2.1.2.1 l0 l1 (g := (mkF m 54 #[.val (.ref a1), .val (.int p2), .val (.int p3)] [(.int p2), (.ref b2), (.int p2), (.ref b2)])) rfl rfl (hb hby d4_54) _ ?_
      show Steps p.tables e below (T16.setTop (mkF m 55 #[.val (.ref a1), .val (.int p2), .val (.int p3)] [(.int (fS p2)), (.int p2), (.ref b2)])) _
      refine XS.iconst X16.here hx rfl (hb hby d4_55) ?_
      show Steps p.tables e below (T16.setTop (mkF m 56 #[.val (.ref a1), .val (.int p2), .val (.int p3)] [(.int (1 : Int32)), (.int (fS p2)), (.int p2), (.ref b2)])) _
      refine XS.iadd X16.here hx rfl (hb hby d4_56) rfl ?_
      show Steps p.tables e below (T16.setTop (mkF m 57 #[.val (.ref a1), .val (.int p2), .val (.int p3)] [(.int ((fS p2) + (1 : Int32))), (.int p2), (.ref b2)])) _
      refine st17 _ ?_
      show Steps p.tables e below (T17.setTop (mkF m 58 #[.val (.ref a1), .val (.int p2), .val (.int p3)] [])) _
      exact X17.returnOut hx Bd.returns (hb hby d4_58) hr
    · show Q4 Z a1 p2 p3 b1 b2 b3 b4 fH fS fN fP h0 n0 _ T17.heap _
      rw [e17]
      refine ⟨rfl, N17, K17, ?_⟩
      rw [show own_pP fH fP p2 p3 = (own_upd (own_upd fP p3 (-1 : Int32)) (fH p2) p3) from if_neg hc26]
      exact V_a1_17
theorem own_rN_1 {fN fP : Int32 → Int32} {e : Int32} (q : fP e = (-1 : Int32)) : own_rN fN fP e e = fN e := by unfold own_rN; rw [if_pos q]
theorem own_rN_2 {fN fP : Int32 → Int32} {e : Int32} (q : ¬ (fP e = (-1 : Int32))) : own_rN fN fP e e = (own_upd fN (fP e) (fN e)) e := by unfold own_rN; rw [if_neg q]
theorem own_inN1 {fN fP : Int32 → Int32} {e : Int32} (q : fP e = (-1 : Int32)) (h : own_in (own_rN fN fP e e)) : own_in (fN e) := by rw [own_rN_1 q] at h; exact h
theorem own_inN2 {fN fP : Int32 → Int32} {e : Int32} (q : ¬ (fP e = (-1 : Int32))) (h : own_in (own_rN fN fP e e)) : own_in ((own_upd fN (fP e) (fN e)) e) := by rw [own_rN_2 q] at h; exact h
theorem d5_0 : decode prog_108_method_7_code 0 = .ok (.aload_n 0, 1) := by decide +kernel
theorem d5_1 : decode prog_108_method_7_code 1 = .ok (.getfield 25, 3) := by decide +kernel
theorem d5_4 : decode prog_108_method_7_code 4 = .ok (.iload_n 2, 1) := by decide +kernel
theorem d5_5 : decode prog_108_method_7_code 5 = .ok (.iaload, 1) := by decide +kernel
theorem d5_6 : decode prog_108_method_7_code 6 = .ok (.iconst (-1), 1) := by decide +kernel
theorem d5_7 : decode prog_108_method_7_code 7 = .ok (.if_icmp .ne 18, 3) := by decide +kernel
theorem d5_10 : decode prog_108_method_7_code 10 = .ok (.aload_n 0, 1) := by decide +kernel
theorem d5_11 : decode prog_108_method_7_code 11 = .ok (.getfield 7, 3) := by decide +kernel
theorem d5_14 : decode prog_108_method_7_code 14 = .ok (.iload_n 1, 1) := by decide +kernel
theorem d5_15 : decode prog_108_method_7_code 15 = .ok (.aload_n 0, 1) := by decide +kernel
theorem d5_16 : decode prog_108_method_7_code 16 = .ok (.getfield 22, 3) := by decide +kernel
theorem d5_19 : decode prog_108_method_7_code 19 = .ok (.iload_n 2, 1) := by decide +kernel
theorem d5_20 : decode prog_108_method_7_code 20 = .ok (.iaload, 1) := by decide +kernel
theorem d5_21 : decode prog_108_method_7_code 21 = .ok (.iastore, 1) := by decide +kernel
theorem d5_22 : decode prog_108_method_7_code 22 = .ok (.goto 20, 3) := by decide +kernel
theorem d5_25 : decode prog_108_method_7_code 25 = .ok (.aload_n 0, 1) := by decide +kernel
theorem d5_26 : decode prog_108_method_7_code 26 = .ok (.getfield 22, 3) := by decide +kernel
theorem d5_29 : decode prog_108_method_7_code 29 = .ok (.aload_n 0, 1) := by decide +kernel
theorem d5_30 : decode prog_108_method_7_code 30 = .ok (.getfield 25, 3) := by decide +kernel
theorem d5_33 : decode prog_108_method_7_code 33 = .ok (.iload_n 2, 1) := by decide +kernel
theorem d5_34 : decode prog_108_method_7_code 34 = .ok (.iaload, 1) := by decide +kernel
theorem d5_35 : decode prog_108_method_7_code 35 = .ok (.aload_n 0, 1) := by decide +kernel
theorem d5_36 : decode prog_108_method_7_code 36 = .ok (.getfield 22, 3) := by decide +kernel
theorem d5_39 : decode prog_108_method_7_code 39 = .ok (.iload_n 2, 1) := by decide +kernel
theorem d5_40 : decode prog_108_method_7_code 40 = .ok (.iaload, 1) := by decide +kernel
theorem d5_41 : decode prog_108_method_7_code 41 = .ok (.iastore, 1) := by decide +kernel
theorem d5_42 : decode prog_108_method_7_code 42 = .ok (.aload_n 0, 1) := by decide +kernel
theorem d5_43 : decode prog_108_method_7_code 43 = .ok (.getfield 22, 3) := by decide +kernel
theorem d5_46 : decode prog_108_method_7_code 46 = .ok (.iload_n 2, 1) := by decide +kernel
theorem d5_47 : decode prog_108_method_7_code 47 = .ok (.iaload, 1) := by decide +kernel
theorem d5_48 : decode prog_108_method_7_code 48 = .ok (.iconst (-1), 1) := by decide +kernel
theorem d5_49 : decode prog_108_method_7_code 49 = .ok (.if_icmp .eq 20, 3) := by decide +kernel
theorem d5_52 : decode prog_108_method_7_code 52 = .ok (.aload_n 0, 1) := by decide +kernel
theorem d5_53 : decode prog_108_method_7_code 53 = .ok (.getfield 25, 3) := by decide +kernel
theorem d5_56 : decode prog_108_method_7_code 56 = .ok (.aload_n 0, 1) := by decide +kernel
theorem d5_57 : decode prog_108_method_7_code 57 = .ok (.getfield 22, 3) := by decide +kernel
theorem d5_60 : decode prog_108_method_7_code 60 = .ok (.iload_n 2, 1) := by decide +kernel
theorem d5_61 : decode prog_108_method_7_code 61 = .ok (.iaload, 1) := by decide +kernel
theorem d5_62 : decode prog_108_method_7_code 62 = .ok (.aload_n 0, 1) := by decide +kernel
theorem d5_63 : decode prog_108_method_7_code 63 = .ok (.getfield 25, 3) := by decide +kernel
theorem d5_66 : decode prog_108_method_7_code 66 = .ok (.iload_n 2, 1) := by decide +kernel
theorem d5_67 : decode prog_108_method_7_code 67 = .ok (.iaload, 1) := by decide +kernel
theorem d5_68 : decode prog_108_method_7_code 68 = .ok (.iastore, 1) := by decide +kernel
theorem d5_69 : decode prog_108_method_7_code 69 = .ok (.aload_n 0, 1) := by decide +kernel
theorem d5_70 : decode prog_108_method_7_code 70 = .ok (.getfield 19, 3) := by decide +kernel
theorem d5_73 : decode prog_108_method_7_code 73 = .ok (.iload_n 1, 1) := by decide +kernel
theorem d5_74 : decode prog_108_method_7_code 74 = .ok (.dup2, 1) := by decide +kernel
theorem d5_75 : decode prog_108_method_7_code 75 = .ok (.iaload, 1) := by decide +kernel
theorem d5_76 : decode prog_108_method_7_code 76 = .ok (.iconst 1, 1) := by decide +kernel
theorem d5_77 : decode prog_108_method_7_code 77 = .ok (.isub, 1) := by decide +kernel
theorem d5_78 : decode prog_108_method_7_code 78 = .ok (.iastore, 1) := by decide +kernel
theorem d5_79 : decode prog_108_method_7_code 79 = .ok (.return_, 1) := by decide +kernel
theorem pn_5 : plainName "com/example/process_stepper/processstepper/equivalence/IntLists" = true := by first | (simp [plainName, overriddenIn]; done) | decide +kernel
theorem ef_5 (m : MethodId) (a1 : Addr) (p2 : Int32) (p3 : Int32) : entryFrame m #[(.ref a1), (.int p2), (.int p3)] 3 = mkF m 0 #[.val (.ref a1), .val (.int p2), .val (.int p3)] [] := by first | (simp [entryFrame, mkF, argsToLocals, Value.category]; done) | rfl
def Q5 (Z : State) (a1 : Addr) (p2 p3 : Int32) (b1 b2 b3 b4 : Addr) (fH fS fN fP : Int32 → Int32) (h0 : Heap) (n0 : Nat) (v : Option Value) (h : Heap) (L : List Loc) : Prop := v = none ∧ Fr n0 L ∧ Keep h0 h [b1, b2, b3, b4] ∧ own_L Z n0 h a1 b1 b2 b3 b4 (own_rH fH fN fP p2 p3) (own_upd fS p2 (fS p2 - (1 : Int32))) (own_rN fN fP p3) (own_rP fN fP p3)
set_option maxRecDepth 65536 in
set_option maxHeartbeats 40000000 in
theorem rm5 (l : Launch) (Z : State) (a0 : Array Value) (hw : ∀ d ∈ tables_1, d.before a0 Z = true) (ws : List Jvm.Cond) (a1 : Addr) (p2 p3 : Int32) (b1 b2 b3 b4 : Addr) (fH fS fN fP : Int32 → Int32) (h0 : Heap) (n0 : Nat) (Z0 : n0 ≤ h0.size) (V0 : own_L Z n0 h0 a1 b1 b2 b3 b4 fH fS fN fP) (l0 : ¬ p2 < 0) (l1 : p2 < (2 : Int32)) (q0 : ¬ p3 < 0) (q1 : p3 < (3 : Int32)) (hP : own_in (fP p3)) (hN : own_in (own_rN fN fP p3 p3)) :
    MetFree l (⟨"com/example/process_stepper/processstepper/equivalence/IntLists", "remove", "(II)V"⟩ : MethodName) (head1 (Jvm.Cond.code (⟨"com/example/process_stepper/processstepper/equivalence/IntLists", "remove", "(II)V"⟩ : MethodName) prog_108_method_7_code 3 none :: ws) ({ frames := 0, cells := 0, slots := 0, locals := 0 } : Room)) (fun a U => a = #[(.ref a1), (.int p2), (.int p3)] ∧ Z.Warmed39 U.vm ∧ U.heap = h0) (fun _ _ _ _ _ => True) (fun _ U o U' => ∃ v L, o = .returned v ∧ Q5 Z a1 p2 p3 b1 b2 b3 b4 fH fS fN fP h0 n0 v U'.heap L ∧ FrameEnd U o U' L ({ frames := 0, cells := 0, slots := 0, locals := 0 } : Room).cells ({ frames := 0, cells := 0, slots := 0, locals := 0 } : Room).slots) := by
  refine MetFree.of_bodySF (plainFor_of_name pn_5) hisR ?_
  intro p e s m args below meth c s₁ Bd hml0 hP hK
  obtain ⟨rfl, hZ, hh⟩ := hP
  have hx := Bd.exec
  have hby := Bd.bytes
  have hml : c.maxLocals = 3 := hml0
  have hown : s.vm.findClass "com/example/process_stepper/processstepper/equivalence/IntLists" = some m.cls := findClass_of_methodNamed Bd.named
  have hnm := (name_of_methodNamed Bd.named Bd.method).1
  have X0 : Stand p l e ({ frames := 0, cells := 0, slots := 0, locals := 0 } : Room) s m #[(.ref a1), (.int p2), (.int p3)] below meth c s₁ [] 0 0 := Stand.of_body Bd
  have e0 : s₁.heap = h0 := by rw [← hh, Bd.state]; rfl
  have N0 := Fr.nil n0
  have pre0 : ∀ t, Steps p.tables e below (s₁.setTop (mkF m 0 #[.val (.ref a1), .val (.int p2), .val (.int p3)] [])) t → Steps p.tables e below (s₁.setTop (entryFrame m #[(.ref a1), (.int p2), (.int p3)] 3)) t := fun t k => castTop (ef_5 m a1 p2 p3) k
  obtain ⟨T1, X1, e1, st1⟩ := getF X0 hx hZ hown (host := "") (Or.inl (own_w hw 21 rfl)) Via.refl e0 V0.2.1.2.2.2 (g := (mkF m 1 #[.val (.ref a1), .val (.int p2), .val (.int p3)] [(.ref a1)])) rfl rfl (hb hby d5_1)
  by_cases hc7 : (fP p3) = (-1 : Int32)
  · obtain ⟨T2, X2, e2, st2⟩ := getF X1 hx hZ hown (host := "") (Or.inl (own_w hw 11 rfl)) Via.refl e1 V0.2.1.1 (g := (mkF m 11 #[.val (.ref a1), .val (.int p2), .val (.int p3)] [(.ref a1)])) rfl rfl (hb hby d5_11)
    obtain ⟨T3, X3, e3, st3⟩ := getF X2 hx hZ hown (host := "") (Or.inl (own_w hw 19 rfl)) Via.refl e2 V0.2.1.2.2.1 (g := (mkF m 16 #[.val (.ref a1), .val (.int p2), .val (.int p3)] [(.ref a1), (.int p2), (.ref b1)])) rfl rfl (hb hby d5_16)
    obtain ⟨T4, h4, X4, e4, W4, st4⟩ := own_st X3 hx hZ e3 V0.2.2.1.1 l0 l1 (g := (mkF m 21 #[.val (.ref a1), .val (.int p2), .val (.int p3)] [(.int (fN p3)), (.int p2), (.ref b1)])) rfl rfl (hb hby d5_21)
    have V_a1_4 : own_L Z n0 h4 a1 b1 b2 b3 b4 (own_upd fH p2 (fN p3)) fS fN fP := own_L_wH V0 W4 l0 l1
    have K4 : Keep h0 h4 [b1, b2, b3, b4] := (Keep.refl h0 [b1, b2, b3, b4]).wr W4 (Or.inl (List.mem_of_getElem? (i := 0) rfl))
    have N4 := Fr.snoc X4 N0 (own_L_g V0).1
    have Zs4 : n0 ≤ h4.size := by rw [W4.size]; exact Z0
    obtain ⟨T5, X5, e5, st5⟩ := getF X4 hx hZ hown (host := "") (Or.inl (own_w hw 19 rfl)) Via.refl e4 V_a1_4.2.1.2.2.1 (g := (mkF m 43 #[.val (.ref a1), .val (.int p2), .val (.int p3)] [(.ref a1)])) rfl rfl (hb hby d5_43)
    by_cases hc49 : (fN p3) = (-1 : Int32)
    · obtain ⟨T6, X6, e6, st6⟩ := getF X5 hx hZ hown (host := "") (Or.inl (own_w hw 17 rfl)) Via.refl e5 V_a1_4.2.1.2.1 (g := (mkF m 70 #[.val (.ref a1), .val (.int p2), .val (.int p3)] [(.ref a1)])) rfl rfl (hb hby d5_70)
      obtain ⟨T7, h7, X7, e7, W7, st7⟩ := own_st X6 hx hZ e6 V_a1_4.2.2.1.2.1 l0 l1 (g := (mkF m 78 #[.val (.ref a1), .val (.int p2), .val (.int p3)] [(.int ((fS p2) - (1 : Int32))), (.int p2), (.ref b2)])) rfl rfl (hb hby d5_78)
      have V_a1_7 : own_L Z n0 h7 a1 b1 b2 b3 b4 (own_upd fH p2 (fN p3)) (own_upd fS p2 ((fS p2) - (1 : Int32))) fN fP := own_L_wS V_a1_4 W7 l0 l1
      have K7 : Keep h0 h7 [b1, b2, b3, b4] := K4.wr W7 (Or.inl (List.mem_of_getElem? (i := 1) rfl))
      have N7 := Fr.snoc X7 N4 (own_L_g V0).2.1
      have Zs7 : n0 ≤ h7.size := by rw [W7.size]; exact Zs4
      obtain ⟨fs, hr, hrun, hended, hW, hsame⟩ := X7.leave (v := none) (fun _ => rfl)
      refine ⟨_, _, pre0 _ ?_, hrun, hended, _, _, rfl, ?_, ⟨_, rfl⟩, hW, hsame.mono (by decide) (by decide)⟩
      · show Steps p.tables e below (s₁.setTop (mkF m 0 #[.val (.ref a1), .val (.int p2), .val (.int p3)] [])) _
        refine XS.aloadN X0.here hx rfl (hb hby d5_0) rfl rfl ?_
        show Steps p.tables e below (s₁.setTop (mkF m 1 #[.val (.ref a1), .val (.int p2), .val (.int p3)] [(.ref a1)])) _
        refine st1 _ ?_
        show Steps p.tables e below (T1.setTop (mkF m 4 #[.val (.ref a1), .val (.int p2), .val (.int p3)] [(.ref b4)])) _
        refine XS.iloadN X1.here hx rfl (hb hby d5_4) rfl ?_
        show Steps p.tables e below (T1.setTop (mkF m 5 #[.val (.ref a1), .val (.int p2), .val (.int p3)] [(.int p3), (.ref b4)])) _
        refine own_ld X1 hx hZ e1 V0.2.2.1.2.2.2 q0 q1 (g := (mkF m 5 #[.val (.ref a1), .val (.int p2), .val (.int p3)] [(.int p3), (.ref b4)])) rfl rfl (hb hby d5_5) _ ?_
        show Steps p.tables e below (T1.setTop (mkF m 6 #[.val (.ref a1), .val (.int p2), .val (.int p3)] [(.int (fP p3))])) _
        refine XS.iconst X1.here hx rfl (hb hby d5_6) ?_
        show Steps p.tables e below (T1.setTop (mkF m 7 #[.val (.ref a1), .val (.int p2), .val (.int p3)] [(.int (-1 : Int32)), (.int (fP p3))])) _
        refine XS.icmpNo X1.here hx rfl (hb hby d5_7) rfl (teq hc7).2 ?_
        show Steps p.tables e below (T1.setTop (mkF m 10 #[.val (.ref a1), .val (.int p2), .val (.int p3)] [])) _
        refine XS.aloadN X1.here hx rfl (hb hby d5_10) rfl rfl ?_
        show Steps p.tables e below (T1.setTop (mkF m 11 #[.val (.ref a1), .val (.int p2), .val (.int p3)] [(.ref a1)])) _
        refine st2 _ ?_
        show Steps p.tables e below (T2.setTop (mkF m 14 #[.val (.ref a1), .val (.int p2), .val (.int p3)] [(.ref b1)])) _
        refine XS.iloadN X2.here hx rfl (hb hby d5_14) rfl ?_
        refine XS.aloadN X2.here hx rfl (hb hby d5_15) rfl rfl ?_
        show Steps p.tables e below (T2.setTop (mkF m 16 #[.val (.ref a1), .val (.int p2), .val (.int p3)] [(.ref a1), (.int p2), (.ref b1)])) _
        refine st3 _ ?_
        show Steps p.tables e below (T3.setTop (mkF m 19 #[.val (.ref a1), .val (.int p2), .val (.int p3)] [(.ref b3), (.int p2), (.ref b1)])) _
        refine XS.iloadN X3.here hx rfl (hb hby d5_19) rfl ?_
        show Steps p.tables e below (T3.setTop (mkF m 20 #[.val (.ref a1), .val (.int p2), .val (.int p3)] [(.int p3), (.ref b3), (.int p2), (.ref b1)])) _
        refine own_ld X3 hx hZ e3 V0.2.2.1.2.2.1 q0 q1 (g := (mkF m 20 #[.val (.ref a1), .val (.int p2), .val (.int p3)] [(.int p3), (.ref b3), (.int p2), (.ref b1)])) rfl rfl (hb hby d5_20) _ ?_
        show Steps p.tables e below (T3.setTop (mkF m 21 #[.val (.ref a1), .val (.int p2), .val (.int p3)] [(.int (fN p3)), (.int p2), (.ref b1)])) _
        refine st4 _ ?_
        show Steps p.tables e below (T4.setTop (mkF m 22 #[.val (.ref a1), .val (.int p2), .val (.int p3)] [])) _
        refine XS.goto X4.here hx rfl (pc0 := 22) (pc' := 42) rfl (hb hby d5_22) (by decide) (by decide) ?_
        refine XS.aloadN X4.here hx rfl (hb hby d5_42) rfl rfl ?_
        show Steps p.tables e below (T4.setTop (mkF m 43 #[.val (.ref a1), .val (.int p2), .val (.int p3)] [(.ref a1)])) _
        refine st5 _ ?_
        show Steps p.tables e below (T5.setTop (mkF m 46 #[.val (.ref a1), .val (.int p2), .val (.int p3)] [(.ref b3)])) _
        refine XS.iloadN X5.here hx rfl (hb hby d5_46) rfl ?_
        show Steps p.tables e below (T5.setTop (mkF m 47 #[.val (.ref a1), .val (.int p2), .val (.int p3)] [(.int p3), (.ref b3)])) _
        refine own_ld X5 hx hZ e5 V_a1_4.2.2.1.2.2.1 q0 q1 (g := (mkF m 47 #[.val (.ref a1), .val (.int p2), .val (.int p3)] [(.int p3), (.ref b3)])) rfl rfl (hb hby d5_47) _ ?_
        show Steps p.tables e below (T5.setTop (mkF m 48 #[.val (.ref a1), .val (.int p2), .val (.int p3)] [(.int (fN p3))])) _
        refine XS.iconst X5.here hx rfl (hb hby d5_48) ?_
        show Steps p.tables e below (T5.setTop (mkF m 49 #[.val (.ref a1), .val (.int p2), .val (.int p3)] [(.int (-1 : Int32)), (.int (fN p3))])) _
        refine XS.icmpYes X5.here hx rfl (pc0 := 49) (pc' := 69) rfl (hb hby d5_49) rfl (teq hc49).1 (by decide) (by decide) ?_
        show Steps p.tables e below (T5.setTop (mkF m 69 #[.val (.ref a1), .val (.int p2), .val (.int p3)] [])) _
        refine XS.aloadN X5.here hx rfl (hb hby d5_69) rfl rfl ?_
        show Steps p.tables e below (T5.setTop (mkF m 70 #[.val (.ref a1), .val (.int p2), .val (.int p3)] [(.ref a1)])) _
        refine st6 _ ?_
        show Steps p.tables e below (T6.setTop (mkF m 73 #[.val (.ref a1), .val (.int p2), .val (.int p3)] [(.ref b2)])) _
        refine XS.iloadN X6.here hx rfl (hb hby d5_73) rfl ?_
        refine XT.dup2 X6.here hx rfl (hb hby d5_74) rfl rfl rfl ?_
        show Steps p.tables e below (T6.setTop (mkF m 75 #[.val (.ref a1), .val (.int p2), .val (.int p3)] [(.int p2), (.ref b2), (.int p2), (.ref b2)])) _
        refine own_ld X6 hx hZ e6 V_a1_4.2.2.1.2.1 l0 l1 (g := (mkF m 75 #[.val (.ref a1), .val (.int p2), .val (.int p3)] [(.int p2), (.ref b2), (.int p2), (.ref b2)])) rfl rfl (hb hby d5_75) _ ?_
        show Steps p.tables e below (T6.setTop (mkF m 76 #[.val (.ref a1), .val (.int p2), .val (.int p3)] [(.int (fS p2)), (.int p2), (.ref b2)])) _
        refine XS.iconst X6.here hx rfl (hb hby d5_76) ?_
        show Steps p.tables e below (T6.setTop (mkF m 77 #[.val (.ref a1), .val (.int p2), .val (.int p3)] [(.int (1 : Int32)), (.int (fS p2)), (.int p2), (.ref b2)])) _
        refine XS.isub X6.here hx rfl (hb hby d5_77) rfl ?_
        show Steps p.tables e below (T6.setTop (mkF m 78 #[.val (.ref a1), .val (.int p2), .val (.int p3)] [(.int ((fS p2) - (1 : Int32))), (.int p2), (.ref b2)])) _
        refine st7 _ ?_
        show Steps p.tables e below (T7.setTop (mkF m 79 #[.val (.ref a1), .val (.int p2), .val (.int p3)] [])) _
        exact X7.returnOut hx Bd.returns (hb hby d5_79) hr
      · show Q5 Z a1 p2 p3 b1 b2 b3 b4 fH fS fN fP h0 n0 _ T7.heap _
        rw [e7]
        refine ⟨rfl, N7, K7, ?_⟩
        rw [show own_rP fN fP p3 = fP from by unfold own_rP; rw [own_rN_1 hc7]; exact if_pos hc49, show own_rN fN fP p3 = fN from if_pos hc7, show own_rH fH fN fP p2 p3 = (own_upd fH p2 (fN p3)) from if_pos hc7]
        exact V_a1_7
    · obtain ⟨T8, X8, e8, st8⟩ := getF X5 hx hZ hown (host := "") (Or.inl (own_w hw 21 rfl)) Via.refl e5 V_a1_4.2.1.2.2.2 (g := (mkF m 53 #[.val (.ref a1), .val (.int p2), .val (.int p3)] [(.ref a1)])) rfl rfl (hb hby d5_53)
      obtain ⟨T9, X9, e9, st9⟩ := getF X8 hx hZ hown (host := "") (Or.inl (own_w hw 19 rfl)) Via.refl e8 V_a1_4.2.1.2.2.1 (g := (mkF m 57 #[.val (.ref a1), .val (.int p2), .val (.int p3)] [(.ref a1), (.ref b4)])) rfl rfl (hb hby d5_57)
      obtain ⟨T10, X10, e10, st10⟩ := getF X9 hx hZ hown (host := "") (Or.inl (own_w hw 21 rfl)) Via.refl e9 V_a1_4.2.1.2.2.2 (g := (mkF m 63 #[.val (.ref a1), .val (.int p2), .val (.int p3)] [(.ref a1), (.int (fN p3)), (.ref b4)])) rfl rfl (hb hby d5_63)
      obtain ⟨T11, h11, X11, e11, W11, st11⟩ := own_st X10 hx hZ e10 V_a1_4.2.2.1.2.2.2 ((own_inN1 hc7 hN).resolve_left hc49).1 ((own_inN1 hc7 hN).resolve_left hc49).2 (g := (mkF m 68 #[.val (.ref a1), .val (.int p2), .val (.int p3)] [(.int (fP p3)), (.int (fN p3)), (.ref b4)])) rfl rfl (hb hby d5_68)
      have V_a1_11 : own_L Z n0 h11 a1 b1 b2 b3 b4 (own_upd fH p2 (fN p3)) fS fN (own_upd fP (fN p3) (fP p3)) := own_L_wP V_a1_4 W11 ((own_inN1 hc7 hN).resolve_left hc49).1 ((own_inN1 hc7 hN).resolve_left hc49).2
      have K11 : Keep h0 h11 [b1, b2, b3, b4] := K4.wr W11 (Or.inl (List.mem_of_getElem? (i := 3) rfl))
      have N11 := Fr.snoc X11 N4 (own_L_g V0).2.2.2
      have Zs11 : n0 ≤ h11.size := by rw [W11.size]; exact Zs4
      obtain ⟨T12, X12, e12, st12⟩ := getF X11 hx hZ hown (host := "") (Or.inl (own_w hw 17 rfl)) Via.refl e11 V_a1_11.2.1.2.1 (g := (mkF m 70 #[.val (.ref a1), .val (.int p2), .val (.int p3)] [(.ref a1)])) rfl rfl (hb hby d5_70)
      obtain ⟨T13, h13, X13, e13, W13, st13⟩ := own_st X12 hx hZ e12 V_a1_11.2.2.1.2.1 l0 l1 (g := (mkF m 78 #[.val (.ref a1), .val (.int p2), .val (.int p3)] [(.int ((fS p2) - (1 : Int32))), (.int p2), (.ref b2)])) rfl rfl (hb hby d5_78)
      have V_a1_13 : own_L Z n0 h13 a1 b1 b2 b3 b4 (own_upd fH p2 (fN p3)) (own_upd fS p2 ((fS p2) - (1 : Int32))) fN (own_upd fP (fN p3) (fP p3)) := own_L_wS V_a1_11 W13 l0 l1
      have K13 : Keep h0 h13 [b1, b2, b3, b4] := K11.wr W13 (Or.inl (List.mem_of_getElem? (i := 1) rfl))
      have N13 := Fr.snoc X13 N11 (own_L_g V0).2.1
      have Zs13 : n0 ≤ h13.size := by rw [W13.size]; exact Zs11
      obtain ⟨fs, hr, hrun, hended, hW, hsame⟩ := X13.leave (v := none) (fun _ => rfl)
      refine ⟨_, _, pre0 _ ?_, hrun, hended, _, _, rfl, ?_, ⟨_, rfl⟩, hW, hsame.mono (by decide) (by decide)⟩
      · show Steps p.tables e below (s₁.setTop (mkF m 0 #[.val (.ref a1), .val (.int p2), .val (.int p3)] [])) _
        refine XS.aloadN X0.here hx rfl (hb hby d5_0) rfl rfl ?_
        show Steps p.tables e below (s₁.setTop (mkF m 1 #[.val (.ref a1), .val (.int p2), .val (.int p3)] [(.ref a1)])) _
        refine st1 _ ?_
        show Steps p.tables e below (T1.setTop (mkF m 4 #[.val (.ref a1), .val (.int p2), .val (.int p3)] [(.ref b4)])) _
        refine XS.iloadN X1.here hx rfl (hb hby d5_4) rfl ?_
        show Steps p.tables e below (T1.setTop (mkF m 5 #[.val (.ref a1), .val (.int p2), .val (.int p3)] [(.int p3), (.ref b4)])) _
        refine own_ld X1 hx hZ e1 V0.2.2.1.2.2.2 q0 q1 (g := (mkF m 5 #[.val (.ref a1), .val (.int p2), .val (.int p3)] [(.int p3), (.ref b4)])) rfl rfl (hb hby d5_5) _ ?_
        show Steps p.tables e below (T1.setTop (mkF m 6 #[.val (.ref a1), .val (.int p2), .val (.int p3)] [(.int (fP p3))])) _
        refine XS.iconst X1.here hx rfl (hb hby d5_6) ?_
        show Steps p.tables e below (T1.setTop (mkF m 7 #[.val (.ref a1), .val (.int p2), .val (.int p3)] [(.int (-1 : Int32)), (.int (fP p3))])) _
        refine XS.icmpNo X1.here hx rfl (hb hby d5_7) rfl (teq hc7).2 ?_
        show Steps p.tables e below (T1.setTop (mkF m 10 #[.val (.ref a1), .val (.int p2), .val (.int p3)] [])) _
        refine XS.aloadN X1.here hx rfl (hb hby d5_10) rfl rfl ?_
        show Steps p.tables e below (T1.setTop (mkF m 11 #[.val (.ref a1), .val (.int p2), .val (.int p3)] [(.ref a1)])) _
        refine st2 _ ?_
        show Steps p.tables e below (T2.setTop (mkF m 14 #[.val (.ref a1), .val (.int p2), .val (.int p3)] [(.ref b1)])) _
        refine XS.iloadN X2.here hx rfl (hb hby d5_14) rfl ?_
        refine XS.aloadN X2.here hx rfl (hb hby d5_15) rfl rfl ?_
        show Steps p.tables e below (T2.setTop (mkF m 16 #[.val (.ref a1), .val (.int p2), .val (.int p3)] [(.ref a1), (.int p2), (.ref b1)])) _
        refine st3 _ ?_
        show Steps p.tables e below (T3.setTop (mkF m 19 #[.val (.ref a1), .val (.int p2), .val (.int p3)] [(.ref b3), (.int p2), (.ref b1)])) _
        refine XS.iloadN X3.here hx rfl (hb hby d5_19) rfl ?_
        show Steps p.tables e below (T3.setTop (mkF m 20 #[.val (.ref a1), .val (.int p2), .val (.int p3)] [(.int p3), (.ref b3), (.int p2), (.ref b1)])) _
        refine own_ld X3 hx hZ e3 V0.2.2.1.2.2.1 q0 q1 (g := (mkF m 20 #[.val (.ref a1), .val (.int p2), .val (.int p3)] [(.int p3), (.ref b3), (.int p2), (.ref b1)])) rfl rfl (hb hby d5_20) _ ?_
        show Steps p.tables e below (T3.setTop (mkF m 21 #[.val (.ref a1), .val (.int p2), .val (.int p3)] [(.int (fN p3)), (.int p2), (.ref b1)])) _
        refine st4 _ ?_
        show Steps p.tables e below (T4.setTop (mkF m 22 #[.val (.ref a1), .val (.int p2), .val (.int p3)] [])) _
        refine XS.goto X4.here hx rfl (pc0 := 22) (pc' := 42) rfl (hb hby d5_22) (by decide) (by decide) ?_
        refine XS.aloadN X4.here hx rfl (hb hby d5_42) rfl rfl ?_
        show Steps p.tables e below (T4.setTop (mkF m 43 #[.val (.ref a1), .val (.int p2), .val (.int p3)] [(.ref a1)])) _
        refine st5 _ ?_
        show Steps p.tables e below (T5.setTop (mkF m 46 #[.val (.ref a1), .val (.int p2), .val (.int p3)] [(.ref b3)])) _
        refine XS.iloadN X5.here hx rfl (hb hby d5_46) rfl ?_
        show Steps p.tables e below (T5.setTop (mkF m 47 #[.val (.ref a1), .val (.int p2), .val (.int p3)] [(.int p3), (.ref b3)])) _
        refine own_ld X5 hx hZ e5 V_a1_4.2.2.1.2.2.1 q0 q1 (g := (mkF m 47 #[.val (.ref a1), .val (.int p2), .val (.int p3)] [(.int p3), (.ref b3)])) rfl rfl (hb hby d5_47) _ ?_
        show Steps p.tables e below (T5.setTop (mkF m 48 #[.val (.ref a1), .val (.int p2), .val (.int p3)] [(.int (fN p3))])) _
        refine XS.iconst X5.here hx rfl (hb hby d5_48) ?_
        show Steps p.tables e below (T5.setTop (mkF m 49 #[.val (.ref a1), .val (.int p2), .val (.int p3)] [(.int (-1 : Int32)), (.int (fN p3))])) _
        refine XS.icmpNo X5.here hx rfl (hb hby d5_49) rfl (feq hc49).1 ?_
        show Steps p.tables e below (T5.setTop (mkF m 52 #[.val (.ref a1), .val (.int p2), .val (.int p3)] [])) _
        refine XS.aloadN X5.here hx rfl (hb hby d5_52) rfl rfl ?_
        show Steps p.tables e below (T5.setTop (mkF m 53 #[.val (.ref a1), .val (.int p2), .val (.int p3)] [(.ref a1)])) _
        refine st8 _ ?_
        show Steps p.tables e below (T8.setTop (mkF m 56 #[.val (.ref a1), .val (.int p2), .val (.int p3)] [(.ref b4)])) _
        refine XS.aloadN X8.here hx rfl (hb hby d5_56) rfl rfl ?_
        show Steps p.tables e below (T8.setTop (mkF m 57 #[.val (.ref a1), .val (.int p2), .val (.int p3)] [(.ref a1), (.ref b4)])) _
        refine st9 _ ?_
        show Steps p.tables e below (T9.setTop (mkF m 60 #[.val (.ref a1), .val (.int p2), .val (.int p3)] [(.ref b3), (.ref b4)])) _
        refine XS.iloadN X9.here hx rfl (hb hby d5_60) rfl ?_
        show Steps p.tables e below (T9.setTop (mkF m 61 #[.val (.ref a1), .val (.int p2), .val (.int p3)] [(.int p3), (.ref b3), (.ref b4)])) _
        refine own_ld X9 hx hZ e9 V_a1_4.2.2.1.2.2.1 q0 q1 (g := (mkF m 61 #[.val (.ref a1), .val (.int p2), .val (.int p3)] [(.int p3), (.ref b3), (.ref b4)])) rfl rfl (hb hby d5_61) _ ?_
        show Steps p.tables e below (T9.setTop (mkF m 62 #[.val (.ref a1), .val (.int p2), .val (.int p3)] [(.int (fN p3)), (.ref b4)])) _
        refine XS.aloadN X9.here hx rfl (hb hby d5_62) rfl rfl ?_
        show Steps p.tables e below (T9.setTop (mkF m 63 #[.val (.ref a1), .val (.int p2), .val (.int p3)] [(.ref a1), (.int (fN p3)), (.ref b4)])) _
        refine st10 _ ?_
        show Steps p.tables e below (T10.setTop (mkF m 66 #[.val (.ref a1), .val (.int p2), .val (.int p3)] [(.ref b4), (.int (fN p3)), (.ref b4)])) _
        refine XS.iloadN X10.here hx rfl (hb hby d5_66) rfl ?_
        show Steps p.tables e below (T10.setTop (mkF m 67 #[.val (.ref a1), .val (.int p2), .val (.int p3)] [(.int p3), (.ref b4), (.int (fN p3)), (.ref b4)])) _
        refine own_ld X10 hx hZ e10 V_a1_4.2.2.1.2.2.2 q0 q1 (g := (mkF m 67 #[.val (.ref a1), .val (.int p2), .val (.int p3)] [(.int p3), (.ref b4), (.int (fN p3)), (.ref b4)])) rfl rfl (hb hby d5_67) _ ?_
        show Steps p.tables e below (T10.setTop (mkF m 68 #[.val (.ref a1), .val (.int p2), .val (.int p3)] [(.int (fP p3)), (.int (fN p3)), (.ref b4)])) _
        refine st11 _ ?_
        show Steps p.tables e below (T11.setTop (mkF m 69 #[.val (.ref a1), .val (.int p2), .val (.int p3)] [])) _
        refine XS.aloadN X11.here hx rfl (hb hby d5_69) rfl rfl ?_
        show Steps p.tables e below (T11.setTop (mkF m 70 #[.val (.ref a1), .val (.int p2), .val (.int p3)] [(.ref a1)])) _
        refine st12 _ ?_
        show Steps p.tables e below (T12.setTop (mkF m 73 #[.val (.ref a1), .val (.int p2), .val (.int p3)] [(.ref b2)])) _
        refine XS.iloadN X12.here hx rfl (hb hby d5_73) rfl ?_
        refine XT.dup2 X12.here hx rfl (hb hby d5_74) rfl rfl rfl ?_
        show Steps p.tables e below (T12.setTop (mkF m 75 #[.val (.ref a1), .val (.int p2), .val (.int p3)] [(.int p2), (.ref b2), (.int p2), (.ref b2)])) _
        refine own_ld X12 hx hZ e12 V_a1_11.2.2.1.2.1 l0 l1 (g := (mkF m 75 #[.val (.ref a1), .val (.int p2), .val (.int p3)] [(.int p2), (.ref b2), (.int p2), (.ref b2)])) rfl rfl (hb hby d5_75) _ ?_
        show Steps p.tables e below (T12.setTop (mkF m 76 #[.val (.ref a1), .val (.int p2), .val (.int p3)] [(.int (fS p2)), (.int p2), (.ref b2)])) _
        refine XS.iconst X12.here hx rfl (hb hby d5_76) ?_
        show Steps p.tables e below (T12.setTop (mkF m 77 #[.val (.ref a1), .val (.int p2), .val (.int p3)] [(.int (1 : Int32)), (.int (fS p2)), (.int p2), (.ref b2)])) _
        refine XS.isub X12.here hx rfl (hb hby d5_77) rfl ?_
        show Steps p.tables e below (T12.setTop (mkF m 78 #[.val (.ref a1), .val (.int p2), .val (.int p3)] [(.int ((fS p2) - (1 : Int32))), (.int p2), (.ref b2)])) _
        refine st13 _ ?_
        show Steps p.tables e below (T13.setTop (mkF m 79 #[.val (.ref a1), .val (.int p2), .val (.int p3)] [])) _
        exact X13.returnOut hx Bd.returns (hb hby d5_79) hr
      · show Q5 Z a1 p2 p3 b1 b2 b3 b4 fH fS fN fP h0 n0 _ T13.heap _
        rw [e13]
        refine ⟨rfl, N13, K13, ?_⟩
        rw [show own_rP fN fP p3 = (own_upd fP (fN p3) (fP p3)) from by unfold own_rP; rw [own_rN_1 hc7]; exact if_neg hc49, show own_rN fN fP p3 = fN from if_pos hc7, show own_rH fH fN fP p2 p3 = (own_upd fH p2 (fN p3)) from if_pos hc7]
        exact V_a1_13
  · obtain ⟨T14, X14, e14, st14⟩ := getF X1 hx hZ hown (host := "") (Or.inl (own_w hw 19 rfl)) Via.refl e1 V0.2.1.2.2.1 (g := (mkF m 26 #[.val (.ref a1), .val (.int p2), .val (.int p3)] [(.ref a1)])) rfl rfl (hb hby d5_26)
    obtain ⟨T15, X15, e15, st15⟩ := getF X14 hx hZ hown (host := "") (Or.inl (own_w hw 21 rfl)) Via.refl e14 V0.2.1.2.2.2 (g := (mkF m 30 #[.val (.ref a1), .val (.int p2), .val (.int p3)] [(.ref a1), (.ref b3)])) rfl rfl (hb hby d5_30)
    obtain ⟨T16, X16, e16, st16⟩ := getF X15 hx hZ hown (host := "") (Or.inl (own_w hw 19 rfl)) Via.refl e15 V0.2.1.2.2.1 (g := (mkF m 36 #[.val (.ref a1), .val (.int p2), .val (.int p3)] [(.ref a1), (.int (fP p3)), (.ref b3)])) rfl rfl (hb hby d5_36)
    obtain ⟨T17, h17, X17, e17, W17, st17⟩ := own_st X16 hx hZ e16 V0.2.2.1.2.2.1 (hP.resolve_left hc7).1 (hP.resolve_left hc7).2 (g := (mkF m 41 #[.val (.ref a1), .val (.int p2), .val (.int p3)] [(.int (fN p3)), (.int (fP p3)), (.ref b3)])) rfl rfl (hb hby d5_41)
    have V_a1_17 : own_L Z n0 h17 a1 b1 b2 b3 b4 fH fS (own_upd fN (fP p3) (fN p3)) fP := own_L_wN V0 W17 (hP.resolve_left hc7).1 (hP.resolve_left hc7).2
    have K17 : Keep h0 h17 [b1, b2, b3, b4] := (Keep.refl h0 [b1, b2, b3, b4]).wr W17 (Or.inl (List.mem_of_getElem? (i := 2) rfl))
    have N17 := Fr.snoc X17 N0 (own_L_g V0).2.2.1
    have Zs17 : n0 ≤ h17.size := by rw [W17.size]; exact Z0
    obtain ⟨T18, X18, e18, st18⟩ := getF X17 hx hZ hown (host := "") (Or.inl (own_w hw 19 rfl)) Via.refl e17 V_a1_17.2.1.2.2.1 (g := (mkF m 43 #[.val (.ref a1), .val (.int p2), .val (.int p3)] [(.ref a1)])) rfl rfl (hb hby d5_43)
    by_cases hc49 : ((own_upd fN (fP p3) (fN p3)) p3) = (-1 : Int32)
    · obtain ⟨T19, X19, e19, st19⟩ := getF X18 hx hZ hown (host := "") (Or.inl (own_w hw 17 rfl)) Via.refl e18 V_a1_17.2.1.2.1 (g := (mkF m 70 #[.val (.ref a1), .val (.int p2), .val (.int p3)] [(.ref a1)])) rfl rfl (hb hby d5_70)
      obtain ⟨T20, h20, X20, e20, W20, st20⟩ := own_st X19 hx hZ e19 V_a1_17.2.2.1.2.1 l0 l1 (g := (mkF m 78 #[.val (.ref a1), .val (.int p2), .val (.int p3)] [(.int ((fS p2) - (1 : Int32))), (.int p2), (.ref b2)])) rfl rfl (hb hby d5_78)
      have V_a1_20 : own_L Z n0 h20 a1 b1 b2 b3 b4 fH (own_upd fS p2 ((fS p2) - (1 : Int32))) (own_upd fN (fP p3) (fN p3)) fP := own_L_wS V_a1_17 W20 l0 l1
      have K20 : Keep h0 h20 [b1, b2, b3, b4] := K17.wr W20 (Or.inl (List.mem_of_getElem? (i := 1) rfl))
      have N20 := Fr.snoc X20 N17 (own_L_g V0).2.1
      have Zs20 : n0 ≤ h20.size := by rw [W20.size]; exact Zs17
      obtain ⟨fs, hr, hrun, hended, hW, hsame⟩ := X20.leave (v := none) (fun _ => rfl)
      refine ⟨_, _, pre0 _ ?_, hrun, hended, _, _, rfl, ?_, ⟨_, rfl⟩, hW, hsame.mono (by decide) (by decide)⟩
      · show Steps p.tables e below (s₁.setTop (mkF m 0 #[.val (.ref a1), .val (.int p2), .val (.int p3)] [])) _
        refine XS.aloadN X0.here hx rfl (hb hby d5_0) rfl rfl ?_
        show Steps p.tables e below (s₁.setTop (mkF m 1 #[.val (.ref a1), .val (.int p2), .val (.int p3)] [(.ref a1)])) _
        refine st1 _ ?_
        show Steps p.tables e below (T1.setTop (mkF m 4 #[.val (.ref a1), .val (.int p2), .val (.int p3)] [(.ref b4)])) _
        refine XS.iloadN X1.here hx rfl (hb hby d5_4) rfl ?_
        show Steps p.tables e below (T1.setTop (mkF m 5 #[.val (.ref a1), .val (.int p2), .val (.int p3)] [(.int p3), (.ref b4)])) _
        refine own_ld X1 hx hZ e1 V0.2.2.1.2.2.2 q0 q1 (g := (mkF m 5 #[.val (.ref a1), .val (.int p2), .val (.int p3)] [(.int p3), (.ref b4)])) rfl rfl (hb hby d5_5) _ ?_
        show Steps p.tables e below (T1.setTop (mkF m 6 #[.val (.ref a1), .val (.int p2), .val (.int p3)] [(.int (fP p3))])) _
        refine XS.iconst X1.here hx rfl (hb hby d5_6) ?_
        show Steps p.tables e below (T1.setTop (mkF m 7 #[.val (.ref a1), .val (.int p2), .val (.int p3)] [(.int (-1 : Int32)), (.int (fP p3))])) _
        refine XS.icmpYes X1.here hx rfl (pc0 := 7) (pc' := 25) rfl (hb hby d5_7) rfl (feq hc7).2 (by decide) (by decide) ?_
        show Steps p.tables e below (T1.setTop (mkF m 25 #[.val (.ref a1), .val (.int p2), .val (.int p3)] [])) _
        refine XS.aloadN X1.here hx rfl (hb hby d5_25) rfl rfl ?_
        show Steps p.tables e below (T1.setTop (mkF m 26 #[.val (.ref a1), .val (.int p2), .val (.int p3)] [(.ref a1)])) _
        refine st14 _ ?_
        show Steps p.tables e below (T14.setTop (mkF m 29 #[.val (.ref a1), .val (.int p2), .val (.int p3)] [(.ref b3)])) _
        refine XS.aloadN X14.here hx rfl (hb hby d5_29) rfl rfl ?_
        show Steps p.tables e below (T14.setTop (mkF m 30 #[.val (.ref a1), .val (.int p2), .val (.int p3)] [(.ref a1), (.ref b3)])) _
        refine st15 _ ?_
        show Steps p.tables e below (T15.setTop (mkF m 33 #[.val (.ref a1), .val (.int p2), .val (.int p3)] [(.ref b4), (.ref b3)])) _
        refine XS.iloadN X15.here hx rfl (hb hby d5_33) rfl ?_
        show Steps p.tables e below (T15.setTop (mkF m 34 #[.val (.ref a1), .val (.int p2), .val (.int p3)] [(.int p3), (.ref b4), (.ref b3)])) _
        refine own_ld X15 hx hZ e15 V0.2.2.1.2.2.2 q0 q1 (g := (mkF m 34 #[.val (.ref a1), .val (.int p2), .val (.int p3)] [(.int p3), (.ref b4), (.ref b3)])) rfl rfl (hb hby d5_34) _ ?_
        show Steps p.tables e below (T15.setTop (mkF m 35 #[.val (.ref a1), .val (.int p2), .val (.int p3)] [(.int (fP p3)), (.ref b3)])) _
        refine XS.aloadN X15.here hx rfl (hb hby d5_35) rfl rfl ?_
        show Steps p.tables e below (T15.setTop (mkF m 36 #[.val (.ref a1), .val (.int p2), .val (.int p3)] [(.ref a1), (.int (fP p3)), (.ref b3)])) _
        refine st16 _ ?_
        show Steps p.tables e below (T16.setTop (mkF m 39 #[.val (.ref a1), .val (.int p2), .val (.int p3)] [(.ref b3), (.int (fP p3)), (.ref b3)])) _
        refine XS.iloadN X16.here hx rfl (hb hby d5_39) rfl ?_
        show Steps p.tables e below (T16.setTop (mkF m 40 #[.val (.ref a1), .val (.int p2), .val (.int p3)] [(.int p3), (.ref b3), (.int (fP p3)), (.ref b3)])) _
        refine own_ld X16 hx hZ e16 V0.2.2.1.2.2.1 q0 q1 (g := (mkF m 40 #[.val (.ref a1), .val (.int p2), .val (.int p3)] [(.int p3), (.ref b3), (.int (fP p3)), (.ref b3)])) rfl rfl (hb hby d5_40) _ ?_
        show Steps p.tables e below (T16.setTop (mkF m 41 #[.val (.ref a1), .val (.int p2), .val (.int p3)] [(.int (fN p3)), (.int (fP p3)), (.ref b3)])) _
        refine st17 _ ?_
        show Steps p.tables e below (T17.setTop (mkF m 42 #[.val (.ref a1), .val (.int p2), .val (.int p3)] [])) _
        refine XS.aloadN X17.here hx rfl (hb hby d5_42) rfl rfl ?_
        show Steps p.tables e below (T17.setTop (mkF m 43 #[.val (.ref a1), .val (.int p2), .val (.int p3)] [(.ref a1)])) _
        refine st18 _ ?_
        show Steps p.tables e below (T18.setTop (mkF m 46 #[.val (.ref a1), .val (.int p2), .val (.int p3)] [(.ref b3)])) _
        refine XS.iloadN X18.here hx rfl (hb hby d5_46) rfl ?_
        show Steps p.tables e below (T18.setTop (mkF m 47 #[.val (.ref a1), .val (.int p2), .val (.int p3)] [(.int p3), (.ref b3)])) _
        refine own_ld X18 hx hZ e18 V_a1_17.2.2.1.2.2.1 q0 q1 (g := (mkF m 47 #[.val (.ref a1), .val (.int p2), .val (.int p3)] [(.int p3), (.ref b3)])) rfl rfl (hb hby d5_47) _ ?_
        show Steps p.tables e below (T18.setTop (mkF m 48 #[.val (.ref a1), .val (.int p2), .val (.int p3)] [(.int ((own_upd fN (fP p3) (fN p3)) p3))])) _
        refine XS.iconst X18.here hx rfl (hb hby d5_48) ?_
        show Steps p.tables e below (T18.setTop (mkF m 49 #[.val (.ref a1), .val (.int p2), .val (.int p3)] [(.int (-1 : Int32)), (.int ((own_upd fN (fP p3) (fN p3)) p3))])) _
        refine XS.icmpYes X18.here hx rfl (pc0 := 49) (pc' := 69) rfl (hb hby d5_49) rfl (teq hc49).1 (by decide) (by decide) ?_
        show Steps p.tables e below (T18.setTop (mkF m 69 #[.val (.ref a1), .val (.int p2), .val (.int p3)] [])) _
        refine XS.aloadN X18.here hx rfl (hb hby d5_69) rfl rfl ?_
        show Steps p.tables e below (T18.setTop (mkF m 70 #[.val (.ref a1), .val (.int p2), .val (.int p3)] [(.ref a1)])) _
        refine st19 _ ?_
        show Steps p.tables e below (T19.setTop (mkF m 73 #[.val (.ref a1), .val (.int p2), .val (.int p3)] [(.ref b2)])) _
        refine XS.iloadN X19.here hx rfl (hb hby d5_73) rfl ?_
        refine XT.dup2 X19.here hx rfl (hb hby d5_74) rfl rfl rfl ?_
        show Steps p.tables e below (T19.setTop (mkF m 75 #[.val (.ref a1), .val (.int p2), .val (.int p3)] [(.int p2), (.ref b2), (.int p2), (.ref b2)])) _
        refine own_ld X19 hx hZ e19 V_a1_17.2.2.1.2.1 l0 l1 (g := (mkF m 75 #[.val (.ref a1), .val (.int p2), .val (.int p3)] [(.int p2), (.ref b2), (.int p2), (.ref b2)])) rfl rfl (hb hby d5_75) _ ?_
        show Steps p.tables e below (T19.setTop (mkF m 76 #[.val (.ref a1), .val (.int p2), .val (.int p3)] [(.int (fS p2)), (.int p2), (.ref b2)])) _
        refine XS.iconst X19.here hx rfl (hb hby d5_76) ?_
        show Steps p.tables e below (T19.setTop (mkF m 77 #[.val (.ref a1), .val (.int p2), .val (.int p3)] [(.int (1 : Int32)), (.int (fS p2)), (.int p2), (.ref b2)])) _
        refine XS.isub X19.here hx rfl (hb hby d5_77) rfl ?_
        show Steps p.tables e below (T19.setTop (mkF m 78 #[.val (.ref a1), .val (.int p2), .val (.int p3)] [(.int ((fS p2) - (1 : Int32))), (.int p2), (.ref b2)])) _
        refine st20 _ ?_
        show Steps p.tables e below (T20.setTop (mkF m 79 #[.val (.ref a1), .val (.int p2), .val (.int p3)] [])) _
        exact X20.returnOut hx Bd.returns (hb hby d5_79) hr
      · show Q5 Z a1 p2 p3 b1 b2 b3 b4 fH fS fN fP h0 n0 _ T20.heap _
        rw [e20]
        refine ⟨rfl, N20, K20, ?_⟩
        rw [show own_rP fN fP p3 = fP from by unfold own_rP; rw [own_rN_2 hc7]; exact if_pos hc49, show own_rN fN fP p3 = (own_upd fN (fP p3) (fN p3)) from if_neg hc7, show own_rH fH fN fP p2 p3 = fH from if_neg hc7]
        exact V_a1_20
    · obtain ⟨T21, X21, e21, st21⟩ := getF X18 hx hZ hown (host := "") (Or.inl (own_w hw 21 rfl)) Via.refl e18 V_a1_17.2.1.2.2.2 (g := (mkF m 53 #[.val (.ref a1), .val (.int p2), .val (.int p3)] [(.ref a1)])) rfl rfl (hb hby d5_53)
      obtain ⟨T22, X22, e22, st22⟩ := getF X21 hx hZ hown (host := "") (Or.inl (own_w hw 19 rfl)) Via.refl e21 V_a1_17.2.1.2.2.1 (g := (mkF m 57 #[.val (.ref a1), .val (.int p2), .val (.int p3)] [(.ref a1), (.ref b4)])) rfl rfl (hb hby d5_57)
      obtain ⟨T23, X23, e23, st23⟩ := getF X22 hx hZ hown (host := "") (Or.inl (own_w hw 21 rfl)) Via.refl e22 V_a1_17.2.1.2.2.2 (g := (mkF m 63 #[.val (.ref a1), .val (.int p2), .val (.int p3)] [(.ref a1), (.int ((own_upd fN (fP p3) (fN p3)) p3)), (.ref b4)])) rfl rfl (hb hby d5_63)
      obtain ⟨T24, h24, X24, e24, W24, st24⟩ := own_st X23 hx hZ e23 V_a1_17.2.2.1.2.2.2 ((own_inN2 hc7 hN).resolve_left hc49).1 ((own_inN2 hc7 hN).resolve_left hc49).2 (g := (mkF m 68 #[.val (.ref a1), .val (.int p2), .val (.int p3)] [(.int (fP p3)), (.int ((own_upd fN (fP p3) (fN p3)) p3)), (.ref b4)])) rfl rfl (hb hby d5_68)
      have V_a1_24 : own_L Z n0 h24 a1 b1 b2 b3 b4 fH fS (own_upd fN (fP p3) (fN p3)) (own_upd fP ((own_upd fN (fP p3) (fN p3)) p3) (fP p3)) := own_L_wP V_a1_17 W24 ((own_inN2 hc7 hN).resolve_left hc49).1 ((own_inN2 hc7 hN).resolve_left hc49).2
      have K24 : Keep h0 h24 [b1, b2, b3, b4] := K17.wr W24 (Or.inl (List.mem_of_getElem? (i := 3) rfl))
      have N24 := Fr.snoc X24 N17 (own_L_g V0).2.2.2
      have Zs24 : n0 ≤ h24.size := by rw [W24.size]; exact Zs17
      obtain ⟨T25, X25, e25, st25⟩ := getF X24 hx hZ hown (host := "") (Or.inl (own_w hw 17 rfl)) Via.refl e24 V_a1_24.2.1.2.1 (g := (mkF m 70 #[.val (.ref a1), .val (.int p2), .val (.int p3)] [(.ref a1)])) rfl rfl (hb hby d5_70)
      obtain ⟨T26, h26, X26, e26, W26, st26⟩ := own_st X25 hx hZ e25 V_a1_24.2.2.1.2.1 l0 l1 (g := (mkF m 78 #[.val (.ref a1), .val (.int p2), .val (.int p3)] [(.int ((fS p2) - (1 : Int32))), (.int p2), (.ref b2)])) rfl rfl (hb hby d5_78)
      have V_a1_26 : own_L Z n0 h26 a1 b1 b2 b3 b4 fH (own_upd fS p2 ((fS p2) - (1 : Int32))) (own_upd fN (fP p3) (fN p3)) (own_upd fP ((own_upd fN (fP p3) (fN p3)) p3) (fP p3)) := own_L_wS V_a1_24 W26 l0 l1
      have K26 : Keep h0 h26 [b1, b2, b3, b4] := K24.wr W26 (Or.inl (List.mem_of_getElem? (i := 1) rfl))
      have N26 := Fr.snoc X26 N24 (own_L_g V0).2.1
      have Zs26 : n0 ≤ h26.size := by rw [W26.size]; exact Zs24
      obtain ⟨fs, hr, hrun, hended, hW, hsame⟩ := X26.leave (v := none) (fun _ => rfl)
      refine ⟨_, _, pre0 _ ?_, hrun, hended, _, _, rfl, ?_, ⟨_, rfl⟩, hW, hsame.mono (by decide) (by decide)⟩
      · show Steps p.tables e below (s₁.setTop (mkF m 0 #[.val (.ref a1), .val (.int p2), .val (.int p3)] [])) _
        refine XS.aloadN X0.here hx rfl (hb hby d5_0) rfl rfl ?_
        show Steps p.tables e below (s₁.setTop (mkF m 1 #[.val (.ref a1), .val (.int p2), .val (.int p3)] [(.ref a1)])) _
        refine st1 _ ?_
        show Steps p.tables e below (T1.setTop (mkF m 4 #[.val (.ref a1), .val (.int p2), .val (.int p3)] [(.ref b4)])) _
        refine XS.iloadN X1.here hx rfl (hb hby d5_4) rfl ?_
        show Steps p.tables e below (T1.setTop (mkF m 5 #[.val (.ref a1), .val (.int p2), .val (.int p3)] [(.int p3), (.ref b4)])) _
        refine own_ld X1 hx hZ e1 V0.2.2.1.2.2.2 q0 q1 (g := (mkF m 5 #[.val (.ref a1), .val (.int p2), .val (.int p3)] [(.int p3), (.ref b4)])) rfl rfl (hb hby d5_5) _ ?_
        show Steps p.tables e below (T1.setTop (mkF m 6 #[.val (.ref a1), .val (.int p2), .val (.int p3)] [(.int (fP p3))])) _
        refine XS.iconst X1.here hx rfl (hb hby d5_6) ?_
        show Steps p.tables e below (T1.setTop (mkF m 7 #[.val (.ref a1), .val (.int p2), .val (.int p3)] [(.int (-1 : Int32)), (.int (fP p3))])) _
        refine XS.icmpYes X1.here hx rfl (pc0 := 7) (pc' := 25) rfl (hb hby d5_7) rfl (feq hc7).2 (by decide) (by decide) ?_
        show Steps p.tables e below (T1.setTop (mkF m 25 #[.val (.ref a1), .val (.int p2), .val (.int p3)] [])) _
        refine XS.aloadN X1.here hx rfl (hb hby d5_25) rfl rfl ?_
        show Steps p.tables e below (T1.setTop (mkF m 26 #[.val (.ref a1), .val (.int p2), .val (.int p3)] [(.ref a1)])) _
        refine st14 _ ?_
        show Steps p.tables e below (T14.setTop (mkF m 29 #[.val (.ref a1), .val (.int p2), .val (.int p3)] [(.ref b3)])) _
        refine XS.aloadN X14.here hx rfl (hb hby d5_29) rfl rfl ?_
        show Steps p.tables e below (T14.setTop (mkF m 30 #[.val (.ref a1), .val (.int p2), .val (.int p3)] [(.ref a1), (.ref b3)])) _
        refine st15 _ ?_
        show Steps p.tables e below (T15.setTop (mkF m 33 #[.val (.ref a1), .val (.int p2), .val (.int p3)] [(.ref b4), (.ref b3)])) _
        refine XS.iloadN X15.here hx rfl (hb hby d5_33) rfl ?_
        show Steps p.tables e below (T15.setTop (mkF m 34 #[.val (.ref a1), .val (.int p2), .val (.int p3)] [(.int p3), (.ref b4), (.ref b3)])) _
        refine own_ld X15 hx hZ e15 V0.2.2.1.2.2.2 q0 q1 (g := (mkF m 34 #[.val (.ref a1), .val (.int p2), .val (.int p3)] [(.int p3), (.ref b4), (.ref b3)])) rfl rfl (hb hby d5_34) _ ?_
        show Steps p.tables e below (T15.setTop (mkF m 35 #[.val (.ref a1), .val (.int p2), .val (.int p3)] [(.int (fP p3)), (.ref b3)])) _
        refine XS.aloadN X15.here hx rfl (hb hby d5_35) rfl rfl ?_
        show Steps p.tables e below (T15.setTop (mkF m 36 #[.val (.ref a1), .val (.int p2), .val (.int p3)] [(.ref a1), (.int (fP p3)), (.ref b3)])) _
        refine st16 _ ?_
        show Steps p.tables e below (T16.setTop (mkF m 39 #[.val (.ref a1), .val (.int p2), .val (.int p3)] [(.ref b3), (.int (fP p3)), (.ref b3)])) _
        refine XS.iloadN X16.here hx rfl (hb hby d5_39) rfl ?_
        show Steps p.tables e below (T16.setTop (mkF m 40 #[.val (.ref a1), .val (.int p2), .val (.int p3)] [(.int p3), (.ref b3), (.int (fP p3)), (.ref b3)])) _
        refine own_ld X16 hx hZ e16 V0.2.2.1.2.2.1 q0 q1 (g := (mkF m 40 #[.val (.ref a1), .val (.int p2), .val (.int p3)] [(.int p3), (.ref b3), (.int (fP p3)), (.ref b3)])) rfl rfl (hb hby d5_40) _ ?_
        show Steps p.tables e below (T16.setTop (mkF m 41 #[.val (.ref a1), .val (.int p2), .val (.int p3)] [(.int (fN p3)), (.int (fP p3)), (.ref b3)])) _
        refine st17 _ ?_
        show Steps p.tables e below (T17.setTop (mkF m 42 #[.val (.ref a1), .val (.int p2), .val (.int p3)] [])) _
        refine XS.aloadN X17.here hx rfl (hb hby d5_42) rfl rfl ?_
        show Steps p.tables e below (T17.setTop (mkF m 43 #[.val (.ref a1), .val (.int p2), .val (.int p3)] [(.ref a1)])) _
        refine st18 _ ?_
        show Steps p.tables e below (T18.setTop (mkF m 46 #[.val (.ref a1), .val (.int p2), .val (.int p3)] [(.ref b3)])) _
        refine XS.iloadN X18.here hx rfl (hb hby d5_46) rfl ?_
        show Steps p.tables e below (T18.setTop (mkF m 47 #[.val (.ref a1), .val (.int p2), .val (.int p3)] [(.int p3), (.ref b3)])) _
        refine own_ld X18 hx hZ e18 V_a1_17.2.2.1.2.2.1 q0 q1 (g := (mkF m 47 #[.val (.ref a1), .val (.int p2), .val (.int p3)] [(.int p3), (.ref b3)])) rfl rfl (hb hby d5_47) _ ?_
        show Steps p.tables e below (T18.setTop (mkF m 48 #[.val (.ref a1), .val (.int p2), .val (.int p3)] [(.int ((own_upd fN (fP p3) (fN p3)) p3))])) _
        refine XS.iconst X18.here hx rfl (hb hby d5_48) ?_
        show Steps p.tables e below (T18.setTop (mkF m 49 #[.val (.ref a1), .val (.int p2), .val (.int p3)] [(.int (-1 : Int32)), (.int ((own_upd fN (fP p3) (fN p3)) p3))])) _
        refine XS.icmpNo X18.here hx rfl (hb hby d5_49) rfl (feq hc49).1 ?_
        show Steps p.tables e below (T18.setTop (mkF m 52 #[.val (.ref a1), .val (.int p2), .val (.int p3)] [])) _
        refine XS.aloadN X18.here hx rfl (hb hby d5_52) rfl rfl ?_
        show Steps p.tables e below (T18.setTop (mkF m 53 #[.val (.ref a1), .val (.int p2), .val (.int p3)] [(.ref a1)])) _
        refine st21 _ ?_
        show Steps p.tables e below (T21.setTop (mkF m 56 #[.val (.ref a1), .val (.int p2), .val (.int p3)] [(.ref b4)])) _
        refine XS.aloadN X21.here hx rfl (hb hby d5_56) rfl rfl ?_
        show Steps p.tables e below (T21.setTop (mkF m 57 #[.val (.ref a1), .val (.int p2), .val (.int p3)] [(.ref a1), (.ref b4)])) _
        refine st22 _ ?_
        show Steps p.tables e below (T22.setTop (mkF m 60 #[.val (.ref a1), .val (.int p2), .val (.int p3)] [(.ref b3), (.ref b4)])) _
        refine XS.iloadN X22.here hx rfl (hb hby d5_60) rfl ?_
        show Steps p.tables e below (T22.setTop (mkF m 61 #[.val (.ref a1), .val (.int p2), .val (.int p3)] [(.int p3), (.ref b3), (.ref b4)])) _
        refine own_ld X22 hx hZ e22 V_a1_17.2.2.1.2.2.1 q0 q1 (g := (mkF m 61 #[.val (.ref a1), .val (.int p2), .val (.int p3)] [(.int p3), (.ref b3), (.ref b4)])) rfl rfl (hb hby d5_61) _ ?_
        show Steps p.tables e below (T22.setTop (mkF m 62 #[.val (.ref a1), .val (.int p2), .val (.int p3)] [(.int ((own_upd fN (fP p3) (fN p3)) p3)), (.ref b4)])) _
        refine XS.aloadN X22.here hx rfl (hb hby d5_62) rfl rfl ?_
        show Steps p.tables e below (T22.setTop (mkF m 63 #[.val (.ref a1), .val (.int p2), .val (.int p3)] [(.ref a1), (.int ((own_upd fN (fP p3) (fN p3)) p3)), (.ref b4)])) _
        refine st23 _ ?_
        show Steps p.tables e below (T23.setTop (mkF m 66 #[.val (.ref a1), .val (.int p2), .val (.int p3)] [(.ref b4), (.int ((own_upd fN (fP p3) (fN p3)) p3)), (.ref b4)])) _
        refine XS.iloadN X23.here hx rfl (hb hby d5_66) rfl ?_
        show Steps p.tables e below (T23.setTop (mkF m 67 #[.val (.ref a1), .val (.int p2), .val (.int p3)] [(.int p3), (.ref b4), (.int ((own_upd fN (fP p3) (fN p3)) p3)), (.ref b4)])) _
        refine own_ld X23 hx hZ e23 V_a1_17.2.2.1.2.2.2 q0 q1 (g := (mkF m 67 #[.val (.ref a1), .val (.int p2), .val (.int p3)] [(.int p3), (.ref b4), (.int ((own_upd fN (fP p3) (fN p3)) p3)), (.ref b4)])) rfl rfl (hb hby d5_67) _ ?_
        show Steps p.tables e below (T23.setTop (mkF m 68 #[.val (.ref a1), .val (.int p2), .val (.int p3)] [(.int (fP p3)), (.int ((own_upd fN (fP p3) (fN p3)) p3)), (.ref b4)])) _
        refine st24 _ ?_
        show Steps p.tables e below (T24.setTop (mkF m 69 #[.val (.ref a1), .val (.int p2), .val (.int p3)] [])) _
        refine XS.aloadN X24.here hx rfl (hb hby d5_69) rfl rfl ?_
        show Steps p.tables e below (T24.setTop (mkF m 70 #[.val (.ref a1), .val (.int p2), .val (.int p3)] [(.ref a1)])) _
        refine st25 _ ?_
        show Steps p.tables e below (T25.setTop (mkF m 73 #[.val (.ref a1), .val (.int p2), .val (.int p3)] [(.ref b2)])) _
        refine XS.iloadN X25.here hx rfl (hb hby d5_73) rfl ?_
        refine XT.dup2 X25.here hx rfl (hb hby d5_74) rfl rfl rfl ?_
        show Steps p.tables e below (T25.setTop (mkF m 75 #[.val (.ref a1), .val (.int p2), .val (.int p3)] [(.int p2), (.ref b2), (.int p2), (.ref b2)])) _
        refine own_ld X25 hx hZ e25 V_a1_24.2.2.1.2.1 l0 l1 (g := (mkF m 75 #[.val (.ref a1), .val (.int p2), .val (.int p3)] [(.int p2), (.ref b2), (.int p2), (.ref b2)])) rfl rfl (hb hby d5_75) _ ?_
        show Steps p.tables e below (T25.setTop (mkF m 76 #[.val (.ref a1), .val (.int p2), .val (.int p3)] [(.int (fS p2)), (.int p2), (.ref b2)])) _
        refine XS.iconst X25.here hx rfl (hb hby d5_76) ?_
        show Steps p.tables e below (T25.setTop (mkF m 77 #[.val (.ref a1), .val (.int p2), .val (.int p3)] [(.int (1 : Int32)), (.int (fS p2)), (.int p2), (.ref b2)])) _
        refine XS.isub X25.here hx rfl (hb hby d5_77) rfl ?_
        show Steps p.tables e below (T25.setTop (mkF m 78 #[.val (.ref a1), .val (.int p2), .val (.int p3)] [(.int ((fS p2) - (1 : Int32))), (.int p2), (.ref b2)])) _
        refine st26 _ ?_
        show Steps p.tables e below (T26.setTop (mkF m 79 #[.val (.ref a1), .val (.int p2), .val (.int p3)] [])) _
        exact X26.returnOut hx Bd.returns (hb hby d5_79) hr
      · show Q5 Z a1 p2 p3 b1 b2 b3 b4 fH fS fN fP h0 n0 _ T26.heap _
        rw [e26]
        refine ⟨rfl, N26, K26, ?_⟩
        rw [show own_rP fN fP p3 = (own_upd fP ((own_upd fN (fP p3) (fN p3)) p3) (fP p3)) from by unfold own_rP; rw [own_rN_2 hc7]; exact if_neg hc49, show own_rN fN fP p3 = (own_upd fN (fP p3) (fN p3)) from if_neg hc7, show own_rH fH fN fP p2 p3 = fH from if_neg hc7]
        exact V_a1_26
theorem d3_0 : decode jdk_65_method_103_code 0 = .ok (.iconst 0, 1) := by decide +kernel
theorem d3_1 : decode jdk_65_method_103_code 1 = .ok (.istore_n 2, 1) := by decide +kernel
theorem d3_2 : decode jdk_65_method_103_code 2 = .ok (.aload_n 0, 1) := by decide +kernel
theorem d3_3 : decode jdk_65_method_103_code 3 = .ok (.arraylength, 1) := by decide +kernel
theorem d3_4 : decode jdk_65_method_103_code 4 = .ok (.istore_n 3, 1) := by decide +kernel
theorem d3_5 : decode jdk_65_method_103_code 5 = .ok (.iload_n 2, 1) := by decide +kernel
theorem d3_6 : decode jdk_65_method_103_code 6 = .ok (.iload_n 3, 1) := by decide +kernel
theorem d3_7 : decode jdk_65_method_103_code 7 = .ok (.if_icmp .ge 13, 3) := by decide +kernel
theorem d3_10 : decode jdk_65_method_103_code 10 = .ok (.aload_n 0, 1) := by decide +kernel
theorem d3_11 : decode jdk_65_method_103_code 11 = .ok (.iload_n 2, 1) := by decide +kernel
theorem d3_12 : decode jdk_65_method_103_code 12 = .ok (.iload_n 1, 1) := by decide +kernel
theorem d3_13 : decode jdk_65_method_103_code 13 = .ok (.iastore, 1) := by decide +kernel
theorem d3_14 : decode jdk_65_method_103_code 14 = .ok (.iinc 2 1, 3) := by decide +kernel
theorem d3_17 : decode jdk_65_method_103_code 17 = .ok (.goto (-12), 3) := by decide +kernel
theorem d3_20 : decode jdk_65_method_103_code 20 = .ok (.return_, 1) := by decide +kernel
theorem pn_3 : plainName "java/util/Arrays" = true := by first | (simp [plainName, overriddenIn]; done) | decide +kernel
theorem ef_3 (m : MethodId) (a1 : Addr) (p2 : Int32) : entryFrame m #[(.ref a1), (.int p2)] 4 = mkF m 0 #[.val (.ref a1), .val (.int p2), .unset, .unset] [] := by first | (simp [entryFrame, mkF, argsToLocals, Value.category]; done) | rfl
def Q3 (Z : State) (a1 : Addr) (p2 : Int32) (f : Int32 → Int32) (h0 : Heap) (n0 : Nat) (v : Option Value) (h : Heap) (L : List Loc) : Prop := v = none ∧ Fr n0 L ∧ Keep h0 h [a1] ∧ own_arr Z h a1 (2 : Int32) (own_upd (own_upd f (0 : Int32) p2) (1 : Int32) p2)
set_option maxRecDepth 65536 in
set_option maxHeartbeats 40000000 in
theorem rm3 (l : Launch) (Z : State) (a0 : Array Value) (hw : ∀ d ∈ tables_1, d.before a0 Z = true) (ws : List Jvm.Cond) (a1 : Addr) (p2 : Int32) (f : Int32 → Int32) (h0 : Heap) (n0 : Nat) (Z0 : n0 ≤ h0.size) (A0 : own_arr Z h0 a1 (2 : Int32) f) (ga : n0 ≤ a1) :
    MetFree l (⟨"java/util/Arrays", "fill", "([II)V"⟩ : MethodName) (head1 (Jvm.Cond.code (⟨"java/util/Arrays", "fill", "([II)V"⟩ : MethodName) jdk_65_method_103_code 4 none :: ws) ({ frames := 0, cells := 0, slots := 0, locals := 0 } : Room)) (fun a U => a = #[(.ref a1), (.int p2)] ∧ Z.Warmed39 U.vm ∧ U.heap = h0) (fun _ _ _ _ _ => True) (fun _ U o U' => ∃ v L, o = .returned v ∧ Q3 Z a1 p2 f h0 n0 v U'.heap L ∧ FrameEnd U o U' L ({ frames := 0, cells := 0, slots := 0, locals := 0 } : Room).cells ({ frames := 0, cells := 0, slots := 0, locals := 0 } : Room).slots) := by
  refine MetFree.of_bodySF (plainFor_of_name pn_3) hisR ?_
  intro p e s m args below meth c s₁ Bd hml0 hP hK
  obtain ⟨rfl, hZ, hh⟩ := hP
  have hx := Bd.exec
  have hby := Bd.bytes
  have hml : c.maxLocals = 4 := hml0
  have hown : s.vm.findClass "java/util/Arrays" = some m.cls := findClass_of_methodNamed Bd.named
  have hnm := (name_of_methodNamed Bd.named Bd.method).1
  have X0 : Stand p l e ({ frames := 0, cells := 0, slots := 0, locals := 0 } : Room) s m #[(.ref a1), (.int p2)] below meth c s₁ [] 0 0 := Stand.of_body Bd
  have e0 : s₁.heap = h0 := by rw [← hh, Bd.state]; rfl
  have N0 := Fr.nil n0
  have pre0 : ∀ t, Steps p.tables e below (s₁.setTop (mkF m 0 #[.val (.ref a1), .val (.int p2), .unset, .unset] [])) t → Steps p.tables e below (s₁.setTop (entryFrame m #[(.ref a1), (.int p2)] 4)) t := fun t k => castTop (ef_3 m a1 p2) k
  obtain ⟨T1, h1, X1, e1, W1, st1⟩ := own_st X0 hx hZ e0 A0 (by decide) (by decide) (g := (mkF m 13 #[.val (.ref a1), .val (.int p2), .val (.int (0 : Int32)), .val (.int (2 : Int32))] [(.int p2), (.int (0 : Int32)), (.ref a1)])) rfl rfl (hb hby d3_13)
  have A_a1_1 : own_arr Z h1 a1 (2 : Int32) (own_upd f (0 : Int32) p2) := own_arr_same A0 W1 (by decide) (by decide)
  have K1 : Keep h0 h1 [a1] := (Keep.refl h0 [a1]).wr W1 (Or.inl (List.mem_of_getElem? (i := 0) rfl))
  have N1 := Fr.snoc X1 N0 ga
  have Zs1 : n0 ≤ h1.size := by rw [W1.size]; exact Z0
  obtain ⟨T2, h2, X2, e2, W2, st2⟩ := own_st X1 hx hZ e1 A_a1_1 (by decide) (by decide) (g := (mkF m 13 #[.val (.ref a1), .val (.int p2), .val (.int (1 : Int32)), .val (.int (2 : Int32))] [(.int p2), (.int (1 : Int32)), (.ref a1)])) rfl rfl (hb hby d3_13)
  have A_a1_2 : own_arr Z h2 a1 (2 : Int32) (own_upd (own_upd f (0 : Int32) p2) (1 : Int32) p2) := own_arr_same A_a1_1 W2 (by decide) (by decide)
  have K2 : Keep h0 h2 [a1] := K1.wr W2 (Or.inl (List.mem_of_getElem? (i := 0) rfl))
  have N2 := Fr.snoc X2 N1 ga
  have Zs2 : n0 ≤ h2.size := by rw [W2.size]; exact Zs1
  obtain ⟨fs, hr, hrun, hended, hW, hsame⟩ := X2.leave (v := none) (fun _ => rfl)
  refine ⟨_, _, pre0 _ ?_, hrun, hended, _, _, rfl, ?_, ⟨_, rfl⟩, hW, hsame.mono (by decide) (by decide)⟩
  · show Steps p.tables e below (s₁.setTop (mkF m 0 #[.val (.ref a1), .val (.int p2), .unset, .unset] [])) _
    refine XS.iconst X0.here hx rfl (hb hby d3_0) ?_
    refine XS.istoreN X0.here hx rfl (hb hby d3_1) rfl (l' := #[.val (.ref a1), .val (.int p2), .val (.int (0 : Int32)), .unset]) rfl ?_
    refine XS.aloadN X0.here hx rfl (hb hby d3_2) rfl rfl ?_
    show Steps p.tables e below (s₁.setTop (mkF m 3 #[.val (.ref a1), .val (.int p2), .val (.int (0 : Int32)), .unset] [(.ref a1)])) _
    refine own_len X0 hx hZ e0 A0 (g := (mkF m 3 #[.val (.ref a1), .val (.int p2), .val (.int (0 : Int32)), .unset] [(.ref a1)])) rfl rfl (hb hby d3_3) _ ?_
    show Steps p.tables e below (s₁.setTop (mkF m 4 #[.val (.ref a1), .val (.int p2), .val (.int (0 : Int32)), .unset] [(.int (2 : Int32))])) _
    refine XS.istoreN X0.here hx rfl (hb hby d3_4) rfl (l' := #[.val (.ref a1), .val (.int p2), .val (.int (0 : Int32)), .val (.int (2 : Int32))]) rfl ?_
    refine XS.iloadN X0.here hx rfl (hb hby d3_5) rfl ?_
    refine XS.iloadN X0.here hx rfl (hb hby d3_6) rfl ?_
    show Steps p.tables e below (s₁.setTop (mkF m 7 #[.val (.ref a1), .val (.int p2), .val (.int (0 : Int32)), .val (.int (2 : Int32))] [(.int (2 : Int32)), (.int (0 : Int32))])) _
    refine XS.icmpNo X0.here hx rfl (hb hby d3_7) rfl (tlt (by decide : (0 : Int32) < (2 : Int32))).2.1 ?_
    show Steps p.tables e below (s₁.setTop (mkF m 10 #[.val (.ref a1), .val (.int p2), .val (.int (0 : Int32)), .val (.int (2 : Int32))] [])) _
    refine XS.aloadN X0.here hx rfl (hb hby d3_10) rfl rfl ?_
    refine XS.iloadN X0.here hx rfl (hb hby d3_11) rfl ?_
    refine XS.iloadN X0.here hx rfl (hb hby d3_12) rfl ?_
    show Steps p.tables e below (s₁.setTop (mkF m 13 #[.val (.ref a1), .val (.int p2), .val (.int (0 : Int32)), .val (.int (2 : Int32))] [(.int p2), (.int (0 : Int32)), (.ref a1)])) _
    refine st1 _ ?_
    show Steps p.tables e below (T1.setTop (mkF m 14 #[.val (.ref a1), .val (.int p2), .val (.int (0 : Int32)), .val (.int (2 : Int32))] [])) _
    refine XS.iinc X1.here hx rfl (hb hby d3_14) rfl (l' := #[.val (.ref a1), .val (.int p2), .val (.int (1 : Int32)), .val (.int (2 : Int32))]) rfl ?_
    show Steps p.tables e below (T1.setTop (mkF m 17 #[.val (.ref a1), .val (.int p2), .val (.int (1 : Int32)), .val (.int (2 : Int32))] [])) _
    refine XS.goto X1.here hx rfl (pc0 := 17) (pc' := 5) rfl (hb hby d3_17) (by decide) (by decide) ?_
    refine XS.iloadN X1.here hx rfl (hb hby d3_5) rfl ?_
    refine XS.iloadN X1.here hx rfl (hb hby d3_6) rfl ?_
    show Steps p.tables e below (T1.setTop (mkF m 7 #[.val (.ref a1), .val (.int p2), .val (.int (1 : Int32)), .val (.int (2 : Int32))] [(.int (2 : Int32)), (.int (1 : Int32))])) _
    refine XS.icmpNo X1.here hx rfl (hb hby d3_7) rfl (tlt (by decide : (1 : Int32) < (2 : Int32))).2.1 ?_
    show Steps p.tables e below (T1.setTop (mkF m 10 #[.val (.ref a1), .val (.int p2), .val (.int (1 : Int32)), .val (.int (2 : Int32))] [])) _
    refine XS.aloadN X1.here hx rfl (hb hby d3_10) rfl rfl ?_
    refine XS.iloadN X1.here hx rfl (hb hby d3_11) rfl ?_
    refine XS.iloadN X1.here hx rfl (hb hby d3_12) rfl ?_
    show Steps p.tables e below (T1.setTop (mkF m 13 #[.val (.ref a1), .val (.int p2), .val (.int (1 : Int32)), .val (.int (2 : Int32))] [(.int p2), (.int (1 : Int32)), (.ref a1)])) _
    refine st2 _ ?_
    show Steps p.tables e below (T2.setTop (mkF m 14 #[.val (.ref a1), .val (.int p2), .val (.int (1 : Int32)), .val (.int (2 : Int32))] [])) _
    refine XS.iinc X2.here hx rfl (hb hby d3_14) rfl (l' := #[.val (.ref a1), .val (.int p2), .val (.int (2 : Int32)), .val (.int (2 : Int32))]) rfl ?_
    show Steps p.tables e below (T2.setTop (mkF m 17 #[.val (.ref a1), .val (.int p2), .val (.int (2 : Int32)), .val (.int (2 : Int32))] [])) _
    refine XS.goto X2.here hx rfl (pc0 := 17) (pc' := 5) rfl (hb hby d3_17) (by decide) (by decide) ?_
    refine XS.iloadN X2.here hx rfl (hb hby d3_5) rfl ?_
    refine XS.iloadN X2.here hx rfl (hb hby d3_6) rfl ?_
    show Steps p.tables e below (T2.setTop (mkF m 7 #[.val (.ref a1), .val (.int p2), .val (.int (2 : Int32)), .val (.int (2 : Int32))] [(.int (2 : Int32)), (.int (2 : Int32))])) _
    refine XS.icmpYes X2.here hx rfl (pc0 := 7) (pc' := 20) rfl (hb hby d3_7) rfl (flt (by decide : ¬ ((2 : Int32) < (2 : Int32)))).2.1 (by decide) (by decide) ?_
    show Steps p.tables e below (T2.setTop (mkF m 20 #[.val (.ref a1), .val (.int p2), .val (.int (2 : Int32)), .val (.int (2 : Int32))] [])) _
    exact X2.returnOut hx Bd.returns (hb hby d3_20) hr
  · show Q3 Z a1 p2 f h0 n0 _ T2.heap _
    rw [e2]
    exact ⟨rfl, N2, K2, A_a1_2⟩
theorem d1_0 : decode prog_108_method_1_code 0 = .ok (.aload_n 0, 1) := by decide +kernel
theorem d1_1 : decode prog_108_method_1_code 1 = .ok (.invokespecial 1, 3) := by decide +kernel
theorem d1_4 : decode prog_108_method_1_code 4 = .ok (.aload_n 0, 1) := by decide +kernel
theorem d1_5 : decode prog_108_method_1_code 5 = .ok (.iload_n 1, 1) := by decide +kernel
theorem d1_6 : decode prog_108_method_1_code 6 = .ok (.newarray .int, 2) := by decide +kernel
theorem d1_8 : decode prog_108_method_1_code 8 = .ok (.putfield 7, 3) := by decide +kernel
theorem d1_11 : decode prog_108_method_1_code 11 = .ok (.aload_n 0, 1) := by decide +kernel
theorem d1_12 : decode prog_108_method_1_code 12 = .ok (.getfield 7, 3) := by decide +kernel
theorem d1_15 : decode prog_108_method_1_code 15 = .ok (.iconst (-1), 1) := by decide +kernel
theorem d1_16 : decode prog_108_method_1_code 16 = .ok (.invokestatic 13, 3) := by decide +kernel
theorem d1_19 : decode prog_108_method_1_code 19 = .ok (.aload_n 0, 1) := by decide +kernel
theorem d1_20 : decode prog_108_method_1_code 20 = .ok (.iload_n 1, 1) := by decide +kernel
theorem d1_21 : decode prog_108_method_1_code 21 = .ok (.newarray .int, 2) := by decide +kernel
theorem d1_23 : decode prog_108_method_1_code 23 = .ok (.putfield 19, 3) := by decide +kernel
theorem d1_26 : decode prog_108_method_1_code 26 = .ok (.aload_n 0, 1) := by decide +kernel
theorem d1_27 : decode prog_108_method_1_code 27 = .ok (.iload_n 2, 1) := by decide +kernel
theorem d1_28 : decode prog_108_method_1_code 28 = .ok (.newarray .int, 2) := by decide +kernel
theorem d1_30 : decode prog_108_method_1_code 30 = .ok (.putfield 22, 3) := by decide +kernel
theorem d1_33 : decode prog_108_method_1_code 33 = .ok (.aload_n 0, 1) := by decide +kernel
theorem d1_34 : decode prog_108_method_1_code 34 = .ok (.iload_n 2, 1) := by decide +kernel
theorem d1_35 : decode prog_108_method_1_code 35 = .ok (.newarray .int, 2) := by decide +kernel
theorem d1_37 : decode prog_108_method_1_code 37 = .ok (.putfield 25, 3) := by decide +kernel
theorem d1_40 : decode prog_108_method_1_code 40 = .ok (.return_, 1) := by decide +kernel
theorem pn_1 : plainName "com/example/process_stepper/processstepper/equivalence/IntLists" = true := by first | (simp [plainName, overriddenIn]; done) | decide +kernel
theorem pd___II_V : parseMethodDescriptor "([II)V" = some ⟨[(.array .int), .int], none⟩ := by decide +kernel
abbrev own_m0 : MethodName := ⟨"java/lang/Object", "<init>", "()V"⟩
abbrev own_m1 : MethodName := ⟨"java/util/Arrays", "fill", "([II)V"⟩
theorem ef_1 (m : MethodId) (a1 : Addr) : entryFrame m #[(.ref a1), (.int (2 : Int32)), (.int (3 : Int32))] 3 = mkF m 0 #[.val (.ref a1), .val (.int (2 : Int32)), .val (.int (3 : Int32))] [] := by first | (simp [entryFrame, mkF, argsToLocals, Value.category]; done) | rfl
def Q1 (Z : State) (a1 : Addr) (h0 : Heap) (n0 : Nat) (v : Option Value) (h : Heap) (L : List Loc) : Prop := v = none ∧ Fr n0 L ∧ ∃ b1 b2 b3 b4 : Addr, Keep h0 h [a1] ∧ h0.size ≤ b1 ∧ own_L Z n0 h a1 b1 b2 b3 b4 own_H0 own_zero own_zero own_zero
set_option maxRecDepth 65536 in
set_option maxHeartbeats 40000000 in
theorem rm1 (l : Launch) (Z : State) (a0 : Array Value) (hw : ∀ d ∈ tables_1, d.before a0 Z = true) (ws : List Jvm.Cond) (a1 : Addr) (h0 : Heap) (n0 : Nat) (Z0 : n0 ≤ h0.size) (E0 : Exa Z h0 a1 "com/example/process_stepper/processstepper/equivalence/IntLists") (F_heads : Fld Z h0 a1 "com/example/process_stepper/processstepper/equivalence/IntLists" "heads" "[I" .null) (F_sizes : Fld Z h0 a1 "com/example/process_stepper/processstepper/equivalence/IntLists" "sizes" "[I" .null) (F_next : Fld Z h0 a1 "com/example/process_stepper/processstepper/equivalence/IntLists" "next" "[I" .null) (F_previous : Fld Z h0 a1 "com/example/process_stepper/processstepper/equivalence/IntLists" "previous" "[I" .null) (ga : n0 ≤ a1) :
    MetFree l (⟨"com/example/process_stepper/processstepper/equivalence/IntLists", "<init>", "(II)V"⟩ : MethodName) (head1 (Jvm.Cond.code (⟨"com/example/process_stepper/processstepper/equivalence/IntLists", "<init>", "(II)V"⟩ : MethodName) prog_108_method_1_code 3 none :: ws) ({ frames := 1, cells := 4, slots := 10, locals := 18 } : Room)) (fun a U => a = #[(.ref a1), (.int (2 : Int32)), (.int (3 : Int32))] ∧ Z.Warmed39 U.vm ∧ U.heap = h0) (fun _ _ _ _ _ => True) (fun _ U o U' => ∃ v L, o = .returned v ∧ Q1 Z a1 h0 n0 v U'.heap L ∧ FrameEnd U o U' L ({ frames := 1, cells := 4, slots := 10, locals := 18 } : Room).cells ({ frames := 1, cells := 4, slots := 10, locals := 18 } : Room).slots) := by
  refine MetFree.of_bodySF (plainFor_of_name pn_1) hisR ?_
  intro p e s m args below meth c s₁ Bd hml0 hP hK
  obtain ⟨rfl, hZ, hh⟩ := hP
  have hx := Bd.exec
  have hby := Bd.bytes
  have hml : c.maxLocals = 3 := hml0
  have hown : s.vm.findClass "com/example/process_stepper/processstepper/equivalence/IntLists" = some m.cls := findClass_of_methodNamed Bd.named
  have hnm := (name_of_methodNamed Bd.named Bd.method).1
  have X0 : Stand p l e ({ frames := 1, cells := 4, slots := 10, locals := 18 } : Room) s m #[(.ref a1), (.int (2 : Int32)), (.int (3 : Int32))] below meth c s₁ [] 0 0 := Stand.of_body Bd
  have e0 : s₁.heap = h0 := by rw [← hh, Bd.state]; rfl
  have N0 := Fr.nil n0
  have pre0 : ∀ t, Steps p.tables e below (s₁.setTop (mkF m 0 #[.val (.ref a1), .val (.int (2 : Int32)), .val (.int (3 : Int32))] [])) t → Steps p.tables e below (s₁.setTop (entryFrame m #[(.ref a1), (.int (2 : Int32)), (.int (3 : Int32))] 3)) t := fun t k => castTop (ef_1 m a1) k
  obtain ⟨T1, X1, e1, st1⟩ := initO X0 hx hZ hown (own_w hw 7 rfl) (own_w hw 8 rfl) (own_w hw 9 rfl) e0 (g := (mkF m 1 #[.val (.ref a1), .val (.int (2 : Int32)), .val (.int (3 : Int32))] [(.ref a1)])) rfl (by rw [hml]; rfl) rfl (hb hby d1_1) (by decide) (W := 0) (by show 2 * 0 + _ ≤ _; exact Nat.le_of_eq rfl) (by decide)
  obtain ⟨T2, h2, k2, X2, e2, E2, A2, st2⟩ := newP X1 hx hZ (own_w hw 10 rfl) e1 (g := (mkF m 6 #[.val (.ref a1), .val (.int (2 : Int32)), .val (.int (3 : Int32))] [(.int (2 : Int32)), (.ref a1)])) rfl (hb hby d1_6) rfl (by decide) (cap := 2) (by decide) (by decide) (by decide) (by decide)
  obtain ⟨ad2, g2⟩ : ∃ z, z = h0.size := ⟨_, rfl⟩
  rw [← g2] at A2 st2
  have lt_a1_ad2 : a1 < ad2 := Nat.lt_of_lt_of_eq E0.lt g2.symm
  have gn_ad2 : n0 ≤ ad2 := Nat.le_trans Z0 (Nat.le_of_eq g2.symm)
  have sz_ad2 : h0.size ≤ ad2 := Nat.le_trans (Keep.refl h0 [a1]).1 (Nat.le_of_eq g2.symm)
  have E_a1_2 : Exa Z h2 a1 "com/example/process_stepper/processstepper/equivalence/IntLists" := E0.ext E2
  have F_heads_a1_2 : Fld Z h2 a1 "com/example/process_stepper/processstepper/equivalence/IntLists" "heads" "[I" .null := F_heads.ext E2
  have F_sizes_a1_2 : Fld Z h2 a1 "com/example/process_stepper/processstepper/equivalence/IntLists" "sizes" "[I" .null := F_sizes.ext E2
  have F_next_a1_2 : Fld Z h2 a1 "com/example/process_stepper/processstepper/equivalence/IntLists" "next" "[I" .null := F_next.ext E2
  have F_previous_a1_2 : Fld Z h2 a1 "com/example/process_stepper/processstepper/equivalence/IntLists" "previous" "[I" .null := F_previous.ext E2
  have A_ad2_2 : own_arr Z h2 ad2 (2 : Int32) own_zero := own_arr_new A2 (by decide)
  have K2 : Keep h0 h2 [a1] := (Keep.refl h0 [a1]).ext E2
  have Zs2 : n0 ≤ h2.size := Nat.le_trans Z0 E2.1
  obtain ⟨T3, h3, X3, e3, W3, st3⟩ := putF X2 hx hZ hown (host := "") (Or.inl (own_w hw 11 rfl)) Via.refl e2 F_heads_a1_2 E_a1_2 (Or.inl (own_w hw 12 rfl)) (own_w hw 2 rfl) (ty := (.array .int)) (by decide) rfl rfl (g := (mkF m 8 #[.val (.ref a1), .val (.int (2 : Int32)), .val (.int (3 : Int32))] [(.ref ad2), (.ref a1)])) rfl rfl (hb hby d1_8)
  have E_a1_3 : Exa Z h3 a1 "com/example/process_stepper/processstepper/equivalence/IntLists" := E_a1_2.wr W3
  have F_sizes_a1_3 : Fld Z h3 a1 "com/example/process_stepper/processstepper/equivalence/IntLists" "sizes" "[I" .null := F_sizes_a1_2.other W3 (Or.inr (slot_ne (Or.inl (own_w hw 18 rfl)) (Or.inl (own_w hw 12 rfl)) (by decide) (t := (.array .int)) (t' := (.array .int)) (by decide) (by decide)))
  have F_next_a1_3 : Fld Z h3 a1 "com/example/process_stepper/processstepper/equivalence/IntLists" "next" "[I" .null := F_next_a1_2.other W3 (Or.inr (slot_ne (Or.inl (own_w hw 20 rfl)) (Or.inl (own_w hw 12 rfl)) (by decide) (t := (.array .int)) (t' := (.array .int)) (by decide) (by decide)))
  have F_previous_a1_3 : Fld Z h3 a1 "com/example/process_stepper/processstepper/equivalence/IntLists" "previous" "[I" .null := F_previous_a1_2.other W3 (Or.inr (slot_ne (Or.inl (own_w hw 22 rfl)) (Or.inl (own_w hw 12 rfl)) (by decide) (t := (.array .int)) (t' := (.array .int)) (by decide) (by decide)))
  have A_ad2_3 : own_arr Z h3 ad2 (2 : Int32) own_zero := own_arr_other A_ad2_2 W3 (Nat.ne_of_gt lt_a1_ad2)
  have F_heads_a1_3 : Fld Z h3 a1 "com/example/process_stepper/processstepper/equivalence/IntLists" "heads" "[I" (.ref ad2) := F_heads_a1_2.same W3
  have K3 : Keep h0 h3 [a1] := K2.wr W3 (Or.inl (List.mem_of_getElem? (i := 0) rfl))
  have N3 := Fr.snoc X3 N0 ga
  have Zs3 : n0 ≤ h3.size := by rw [W3.size]; exact Zs2
  obtain ⟨T4, X4, e4, st4⟩ := getF X3 hx hZ hown (host := "") (Or.inl (own_w hw 11 rfl)) Via.refl e3 F_heads_a1_3 (g := (mkF m 12 #[.val (.ref a1), .val (.int (2 : Int32)), .val (.int (3 : Int32))] [(.ref a1)])) rfl rfl (hb hby d1_12)
  obtain ⟨_, _, ⟨T5, L5, k5, n5⟩, -, X5, ⟨Lc5, hQ5, l5, y5, z5⟩, st5⟩ := Jvm.LawKit.callS X4 hx (y := own_m1) hown (mvT hZ (own_w hw 13 rfl)) (mvT hZ (own_w hw 14 rfl)) (mvT hZ (own_w hw 15 rfl)) (mvT hZ (own_w hw 16 rfl)) (by decide) (backOf (W := 0) (rm3 l Z a0 hw [] ad2 (-1 : Int32) own_zero h3 n0 Zs3 A_ad2_3 gn_ad2) hZ (own_w hw 16 rfl) (own_w hw 15 rfl) (by decide) (by decide)) (g := (mkF m 16 #[.val (.ref a1), .val (.int (2 : Int32)), .val (.int (3 : Int32))] [(.int (-1 : Int32)), (.ref ad2)])) rfl (by rw [hml]; rfl) (argsL := [(.ref ad2), (.int (-1 : Int32))]) (rest := []) (lenOf pd___II_V rfl) rfl (by show 2 * 0 + _ ≤ _; exact Nat.le_of_eq rfl) (hb hby d1_16) (fun _ _ => ⟨rfl, e4, (by decide : 1 + 0 ≤ _), (by decide : 2 + 0 ≤ _)⟩)
  dsimp only [Pt.U, Pt.locs, Pt.cells, Pt.slots] at X5 l5 y5 z5 st5 hQ5
  subst l5 y5 z5
  obtain ⟨rfl, N5q, K5q, A5q⟩ := hQ5
  have N5 := Fr.app N3 N5q
  have E_a1_5 : Exa Z T5.heap a1 "com/example/process_stepper/processstepper/equivalence/IntLists" := E_a1_3.keep K5q
  have F_sizes_a1_5 : Fld Z T5.heap a1 "com/example/process_stepper/processstepper/equivalence/IntLists" "sizes" "[I" .null := F_sizes_a1_3.keep K5q (ninS (Nat.ne_of_lt lt_a1_ad2) nin0)
  have F_next_a1_5 : Fld Z T5.heap a1 "com/example/process_stepper/processstepper/equivalence/IntLists" "next" "[I" .null := F_next_a1_3.keep K5q (ninS (Nat.ne_of_lt lt_a1_ad2) nin0)
  have F_previous_a1_5 : Fld Z T5.heap a1 "com/example/process_stepper/processstepper/equivalence/IntLists" "previous" "[I" .null := F_previous_a1_3.keep K5q (ninS (Nat.ne_of_lt lt_a1_ad2) nin0)
  have F_heads_a1_5 : Fld Z T5.heap a1 "com/example/process_stepper/processstepper/equivalence/IntLists" "heads" "[I" (.ref ad2) := F_heads_a1_3.keep K5q (ninS (Nat.ne_of_lt lt_a1_ad2) nin0)
  have K5 : Keep h0 T5.heap [a1] := K3.trans K5q (allS (Or.inr sz_ad2) all0)
  have Zs5 : n0 ≤ T5.heap.size := Nat.le_trans Zs3 K5q.1
  obtain ⟨T6, h6, k6, X6, e6, E6, A6, st6⟩ := newP X5 hx hZ (own_w hw 10 rfl) rfl (g := (mkF m 21 #[.val (.ref a1), .val (.int (2 : Int32)), .val (.int (3 : Int32))] [(.int (2 : Int32)), (.ref a1)])) rfl (hb hby d1_21) rfl (by decide) (cap := 2) (by decide) (by decide) (by decide) (by decide)
  obtain ⟨ad6, g6⟩ : ∃ z, z = T5.heap.size := ⟨_, rfl⟩
  rw [← g6] at A6 st6
  have lt_a1_ad6 : a1 < ad6 := Nat.lt_of_lt_of_eq E_a1_5.lt g6.symm
  have lt_ad2_ad6 : ad2 < ad6 := Nat.lt_of_lt_of_eq (own_arr_lt A5q) g6.symm
  have gn_ad6 : n0 ≤ ad6 := Nat.le_trans Zs5 (Nat.le_of_eq g6.symm)
  have sz_ad6 : h0.size ≤ ad6 := Nat.le_trans K5.1 (Nat.le_of_eq g6.symm)
  have E_a1_6 : Exa Z h6 a1 "com/example/process_stepper/processstepper/equivalence/IntLists" := E_a1_5.ext E6
  have F_sizes_a1_6 : Fld Z h6 a1 "com/example/process_stepper/processstepper/equivalence/IntLists" "sizes" "[I" .null := F_sizes_a1_5.ext E6
  have F_next_a1_6 : Fld Z h6 a1 "com/example/process_stepper/processstepper/equivalence/IntLists" "next" "[I" .null := F_next_a1_5.ext E6
  have F_previous_a1_6 : Fld Z h6 a1 "com/example/process_stepper/processstepper/equivalence/IntLists" "previous" "[I" .null := F_previous_a1_5.ext E6
  have F_heads_a1_6 : Fld Z h6 a1 "com/example/process_stepper/processstepper/equivalence/IntLists" "heads" "[I" (.ref ad2) := F_heads_a1_5.ext E6
  have A_ad2_6 : own_arr Z h6 ad2 (2 : Int32) (own_upd (own_upd own_zero (0 : Int32) (-1 : Int32)) (1 : Int32) (-1 : Int32)) := own_arr_ext A5q E6
  have A_ad6_6 : own_arr Z h6 ad6 (2 : Int32) own_zero := own_arr_new A6 (by decide)
  have K6 : Keep h0 h6 [a1] := K5.ext E6
  have Zs6 : n0 ≤ h6.size := Nat.le_trans Zs5 E6.1
  obtain ⟨T7, h7, X7, e7, W7, st7⟩ := putF X6 hx hZ hown (host := "") (Or.inl (own_w hw 17 rfl)) Via.refl e6 F_sizes_a1_6 E_a1_6 (Or.inl (own_w hw 18 rfl)) (own_w hw 2 rfl) (ty := (.array .int)) (by decide) rfl rfl (g := (mkF m 23 #[.val (.ref a1), .val (.int (2 : Int32)), .val (.int (3 : Int32))] [(.ref ad6), (.ref a1)])) rfl rfl (hb hby d1_23)
  have E_a1_7 : Exa Z h7 a1 "com/example/process_stepper/processstepper/equivalence/IntLists" := E_a1_6.wr W7
  have F_next_a1_7 : Fld Z h7 a1 "com/example/process_stepper/processstepper/equivalence/IntLists" "next" "[I" .null := F_next_a1_6.other W7 (Or.inr (slot_ne (Or.inl (own_w hw 20 rfl)) (Or.inl (own_w hw 18 rfl)) (by decide) (t := (.array .int)) (t' := (.array .int)) (by decide) (by decide)))
  have F_previous_a1_7 : Fld Z h7 a1 "com/example/process_stepper/processstepper/equivalence/IntLists" "previous" "[I" .null := F_previous_a1_6.other W7 (Or.inr (slot_ne (Or.inl (own_w hw 22 rfl)) (Or.inl (own_w hw 18 rfl)) (by decide) (t := (.array .int)) (t' := (.array .int)) (by decide) (by decide)))
  have F_heads_a1_7 : Fld Z h7 a1 "com/example/process_stepper/processstepper/equivalence/IntLists" "heads" "[I" (.ref ad2) := F_heads_a1_6.other W7 (Or.inr (slot_ne (Or.inl (own_w hw 12 rfl)) (Or.inl (own_w hw 18 rfl)) (by decide) (t := (.array .int)) (t' := (.array .int)) (by decide) (by decide)))
  have A_ad2_7 : own_arr Z h7 ad2 (2 : Int32) (own_upd (own_upd own_zero (0 : Int32) (-1 : Int32)) (1 : Int32) (-1 : Int32)) := own_arr_other A_ad2_6 W7 (Nat.ne_of_gt lt_a1_ad2)
  have A_ad6_7 : own_arr Z h7 ad6 (2 : Int32) own_zero := own_arr_other A_ad6_6 W7 (Nat.ne_of_gt lt_a1_ad6)
  have F_sizes_a1_7 : Fld Z h7 a1 "com/example/process_stepper/processstepper/equivalence/IntLists" "sizes" "[I" (.ref ad6) := F_sizes_a1_6.same W7
  have K7 : Keep h0 h7 [a1] := K6.wr W7 (Or.inl (List.mem_of_getElem? (i := 0) rfl))
  have N7 := Fr.snoc X7 N5 ga
  have Zs7 : n0 ≤ h7.size := by rw [W7.size]; exact Zs6
  obtain ⟨T8, h8, k8, X8, e8, E8, A8, st8⟩ := newP X7 hx hZ (own_w hw 10 rfl) e7 (g := (mkF m 28 #[.val (.ref a1), .val (.int (2 : Int32)), .val (.int (3 : Int32))] [(.int (3 : Int32)), (.ref a1)])) rfl (hb hby d1_28) rfl (by decide) (cap := 3) (by decide) (by decide) (by decide) (by decide)
  obtain ⟨ad8, g8⟩ : ∃ z, z = h7.size := ⟨_, rfl⟩
  rw [← g8] at A8 st8
  have lt_a1_ad8 : a1 < ad8 := Nat.lt_of_lt_of_eq E_a1_7.lt g8.symm
  have lt_ad2_ad8 : ad2 < ad8 := Nat.lt_of_lt_of_eq (own_arr_lt A_ad2_7) g8.symm
  have lt_ad6_ad8 : ad6 < ad8 := Nat.lt_of_lt_of_eq (own_arr_lt A_ad6_7) g8.symm
  have gn_ad8 : n0 ≤ ad8 := Nat.le_trans Zs7 (Nat.le_of_eq g8.symm)
  have sz_ad8 : h0.size ≤ ad8 := Nat.le_trans K7.1 (Nat.le_of_eq g8.symm)
  have E_a1_8 : Exa Z h8 a1 "com/example/process_stepper/processstepper/equivalence/IntLists" := E_a1_7.ext E8
  have F_next_a1_8 : Fld Z h8 a1 "com/example/process_stepper/processstepper/equivalence/IntLists" "next" "[I" .null := F_next_a1_7.ext E8
  have F_previous_a1_8 : Fld Z h8 a1 "com/example/process_stepper/processstepper/equivalence/IntLists" "previous" "[I" .null := F_previous_a1_7.ext E8
  have F_heads_a1_8 : Fld Z h8 a1 "com/example/process_stepper/processstepper/equivalence/IntLists" "heads" "[I" (.ref ad2) := F_heads_a1_7.ext E8
  have A_ad2_8 : own_arr Z h8 ad2 (2 : Int32) (own_upd (own_upd own_zero (0 : Int32) (-1 : Int32)) (1 : Int32) (-1 : Int32)) := own_arr_ext A_ad2_7 E8
  have A_ad6_8 : own_arr Z h8 ad6 (2 : Int32) own_zero := own_arr_ext A_ad6_7 E8
  have F_sizes_a1_8 : Fld Z h8 a1 "com/example/process_stepper/processstepper/equivalence/IntLists" "sizes" "[I" (.ref ad6) := F_sizes_a1_7.ext E8
  have A_ad8_8 : own_arr Z h8 ad8 (3 : Int32) own_zero := own_arr_new A8 (by decide)
  have K8 : Keep h0 h8 [a1] := K7.ext E8
  have Zs8 : n0 ≤ h8.size := Nat.le_trans Zs7 E8.1
  obtain ⟨T9, h9, X9, e9, W9, st9⟩ := putF X8 hx hZ hown (host := "") (Or.inl (own_w hw 19 rfl)) Via.refl e8 F_next_a1_8 E_a1_8 (Or.inl (own_w hw 20 rfl)) (own_w hw 2 rfl) (ty := (.array .int)) (by decide) rfl rfl (g := (mkF m 30 #[.val (.ref a1), .val (.int (2 : Int32)), .val (.int (3 : Int32))] [(.ref ad8), (.ref a1)])) rfl rfl (hb hby d1_30)
  have E_a1_9 : Exa Z h9 a1 "com/example/process_stepper/processstepper/equivalence/IntLists" := E_a1_8.wr W9
  have F_previous_a1_9 : Fld Z h9 a1 "com/example/process_stepper/processstepper/equivalence/IntLists" "previous" "[I" .null := F_previous_a1_8.other W9 (Or.inr (slot_ne (Or.inl (own_w hw 22 rfl)) (Or.inl (own_w hw 20 rfl)) (by decide) (t := (.array .int)) (t' := (.array .int)) (by decide) (by decide)))
  have F_heads_a1_9 : Fld Z h9 a1 "com/example/process_stepper/processstepper/equivalence/IntLists" "heads" "[I" (.ref ad2) := F_heads_a1_8.other W9 (Or.inr (slot_ne (Or.inl (own_w hw 12 rfl)) (Or.inl (own_w hw 20 rfl)) (by decide) (t := (.array .int)) (t' := (.array .int)) (by decide) (by decide)))
  have A_ad2_9 : own_arr Z h9 ad2 (2 : Int32) (own_upd (own_upd own_zero (0 : Int32) (-1 : Int32)) (1 : Int32) (-1 : Int32)) := own_arr_other A_ad2_8 W9 (Nat.ne_of_gt lt_a1_ad2)
  have A_ad6_9 : own_arr Z h9 ad6 (2 : Int32) own_zero := own_arr_other A_ad6_8 W9 (Nat.ne_of_gt lt_a1_ad6)
  have F_sizes_a1_9 : Fld Z h9 a1 "com/example/process_stepper/processstepper/equivalence/IntLists" "sizes" "[I" (.ref ad6) := F_sizes_a1_8.other W9 (Or.inr (slot_ne (Or.inl (own_w hw 18 rfl)) (Or.inl (own_w hw 20 rfl)) (by decide) (t := (.array .int)) (t' := (.array .int)) (by decide) (by decide)))
  have A_ad8_9 : own_arr Z h9 ad8 (3 : Int32) own_zero := own_arr_other A_ad8_8 W9 (Nat.ne_of_gt lt_a1_ad8)
  have F_next_a1_9 : Fld Z h9 a1 "com/example/process_stepper/processstepper/equivalence/IntLists" "next" "[I" (.ref ad8) := F_next_a1_8.same W9
  have K9 : Keep h0 h9 [a1] := K8.wr W9 (Or.inl (List.mem_of_getElem? (i := 0) rfl))
  have N9 := Fr.snoc X9 N7 ga
  have Zs9 : n0 ≤ h9.size := by rw [W9.size]; exact Zs8
  obtain ⟨T10, h10, k10, X10, e10, E10, A10, st10⟩ := newP X9 hx hZ (own_w hw 10 rfl) e9 (g := (mkF m 35 #[.val (.ref a1), .val (.int (2 : Int32)), .val (.int (3 : Int32))] [(.int (3 : Int32)), (.ref a1)])) rfl (hb hby d1_35) rfl (by decide) (cap := 3) (by decide) (by decide) (by decide) (by decide)
  obtain ⟨ad10, g10⟩ : ∃ z, z = h9.size := ⟨_, rfl⟩
  rw [← g10] at A10 st10
  have lt_a1_ad10 : a1 < ad10 := Nat.lt_of_lt_of_eq E_a1_9.lt g10.symm
  have lt_ad2_ad10 : ad2 < ad10 := Nat.lt_of_lt_of_eq (own_arr_lt A_ad2_9) g10.symm
  have lt_ad6_ad10 : ad6 < ad10 := Nat.lt_of_lt_of_eq (own_arr_lt A_ad6_9) g10.symm
  have lt_ad8_ad10 : ad8 < ad10 := Nat.lt_of_lt_of_eq (own_arr_lt A_ad8_9) g10.symm
  have gn_ad10 : n0 ≤ ad10 := Nat.le_trans Zs9 (Nat.le_of_eq g10.symm)
  have sz_ad10 : h0.size ≤ ad10 := Nat.le_trans K9.1 (Nat.le_of_eq g10.symm)
  have E_a1_10 : Exa Z h10 a1 "com/example/process_stepper/processstepper/equivalence/IntLists" := E_a1_9.ext E10
  have F_previous_a1_10 : Fld Z h10 a1 "com/example/process_stepper/processstepper/equivalence/IntLists" "previous" "[I" .null := F_previous_a1_9.ext E10
  have F_heads_a1_10 : Fld Z h10 a1 "com/example/process_stepper/processstepper/equivalence/IntLists" "heads" "[I" (.ref ad2) := F_heads_a1_9.ext E10
  have A_ad2_10 : own_arr Z h10 ad2 (2 : Int32) (own_upd (own_upd own_zero (0 : Int32) (-1 : Int32)) (1 : Int32) (-1 : Int32)) := own_arr_ext A_ad2_9 E10
  have A_ad6_10 : own_arr Z h10 ad6 (2 : Int32) own_zero := own_arr_ext A_ad6_9 E10
  have F_sizes_a1_10 : Fld Z h10 a1 "com/example/process_stepper/processstepper/equivalence/IntLists" "sizes" "[I" (.ref ad6) := F_sizes_a1_9.ext E10
  have A_ad8_10 : own_arr Z h10 ad8 (3 : Int32) own_zero := own_arr_ext A_ad8_9 E10
  have F_next_a1_10 : Fld Z h10 a1 "com/example/process_stepper/processstepper/equivalence/IntLists" "next" "[I" (.ref ad8) := F_next_a1_9.ext E10
  have A_ad10_10 : own_arr Z h10 ad10 (3 : Int32) own_zero := own_arr_new A10 (by decide)
  have K10 : Keep h0 h10 [a1] := K9.ext E10
  have Zs10 : n0 ≤ h10.size := Nat.le_trans Zs9 E10.1
  obtain ⟨T11, h11, X11, e11, W11, st11⟩ := putF X10 hx hZ hown (host := "") (Or.inl (own_w hw 21 rfl)) Via.refl e10 F_previous_a1_10 E_a1_10 (Or.inl (own_w hw 22 rfl)) (own_w hw 2 rfl) (ty := (.array .int)) (by decide) rfl rfl (g := (mkF m 37 #[.val (.ref a1), .val (.int (2 : Int32)), .val (.int (3 : Int32))] [(.ref ad10), (.ref a1)])) rfl rfl (hb hby d1_37)
  have E_a1_11 : Exa Z h11 a1 "com/example/process_stepper/processstepper/equivalence/IntLists" := E_a1_10.wr W11
  have F_heads_a1_11 : Fld Z h11 a1 "com/example/process_stepper/processstepper/equivalence/IntLists" "heads" "[I" (.ref ad2) := F_heads_a1_10.other W11 (Or.inr (slot_ne (Or.inl (own_w hw 12 rfl)) (Or.inl (own_w hw 22 rfl)) (by decide) (t := (.array .int)) (t' := (.array .int)) (by decide) (by decide)))
  have A_ad2_11 : own_arr Z h11 ad2 (2 : Int32) (own_upd (own_upd own_zero (0 : Int32) (-1 : Int32)) (1 : Int32) (-1 : Int32)) := own_arr_other A_ad2_10 W11 (Nat.ne_of_gt lt_a1_ad2)
  have A_ad6_11 : own_arr Z h11 ad6 (2 : Int32) own_zero := own_arr_other A_ad6_10 W11 (Nat.ne_of_gt lt_a1_ad6)
  have F_sizes_a1_11 : Fld Z h11 a1 "com/example/process_stepper/processstepper/equivalence/IntLists" "sizes" "[I" (.ref ad6) := F_sizes_a1_10.other W11 (Or.inr (slot_ne (Or.inl (own_w hw 18 rfl)) (Or.inl (own_w hw 22 rfl)) (by decide) (t := (.array .int)) (t' := (.array .int)) (by decide) (by decide)))
  have A_ad8_11 : own_arr Z h11 ad8 (3 : Int32) own_zero := own_arr_other A_ad8_10 W11 (Nat.ne_of_gt lt_a1_ad8)
  have F_next_a1_11 : Fld Z h11 a1 "com/example/process_stepper/processstepper/equivalence/IntLists" "next" "[I" (.ref ad8) := F_next_a1_10.other W11 (Or.inr (slot_ne (Or.inl (own_w hw 20 rfl)) (Or.inl (own_w hw 22 rfl)) (by decide) (t := (.array .int)) (t' := (.array .int)) (by decide) (by decide)))
  have A_ad10_11 : own_arr Z h11 ad10 (3 : Int32) own_zero := own_arr_other A_ad10_10 W11 (Nat.ne_of_gt lt_a1_ad10)
  have F_previous_a1_11 : Fld Z h11 a1 "com/example/process_stepper/processstepper/equivalence/IntLists" "previous" "[I" (.ref ad10) := F_previous_a1_10.same W11
  have K11 : Keep h0 h11 [a1] := K10.wr W11 (Or.inl (List.mem_of_getElem? (i := 0) rfl))
  have N11 := Fr.snoc X11 N9 ga
  have Zs11 : n0 ≤ h11.size := by rw [W11.size]; exact Zs10
  obtain ⟨fs, hr, hrun, hended, hW, hsame⟩ := X11.leave (v := none) (fun _ => rfl)
  refine ⟨_, _, pre0 _ ?_, hrun, hended, _, _, rfl, ?_, ⟨_, rfl⟩, hW, hsame.mono (by decide) (by decide)⟩
  · show Steps p.tables e below (s₁.setTop (mkF m 0 #[.val (.ref a1), .val (.int (2 : Int32)), .val (.int (3 : Int32))] [])) _
    refine XS.aloadN X0.here hx rfl (hb hby d1_0) rfl rfl ?_
    show Steps p.tables e below (s₁.setTop (mkF m 1 #[.val (.ref a1), .val (.int (2 : Int32)), .val (.int (3 : Int32))] [(.ref a1)])) _
    refine st1 _ ?_
    show Steps p.tables e below (T1.setTop (mkF m 4 #[.val (.ref a1), .val (.int (2 : Int32)), .val (.int (3 : Int32))] [])) _
    refine XS.aloadN X1.here hx rfl (hb hby d1_4) rfl rfl ?_
    refine XS.iloadN X1.here hx rfl (hb hby d1_5) rfl ?_
    show Steps p.tables e below (T1.setTop (mkF m 6 #[.val (.ref a1), .val (.int (2 : Int32)), .val (.int (3 : Int32))] [(.int (2 : Int32)), (.ref a1)])) _
    refine st2 _ ?_
    show Steps p.tables e below (T2.setTop (mkF m 8 #[.val (.ref a1), .val (.int (2 : Int32)), .val (.int (3 : Int32))] [(.ref ad2), (.ref a1)])) _
    refine st3 _ ?_
    show Steps p.tables e below (T3.setTop (mkF m 11 #[.val (.ref a1), .val (.int (2 : Int32)), .val (.int (3 : Int32))] [])) _
    refine XS.aloadN X3.here hx rfl (hb hby d1_11) rfl rfl ?_
    show Steps p.tables e below (T3.setTop (mkF m 12 #[.val (.ref a1), .val (.int (2 : Int32)), .val (.int (3 : Int32))] [(.ref a1)])) _
    refine st4 _ ?_
    show Steps p.tables e below (T4.setTop (mkF m 15 #[.val (.ref a1), .val (.int (2 : Int32)), .val (.int (3 : Int32))] [(.ref ad2)])) _
    refine XS.iconst X4.here hx rfl (hb hby d1_15) ?_
    show Steps p.tables e below (T4.setTop (mkF m 16 #[.val (.ref a1), .val (.int (2 : Int32)), .val (.int (3 : Int32))] [(.int (-1 : Int32)), (.ref ad2)])) _
    refine st5 _ ?_
    show Steps p.tables e below (T5.setTop (mkF m 19 #[.val (.ref a1), .val (.int (2 : Int32)), .val (.int (3 : Int32))] [])) _
    refine XS.aloadN X5.here hx rfl (hb hby d1_19) rfl rfl ?_
    refine XS.iloadN X5.here hx rfl (hb hby d1_20) rfl ?_
    show Steps p.tables e below (T5.setTop (mkF m 21 #[.val (.ref a1), .val (.int (2 : Int32)), .val (.int (3 : Int32))] [(.int (2 : Int32)), (.ref a1)])) _
    refine st6 _ ?_
    show Steps p.tables e below (T6.setTop (mkF m 23 #[.val (.ref a1), .val (.int (2 : Int32)), .val (.int (3 : Int32))] [(.ref ad6), (.ref a1)])) _
    refine st7 _ ?_
    show Steps p.tables e below (T7.setTop (mkF m 26 #[.val (.ref a1), .val (.int (2 : Int32)), .val (.int (3 : Int32))] [])) _
    refine XS.aloadN X7.here hx rfl (hb hby d1_26) rfl rfl ?_
    refine XS.iloadN X7.here hx rfl (hb hby d1_27) rfl ?_
    show Steps p.tables e below (T7.setTop (mkF m 28 #[.val (.ref a1), .val (.int (2 : Int32)), .val (.int (3 : Int32))] [(.int (3 : Int32)), (.ref a1)])) _
    refine st8 _ ?_
    show Steps p.tables e below (T8.setTop (mkF m 30 #[.val (.ref a1), .val (.int (2 : Int32)), .val (.int (3 : Int32))] [(.ref ad8), (.ref a1)])) _
    refine st9 _ ?_
    show Steps p.tables e below (T9.setTop (mkF m 33 #[.val (.ref a1), .val (.int (2 : Int32)), .val (.int (3 : Int32))] [])) _
    refine XS.aloadN X9.here hx rfl (hb hby d1_33) rfl rfl ?_
    refine XS.iloadN X9.here hx rfl (hb hby d1_34) rfl ?_
    show Steps p.tables e below (T9.setTop (mkF m 35 #[.val (.ref a1), .val (.int (2 : Int32)), .val (.int (3 : Int32))] [(.int (3 : Int32)), (.ref a1)])) _
    refine st10 _ ?_
    show Steps p.tables e below (T10.setTop (mkF m 37 #[.val (.ref a1), .val (.int (2 : Int32)), .val (.int (3 : Int32))] [(.ref ad10), (.ref a1)])) _
    refine st11 _ ?_
    show Steps p.tables e below (T11.setTop (mkF m 40 #[.val (.ref a1), .val (.int (2 : Int32)), .val (.int (3 : Int32))] [])) _
    exact X11.returnOut hx Bd.returns (hb hby d1_40) hr
  · show Q1 Z a1 h0 n0 _ T11.heap _
    rw [e11]
    exact ⟨rfl, N11, ad2, ad6, ad8, ad10, K11, sz_ad2, ⟨E_a1_11, ⟨F_heads_a1_11, F_sizes_a1_11, F_next_a1_11, F_previous_a1_11⟩, ⟨A_ad2_11, A_ad6_11, A_ad8_11, A_ad10_11⟩, ⟨lt_a1_ad2, lt_ad2_ad6, lt_ad6_ad8, lt_ad8_ad10⟩, gn_ad2⟩⟩
theorem d6_0 : decode method_3_code 0 = .ok (.iconst 3, 1) := by decide +kernel
theorem d6_1 : decode method_3_code 1 = .ok (.newarray .int, 2) := by decide +kernel
theorem d6_3 : decode method_3_code 3 = .ok (.astore 5, 2) := by decide +kernel
theorem d6_5 : decode method_3_code 5 = .ok (.iconst 0, 1) := by decide +kernel
theorem d6_6 : decode method_3_code 6 = .ok (.istore 6, 2) := by decide +kernel
theorem d6_8 : decode method_3_code 8 = .ok (.iconst 2, 1) := by decide +kernel
theorem d6_9 : decode method_3_code 9 = .ok (.iload_n 2, 1) := by decide +kernel
theorem d6_10 : decode method_3_code 10 = .ok (.if_icmp .ge 23, 3) := by decide +kernel
theorem d6_33 : decode method_3_code 33 = .ok (.iconst 1, 1) := by decide +kernel
theorem d6_34 : decode method_3_code 34 = .ok (.iload_n 2, 1) := by decide +kernel
theorem d6_35 : decode method_3_code 35 = .ok (.if_icmp .ge 23, 3) := by decide +kernel
theorem d6_58 : decode method_3_code 58 = .ok (.iconst 0, 1) := by decide +kernel
theorem d6_59 : decode method_3_code 59 = .ok (.iload_n 3, 1) := by decide +kernel
theorem d6_60 : decode method_3_code 60 = .ok (.if_icmp .eq 18, 3) := by decide +kernel
theorem d6_78 : decode method_3_code 78 = .ok (.aload_n 0, 1) := by decide +kernel
theorem d6_79 : decode method_3_code 79 = .ok (.iload_n 1, 1) := by decide +kernel
theorem d6_80 : decode method_3_code 80 = .ok (.invokevirtual 29, 3) := by decide +kernel
theorem d6_83 : decode method_3_code 83 = .ok (.iload 6, 2) := by decide +kernel
theorem d6_85 : decode method_3_code 85 = .ok (.if_icmp .eq 5, 3) := by decide +kernel
theorem d6_90 : decode method_3_code 90 = .ok (.aload_n 0, 1) := by decide +kernel
theorem d6_91 : decode method_3_code 91 = .ok (.iload_n 1, 1) := by decide +kernel
theorem d6_92 : decode method_3_code 92 = .ok (.invokevirtual 25, 3) := by decide +kernel
theorem d6_95 : decode method_3_code 95 = .ok (.iload 6, 2) := by decide +kernel
theorem d6_97 : decode method_3_code 97 = .ok (.iconst 1, 1) := by decide +kernel
theorem d6_98 : decode method_3_code 98 = .ok (.if_icmp .lt 10, 3) := by decide +kernel
theorem d6_108 : decode method_3_code 108 = .ok (.iconst (-1), 1) := by decide +kernel
theorem d6_109 : decode method_3_code 109 = .ok (.if_icmp .eq 5, 3) := by decide +kernel
theorem d6_114 : decode method_3_code 114 = .ok (.iload 6, 2) := by decide +kernel
theorem d6_116 : decode method_3_code 116 = .ok (.iconst 1, 1) := by decide +kernel
theorem d6_117 : decode method_3_code 117 = .ok (.if_icmp .lt 30, 3) := by decide +kernel
theorem d6_147 : decode method_3_code 147 = .ok (.iload 6, 2) := by decide +kernel
theorem d6_149 : decode method_3_code 149 = .ok (.iconst 2, 1) := by decide +kernel
theorem d6_150 : decode method_3_code 150 = .ok (.if_icmp .lt 30, 3) := by decide +kernel
theorem d6_180 : decode method_3_code 180 = .ok (.iload 6, 2) := by decide +kernel
theorem d6_182 : decode method_3_code 182 = .ok (.iconst 3, 1) := by decide +kernel
theorem d6_183 : decode method_3_code 183 = .ok (.if_icmp .lt 17, 3) := by decide +kernel
theorem d6_200 : decode method_3_code 200 = .ok (.iconst 1, 1) := by decide +kernel
theorem d6_201 : decode method_3_code 201 = .ok (.ireturn, 1) := by decide +kernel
theorem pn_6 : plainName "com/example/process_stepper/processstepper/equivalence/IntListsRemovePinLaw" = true := by first | (simp [plainName, overriddenIn]; done) | decide +kernel
theorem pd__I_I : parseMethodDescriptor "(I)I" = some ⟨[.int], some .int⟩ := by decide +kernel
abbrev own_m2 : MethodName := ⟨"com/example/process_stepper/processstepper/equivalence/IntLists", "size", "(I)I"⟩
abbrev own_m3 : MethodName := ⟨"com/example/process_stepper/processstepper/equivalence/IntLists", "first", "(I)I"⟩
theorem ef_6_1_0_m1 (m : MethodId) (a1 : Addr) (p2 : Int32) : entryFrame m #[(.ref a1), (.int p2), (.int (1 : Int32)), (.int (0 : Int32)), (.int (-1 : Int32))] 7 = mkF m 0 #[.val (.ref a1), .val (.int p2), .val (.int (1 : Int32)), .val (.int (0 : Int32)), .val (.int (-1 : Int32)), .unset, .unset] [] := by first | (simp [entryFrame, mkF, argsToLocals, Value.category]; done) | rfl
def Q6_1_0_m1 (Z : State) (a1 : Addr) (p2 : Int32) (b1 b2 b3 b4 : Addr) (fH fS fN fP : Int32 → Int32) (h0 : Heap) (n0 : Nat) (v : Option Value) (h : Heap) (L : List Loc) : Prop := v = some (.int (1 : Int32)) ∧ Fr n0 L ∧ Keep h0 h []
set_option maxRecDepth 65536 in
set_option maxHeartbeats 40000000 in
theorem rm6_1_0_m1 (l : Launch) (Z : State) (a0 : Array Value) (hw : ∀ d ∈ tables_1, d.before a0 Z = true) (ws : List Jvm.Cond) (a1 : Addr) (p2 : Int32) (b1 b2 b3 b4 : Addr) (fH fS fN fP : Int32 → Int32) (h0 : Heap) (n0 : Nat) (Z0 : n0 ≤ h0.size) (V0 : own_L Z n0 h0 a1 b1 b2 b3 b4 fH fS fN fP) (l0 : ¬ p2 < 0) (l1 : p2 < (2 : Int32)) (hs : (fS p2) = (0 : Int32)) (hf : (fH p2) = (-1 : Int32)) :
    MetFree l (⟨"com/example/process_stepper/processstepper/equivalence/IntListsRemovePinLaw", "matches", "(Lcom/example/process_stepper/processstepper/equivalence/IntLists;IIII)Z"⟩ : MethodName) (head1 (Jvm.Cond.code (⟨"com/example/process_stepper/processstepper/equivalence/IntListsRemovePinLaw", "matches", "(Lcom/example/process_stepper/processstepper/equivalence/IntLists;IIII)Z"⟩ : MethodName) method_3_code 7 (some .boolean) :: ws) ({ frames := 1, cells := 1, slots := 3, locals := 14 } : Room)) (fun a U => a = #[(.ref a1), (.int p2), (.int (1 : Int32)), (.int (0 : Int32)), (.int (-1 : Int32))] ∧ Z.Warmed39 U.vm ∧ U.heap = h0) (fun _ _ _ _ _ => True) (fun _ U o U' => ∃ v L, o = .returned v ∧ Q6_1_0_m1 Z a1 p2 b1 b2 b3 b4 fH fS fN fP h0 n0 v U'.heap L ∧ FrameEnd U o U' L ({ frames := 1, cells := 1, slots := 3, locals := 14 } : Room).cells ({ frames := 1, cells := 1, slots := 3, locals := 14 } : Room).slots) := by
  refine MetFree.of_bodySF (plainFor_of_name pn_6) hisR ?_
  intro p e s m args below meth c s₁ Bd hml0 hP hK
  obtain ⟨rfl, hZ, hh⟩ := hP
  have hx := Bd.exec
  have hby := Bd.bytes
  have hml : c.maxLocals = 7 := hml0
  have hown : s.vm.findClass "com/example/process_stepper/processstepper/equivalence/IntListsRemovePinLaw" = some m.cls := findClass_of_methodNamed Bd.named
  have hnm := (name_of_methodNamed Bd.named Bd.method).1
  have X0 : Stand p l e ({ frames := 1, cells := 1, slots := 3, locals := 14 } : Room) s m #[(.ref a1), (.int p2), (.int (1 : Int32)), (.int (0 : Int32)), (.int (-1 : Int32))] below meth c s₁ [] 0 0 := Stand.of_body Bd
  have e0 : s₁.heap = h0 := by rw [← hh, Bd.state]; rfl
  have N0 := Fr.nil n0
  have pre0 : ∀ t, Steps p.tables e below (s₁.setTop (mkF m 0 #[.val (.ref a1), .val (.int p2), .val (.int (1 : Int32)), .val (.int (0 : Int32)), .val (.int (-1 : Int32)), .unset, .unset] [])) t → Steps p.tables e below (s₁.setTop (entryFrame m #[(.ref a1), (.int p2), (.int (1 : Int32)), (.int (0 : Int32)), (.int (-1 : Int32))] 7)) t := fun t k => castTop (ef_6_1_0_m1 m a1 p2) k
  obtain ⟨T1, h1, k1, X1, e1, E1, A1, st1⟩ := newP X0 hx hZ (own_w hw 10 rfl) e0 (g := (mkF m 1 #[.val (.ref a1), .val (.int p2), .val (.int (1 : Int32)), .val (.int (0 : Int32)), .val (.int (-1 : Int32)), .unset, .unset] [(.int (3 : Int32))])) rfl (hb hby d6_1) rfl (by decide) (cap := 3) (by decide) (by decide) (by decide) (by decide)
  obtain ⟨ad1, g1⟩ : ∃ z, z = h0.size := ⟨_, rfl⟩
  rw [← g1] at A1 st1
  have lt_a1_ad1 : a1 < ad1 := Nat.lt_of_lt_of_eq (own_L_lta V0) g1.symm
  have lt_b4_ad1 : b4 < ad1 := Nat.lt_of_lt_of_eq (own_L_lt V0) g1.symm
  have gn_ad1 : n0 ≤ ad1 := Nat.le_trans Z0 (Nat.le_of_eq g1.symm)
  have sz_ad1 : h0.size ≤ ad1 := Nat.le_trans (Keep.refl h0 []).1 (Nat.le_of_eq g1.symm)
  have V_a1_1 : own_L Z n0 h1 a1 b1 b2 b3 b4 fH fS fN fP := own_L_ext V0 E1
  have A_ad1_1 : own_arr Z h1 ad1 (3 : Int32) own_zero := own_arr_new A1 (by decide)
  have K1 : Keep h0 h1 [] := (Keep.refl h0 []).ext E1
  have Zs1 : n0 ≤ h1.size := Nat.le_trans Z0 E1.1
  obtain ⟨cq2, kq2, q2a, q2b, q2c⟩ := isOf hZ e1 (V_a1_1.1)
  obtain ⟨_, _, ⟨T2, L2, k2, n2⟩, -, X2, ⟨Lc2, hQ2, l2, y2, z2⟩, st2⟩ := X1.virtualBack hx (y := own_m2) (z := own_m2) hown (mvT hZ (own_w hw 37 rfl)) (mvT hZ (own_w hw 38 rfl)) (notFace_of_selects (args := #[]) (mvT hZ (own_w hw 40 rfl))) (mvT hZ (own_w hw 40 rfl)) (mvT hZ (own_w hw 39 rfl)) (by decide) (backOf (W := 0) (rm7 l Z a0 hw [] a1 p2 b1 b2 b3 b4 fH fS fN fP h1 n0 Zs1 V_a1_1 l0 l1) hZ (own_w hw 41 rfl) (own_w hw 3 rfl) (by decide) (by decide)) q2a q2c (g := (mkF m 80 #[.val (.ref a1), .val (.int p2), .val (.int (1 : Int32)), .val (.int (0 : Int32)), .val (.int (-1 : Int32)), .val (.ref ad1), .val (.int (0 : Int32))] [(.int p2), (.ref a1)])) rfl (by rw [hml]; rfl) (Steps.refl _) (argsL := [(.int p2)]) (rest := []) (lenOf pd__I_I rfl) rfl (by show 2 * 0 + _ ≤ _; exact Nat.le_of_eq rfl) (hb hby d6_80) (fun _ _ => ⟨rfl, e1, (by decide : 1 + 0 ≤ _), (by decide : 3 + 0 ≤ _)⟩)
  dsimp only [Pt.U, Pt.locs, Pt.cells, Pt.slots] at X2 l2 y2 z2 st2 hQ2
  subst l2 y2 z2
  obtain ⟨rfl, N2q, q2⟩ := hQ2
  have N2 := Fr.app N0 N2q
  have e2' : T2.heap = h1 := q2
  obtain ⟨cq3, kq3, q3a, q3b, q3c⟩ := isOf hZ e2' (V_a1_1.1)
  obtain ⟨_, _, ⟨T3, L3, k3, n3⟩, -, X3, ⟨Lc3, hQ3, l3, y3, z3⟩, st3⟩ := X2.virtualBack hx (y := own_m3) (z := own_m3) hown (mvT hZ (own_w hw 42 rfl)) (mvT hZ (own_w hw 43 rfl)) (notFace_of_selects (args := #[]) (mvT hZ (own_w hw 45 rfl))) (mvT hZ (own_w hw 45 rfl)) (mvT hZ (own_w hw 44 rfl)) (by decide) (backOf (W := 0) (rm8 l Z a0 hw [] a1 p2 b1 b2 b3 b4 fH fS fN fP h1 n0 Zs1 V_a1_1 l0 l1) hZ (own_w hw 46 rfl) (own_w hw 3 rfl) (by decide) (by decide)) q3a q3c (g := (mkF m 92 #[.val (.ref a1), .val (.int p2), .val (.int (1 : Int32)), .val (.int (0 : Int32)), .val (.int (-1 : Int32)), .val (.ref ad1), .val (.int (0 : Int32))] [(.int p2), (.ref a1)])) rfl (by rw [hml]; rfl) (Steps.refl _) (argsL := [(.int p2)]) (rest := []) (lenOf pd__I_I rfl) rfl (by show 2 * 0 + _ ≤ _; exact Nat.le_of_eq rfl) (hb hby d6_92) (fun _ _ => ⟨rfl, e2', (by decide : 1 + 0 ≤ _), (by decide : 3 + 0 ≤ _)⟩)
  dsimp only [Pt.U, Pt.locs, Pt.cells, Pt.slots] at X3 l3 y3 z3 st3 hQ3
  subst l3 y3 z3
  obtain ⟨rfl, N3q, q3⟩ := hQ3
  have N3 := Fr.app N2 N3q
  have e3' : T3.heap = h1 := q3
  obtain ⟨fs, hr, hrun, hended, hW, hsame⟩ := X3.leave (v := some (.int (1 : Int32))) (fun h => by rw [Bd.returns] at h; cases h)
  refine ⟨_, _, pre0 _ ?_, hrun, hended, _, _, rfl, ?_, ⟨_, rfl⟩, hW, hsame.mono (by decide) (by decide)⟩
  · show Steps p.tables e below (s₁.setTop (mkF m 0 #[.val (.ref a1), .val (.int p2), .val (.int (1 : Int32)), .val (.int (0 : Int32)), .val (.int (-1 : Int32)), .unset, .unset] [])) _
    refine XS.iconst X0.here hx rfl (hb hby d6_0) ?_
    show Steps p.tables e below (s₁.setTop (mkF m 1 #[.val (.ref a1), .val (.int p2), .val (.int (1 : Int32)), .val (.int (0 : Int32)), .val (.int (-1 : Int32)), .unset, .unset] [(.int (3 : Int32))])) _
    refine st1 _ ?_
    show Steps p.tables e below (T1.setTop (mkF m 3 #[.val (.ref a1), .val (.int p2), .val (.int (1 : Int32)), .val (.int (0 : Int32)), .val (.int (-1 : Int32)), .unset, .unset] [(.ref ad1)])) _
    refine XS.astore X1.here hx rfl (hb hby d6_3) rfl rfl (l' := #[.val (.ref a1), .val (.int p2), .val (.int (1 : Int32)), .val (.int (0 : Int32)), .val (.int (-1 : Int32)), .val (.ref ad1), .unset]) rfl ?_
    refine XS.iconst X1.here hx rfl (hb hby d6_5) ?_
    refine XS.istore X1.here hx rfl (hb hby d6_6) rfl (l' := #[.val (.ref a1), .val (.int p2), .val (.int (1 : Int32)), .val (.int (0 : Int32)), .val (.int (-1 : Int32)), .val (.ref ad1), .val (.int (0 : Int32))]) rfl ?_
    refine XS.iconst X1.here hx rfl (hb hby d6_8) ?_
    refine XS.iloadN X1.here hx rfl (hb hby d6_9) rfl ?_
    show Steps p.tables e below (T1.setTop (mkF m 10 #[.val (.ref a1), .val (.int p2), .val (.int (1 : Int32)), .val (.int (0 : Int32)), .val (.int (-1 : Int32)), .val (.ref ad1), .val (.int (0 : Int32))] [(.int (1 : Int32)), (.int (2 : Int32))])) _
    refine XS.icmpYes X1.here hx rfl (pc0 := 10) (pc' := 33) rfl (hb hby d6_10) rfl (flt (by decide : ¬ ((2 : Int32) < (1 : Int32)))).2.1 (by decide) (by decide) ?_
    show Steps p.tables e below (T1.setTop (mkF m 33 #[.val (.ref a1), .val (.int p2), .val (.int (1 : Int32)), .val (.int (0 : Int32)), .val (.int (-1 : Int32)), .val (.ref ad1), .val (.int (0 : Int32))] [])) _
    refine XS.iconst X1.here hx rfl (hb hby d6_33) ?_
    refine XS.iloadN X1.here hx rfl (hb hby d6_34) rfl ?_
    show Steps p.tables e below (T1.setTop (mkF m 35 #[.val (.ref a1), .val (.int p2), .val (.int (1 : Int32)), .val (.int (0 : Int32)), .val (.int (-1 : Int32)), .val (.ref ad1), .val (.int (0 : Int32))] [(.int (1 : Int32)), (.int (1 : Int32))])) _
    refine XS.icmpYes X1.here hx rfl (pc0 := 35) (pc' := 58) rfl (hb hby d6_35) rfl (flt (by decide : ¬ ((1 : Int32) < (1 : Int32)))).2.1 (by decide) (by decide) ?_
    show Steps p.tables e below (T1.setTop (mkF m 58 #[.val (.ref a1), .val (.int p2), .val (.int (1 : Int32)), .val (.int (0 : Int32)), .val (.int (-1 : Int32)), .val (.ref ad1), .val (.int (0 : Int32))] [])) _
    refine XS.iconst X1.here hx rfl (hb hby d6_58) ?_
    refine XS.iloadN X1.here hx rfl (hb hby d6_59) rfl ?_
    show Steps p.tables e below (T1.setTop (mkF m 60 #[.val (.ref a1), .val (.int p2), .val (.int (1 : Int32)), .val (.int (0 : Int32)), .val (.int (-1 : Int32)), .val (.ref ad1), .val (.int (0 : Int32))] [(.int (0 : Int32)), (.int (0 : Int32))])) _
    refine XS.icmpYes X1.here hx rfl (pc0 := 60) (pc' := 78) rfl (hb hby d6_60) rfl (teq (by decide : (0 : Int32) = (0 : Int32))).1 (by decide) (by decide) ?_
    show Steps p.tables e below (T1.setTop (mkF m 78 #[.val (.ref a1), .val (.int p2), .val (.int (1 : Int32)), .val (.int (0 : Int32)), .val (.int (-1 : Int32)), .val (.ref ad1), .val (.int (0 : Int32))] [])) _
    refine XS.aloadN X1.here hx rfl (hb hby d6_78) rfl rfl ?_
    refine XS.iloadN X1.here hx rfl (hb hby d6_79) rfl ?_
    show Steps p.tables e below (T1.setTop (mkF m 80 #[.val (.ref a1), .val (.int p2), .val (.int (1 : Int32)), .val (.int (0 : Int32)), .val (.int (-1 : Int32)), .val (.ref ad1), .val (.int (0 : Int32))] [(.int p2), (.ref a1)])) _
    refine st2.trans ?_
    show Steps p.tables e below (T2.setTop (mkF m 83 #[.val (.ref a1), .val (.int p2), .val (.int (1 : Int32)), .val (.int (0 : Int32)), .val (.int (-1 : Int32)), .val (.ref ad1), .val (.int (0 : Int32))] [(.int (fS p2))])) _
    refine XS.iload X2.here hx rfl (hb hby d6_83) rfl ?_
    show Steps p.tables e below (T2.setTop (mkF m 85 #[.val (.ref a1), .val (.int p2), .val (.int (1 : Int32)), .val (.int (0 : Int32)), .val (.int (-1 : Int32)), .val (.ref ad1), .val (.int (0 : Int32))] [(.int (0 : Int32)), (.int (fS p2))])) _
    refine XS.icmpYes X2.here hx rfl (pc0 := 85) (pc' := 90) rfl (hb hby d6_85) rfl (teq hs).1 (by decide) (by decide) ?_
    show Steps p.tables e below (T2.setTop (mkF m 90 #[.val (.ref a1), .val (.int p2), .val (.int (1 : Int32)), .val (.int (0 : Int32)), .val (.int (-1 : Int32)), .val (.ref ad1), .val (.int (0 : Int32))] [])) _
    refine XS.aloadN X2.here hx rfl (hb hby d6_90) rfl rfl ?_
    refine XS.iloadN X2.here hx rfl (hb hby d6_91) rfl ?_
    show Steps p.tables e below (T2.setTop (mkF m 92 #[.val (.ref a1), .val (.int p2), .val (.int (1 : Int32)), .val (.int (0 : Int32)), .val (.int (-1 : Int32)), .val (.ref ad1), .val (.int (0 : Int32))] [(.int p2), (.ref a1)])) _
    refine st3.trans ?_
    show Steps p.tables e below (T3.setTop (mkF m 95 #[.val (.ref a1), .val (.int p2), .val (.int (1 : Int32)), .val (.int (0 : Int32)), .val (.int (-1 : Int32)), .val (.ref ad1), .val (.int (0 : Int32))] [(.int (fH p2))])) _
    refine XS.iload X3.here hx rfl (hb hby d6_95) rfl ?_
    refine XS.iconst X3.here hx rfl (hb hby d6_97) ?_
    show Steps p.tables e below (T3.setTop (mkF m 98 #[.val (.ref a1), .val (.int p2), .val (.int (1 : Int32)), .val (.int (0 : Int32)), .val (.int (-1 : Int32)), .val (.ref ad1), .val (.int (0 : Int32))] [(.int (1 : Int32)), (.int (0 : Int32)), (.int (fH p2))])) _
    refine XS.icmpYes X3.here hx rfl (pc0 := 98) (pc' := 108) rfl (hb hby d6_98) rfl (tlt (by decide : (0 : Int32) < (1 : Int32))).1 (by decide) (by decide) ?_
    show Steps p.tables e below (T3.setTop (mkF m 108 #[.val (.ref a1), .val (.int p2), .val (.int (1 : Int32)), .val (.int (0 : Int32)), .val (.int (-1 : Int32)), .val (.ref ad1), .val (.int (0 : Int32))] [(.int (fH p2))])) _
    refine XS.iconst X3.here hx rfl (hb hby d6_108) ?_
    show Steps p.tables e below (T3.setTop (mkF m 109 #[.val (.ref a1), .val (.int p2), .val (.int (1 : Int32)), .val (.int (0 : Int32)), .val (.int (-1 : Int32)), .val (.ref ad1), .val (.int (0 : Int32))] [(.int (-1 : Int32)), (.int (fH p2))])) _
    refine XS.icmpYes X3.here hx rfl (pc0 := 109) (pc' := 114) rfl (hb hby d6_109) rfl (teq hf).1 (by decide) (by decide) ?_
    show Steps p.tables e below (T3.setTop (mkF m 114 #[.val (.ref a1), .val (.int p2), .val (.int (1 : Int32)), .val (.int (0 : Int32)), .val (.int (-1 : Int32)), .val (.ref ad1), .val (.int (0 : Int32))] [])) _
    refine XS.iload X3.here hx rfl (hb hby d6_114) rfl ?_
    refine XS.iconst X3.here hx rfl (hb hby d6_116) ?_
    show Steps p.tables e below (T3.setTop (mkF m 117 #[.val (.ref a1), .val (.int p2), .val (.int (1 : Int32)), .val (.int (0 : Int32)), .val (.int (-1 : Int32)), .val (.ref ad1), .val (.int (0 : Int32))] [(.int (1 : Int32)), (.int (0 : Int32))])) _
    refine XS.icmpYes X3.here hx rfl (pc0 := 117) (pc' := 147) rfl (hb hby d6_117) rfl (tlt (by decide : (0 : Int32) < (1 : Int32))).1 (by decide) (by decide) ?_
    show Steps p.tables e below (T3.setTop (mkF m 147 #[.val (.ref a1), .val (.int p2), .val (.int (1 : Int32)), .val (.int (0 : Int32)), .val (.int (-1 : Int32)), .val (.ref ad1), .val (.int (0 : Int32))] [])) _
    refine XS.iload X3.here hx rfl (hb hby d6_147) rfl ?_
    refine XS.iconst X3.here hx rfl (hb hby d6_149) ?_
    show Steps p.tables e below (T3.setTop (mkF m 150 #[.val (.ref a1), .val (.int p2), .val (.int (1 : Int32)), .val (.int (0 : Int32)), .val (.int (-1 : Int32)), .val (.ref ad1), .val (.int (0 : Int32))] [(.int (2 : Int32)), (.int (0 : Int32))])) _
    refine XS.icmpYes X3.here hx rfl (pc0 := 150) (pc' := 180) rfl (hb hby d6_150) rfl (tlt (by decide : (0 : Int32) < (2 : Int32))).1 (by decide) (by decide) ?_
    show Steps p.tables e below (T3.setTop (mkF m 180 #[.val (.ref a1), .val (.int p2), .val (.int (1 : Int32)), .val (.int (0 : Int32)), .val (.int (-1 : Int32)), .val (.ref ad1), .val (.int (0 : Int32))] [])) _
    refine XS.iload X3.here hx rfl (hb hby d6_180) rfl ?_
    refine XS.iconst X3.here hx rfl (hb hby d6_182) ?_
    show Steps p.tables e below (T3.setTop (mkF m 183 #[.val (.ref a1), .val (.int p2), .val (.int (1 : Int32)), .val (.int (0 : Int32)), .val (.int (-1 : Int32)), .val (.ref ad1), .val (.int (0 : Int32))] [(.int (3 : Int32)), (.int (0 : Int32))])) _
    refine XS.icmpYes X3.here hx rfl (pc0 := 183) (pc' := 200) rfl (hb hby d6_183) rfl (tlt (by decide : (0 : Int32) < (3 : Int32))).1 (by decide) (by decide) ?_
    show Steps p.tables e below (T3.setTop (mkF m 200 #[.val (.ref a1), .val (.int p2), .val (.int (1 : Int32)), .val (.int (0 : Int32)), .val (.int (-1 : Int32)), .val (.ref ad1), .val (.int (0 : Int32))] [])) _
    refine XS.iconst X3.here hx rfl (hb hby d6_200) ?_
    show Steps p.tables e below (T3.setTop (mkF m 201 #[.val (.ref a1), .val (.int p2), .val (.int (1 : Int32)), .val (.int (0 : Int32)), .val (.int (-1 : Int32)), .val (.ref ad1), .val (.int (0 : Int32))] [(.int (1 : Int32))])) _
    exact retN X3 hx (t := .boolean) Bd.returns (by simp) (hb hby d6_201) hr
  · show Q6_1_0_m1 Z a1 p2 b1 b2 b3 b4 fH fS fN fP h0 n0 _ T3.heap _
    rw [e3']
    exact ⟨rfl, N3, K1⟩
theorem d6_38 : decode method_3_code 38 = .ok (.iconst 1, 1) := by decide +kernel
theorem d6_39 : decode method_3_code 39 = .ok (.iload_n 3, 1) := by decide +kernel
theorem d6_40 : decode method_3_code 40 = .ok (.if_icmp .eq 18, 3) := by decide +kernel
theorem d6_43 : decode method_3_code 43 = .ok (.iconst 1, 1) := by decide +kernel
theorem d6_44 : decode method_3_code 44 = .ok (.iload 4, 2) := by decide +kernel
theorem d6_46 : decode method_3_code 46 = .ok (.if_icmp .eq 12, 3) := by decide +kernel
theorem d6_49 : decode method_3_code 49 = .ok (.aload 5, 2) := by decide +kernel
theorem d6_51 : decode method_3_code 51 = .ok (.iload 6, 2) := by decide +kernel
theorem d6_53 : decode method_3_code 53 = .ok (.iconst 1, 1) := by decide +kernel
theorem d6_54 : decode method_3_code 54 = .ok (.iastore, 1) := by decide +kernel
theorem d6_55 : decode method_3_code 55 = .ok (.iinc 6 1, 3) := by decide +kernel
theorem d6_101 : decode method_3_code 101 = .ok (.aload 5, 2) := by decide +kernel
theorem d6_103 : decode method_3_code 103 = .ok (.iconst 0, 1) := by decide +kernel
theorem d6_104 : decode method_3_code 104 = .ok (.iaload, 1) := by decide +kernel
theorem d6_105 : decode method_3_code 105 = .ok (.goto 4, 3) := by decide +kernel
theorem d6_120 : decode method_3_code 120 = .ok (.aload_n 0, 1) := by decide +kernel
theorem d6_121 : decode method_3_code 121 = .ok (.aload 5, 2) := by decide +kernel
theorem d6_123 : decode method_3_code 123 = .ok (.iconst 0, 1) := by decide +kernel
theorem d6_124 : decode method_3_code 124 = .ok (.iaload, 1) := by decide +kernel
theorem d6_125 : decode method_3_code 125 = .ok (.invokevirtual 32, 3) := by decide +kernel
theorem d6_128 : decode method_3_code 128 = .ok (.iload 6, 2) := by decide +kernel
theorem d6_130 : decode method_3_code 130 = .ok (.iconst 2, 1) := by decide +kernel
theorem d6_131 : decode method_3_code 131 = .ok (.if_icmp .lt 10, 3) := by decide +kernel
theorem d6_141 : decode method_3_code 141 = .ok (.iconst (-1), 1) := by decide +kernel
theorem d6_142 : decode method_3_code 142 = .ok (.if_icmp .eq 5, 3) := by decide +kernel
abbrev own_m4 : MethodName := ⟨"com/example/process_stepper/processstepper/equivalence/IntLists", "next", "(I)I"⟩
theorem ef_6_2_0_m1 (m : MethodId) (a1 : Addr) (p2 : Int32) : entryFrame m #[(.ref a1), (.int p2), (.int (2 : Int32)), (.int (0 : Int32)), (.int (-1 : Int32))] 7 = mkF m 0 #[.val (.ref a1), .val (.int p2), .val (.int (2 : Int32)), .val (.int (0 : Int32)), .val (.int (-1 : Int32)), .unset, .unset] [] := by first | (simp [entryFrame, mkF, argsToLocals, Value.category]; done) | rfl
def Q6_2_0_m1 (Z : State) (a1 : Addr) (p2 : Int32) (b1 b2 b3 b4 : Addr) (fH fS fN fP : Int32 → Int32) (h0 : Heap) (n0 : Nat) (v : Option Value) (h : Heap) (L : List Loc) : Prop := v = some (.int (1 : Int32)) ∧ Fr n0 L ∧ Keep h0 h []
set_option maxRecDepth 65536 in
set_option maxHeartbeats 40000000 in
theorem rm6_2_0_m1 (l : Launch) (Z : State) (a0 : Array Value) (hw : ∀ d ∈ tables_1, d.before a0 Z = true) (ws : List Jvm.Cond) (a1 : Addr) (p2 : Int32) (b1 b2 b3 b4 : Addr) (fH fS fN fP : Int32 → Int32) (h0 : Heap) (n0 : Nat) (Z0 : n0 ≤ h0.size) (V0 : own_L Z n0 h0 a1 b1 b2 b3 b4 fH fS fN fP) (l0 : ¬ p2 < 0) (l1 : p2 < (2 : Int32)) (hs : (fS p2) = (1 : Int32)) (hf : (fH p2) = (1 : Int32)) (hn0 : (fN (1 : Int32)) = (-1 : Int32)) :
    MetFree l (⟨"com/example/process_stepper/processstepper/equivalence/IntListsRemovePinLaw", "matches", "(Lcom/example/process_stepper/processstepper/equivalence/IntLists;IIII)Z"⟩ : MethodName) (head1 (Jvm.Cond.code (⟨"com/example/process_stepper/processstepper/equivalence/IntListsRemovePinLaw", "matches", "(Lcom/example/process_stepper/processstepper/equivalence/IntLists;IIII)Z"⟩ : MethodName) method_3_code 7 (some .boolean) :: ws) ({ frames := 1, cells := 1, slots := 3, locals := 14 } : Room)) (fun a U => a = #[(.ref a1), (.int p2), (.int (2 : Int32)), (.int (0 : Int32)), (.int (-1 : Int32))] ∧ Z.Warmed39 U.vm ∧ U.heap = h0) (fun _ _ _ _ _ => True) (fun _ U o U' => ∃ v L, o = .returned v ∧ Q6_2_0_m1 Z a1 p2 b1 b2 b3 b4 fH fS fN fP h0 n0 v U'.heap L ∧ FrameEnd U o U' L ({ frames := 1, cells := 1, slots := 3, locals := 14 } : Room).cells ({ frames := 1, cells := 1, slots := 3, locals := 14 } : Room).slots) := by
  refine MetFree.of_bodySF (plainFor_of_name pn_6) hisR ?_
  intro p e s m args below meth c s₁ Bd hml0 hP hK
  obtain ⟨rfl, hZ, hh⟩ := hP
  have hx := Bd.exec
  have hby := Bd.bytes
  have hml : c.maxLocals = 7 := hml0
  have hown : s.vm.findClass "com/example/process_stepper/processstepper/equivalence/IntListsRemovePinLaw" = some m.cls := findClass_of_methodNamed Bd.named
  have hnm := (name_of_methodNamed Bd.named Bd.method).1
  have X0 : Stand p l e ({ frames := 1, cells := 1, slots := 3, locals := 14 } : Room) s m #[(.ref a1), (.int p2), (.int (2 : Int32)), (.int (0 : Int32)), (.int (-1 : Int32))] below meth c s₁ [] 0 0 := Stand.of_body Bd
  have e0 : s₁.heap = h0 := by rw [← hh, Bd.state]; rfl
  have N0 := Fr.nil n0
  have pre0 : ∀ t, Steps p.tables e below (s₁.setTop (mkF m 0 #[.val (.ref a1), .val (.int p2), .val (.int (2 : Int32)), .val (.int (0 : Int32)), .val (.int (-1 : Int32)), .unset, .unset] [])) t → Steps p.tables e below (s₁.setTop (entryFrame m #[(.ref a1), (.int p2), (.int (2 : Int32)), (.int (0 : Int32)), (.int (-1 : Int32))] 7)) t := fun t k => castTop (ef_6_2_0_m1 m a1 p2) k
  obtain ⟨T1, h1, k1, X1, e1, E1, A1, st1⟩ := newP X0 hx hZ (own_w hw 10 rfl) e0 (g := (mkF m 1 #[.val (.ref a1), .val (.int p2), .val (.int (2 : Int32)), .val (.int (0 : Int32)), .val (.int (-1 : Int32)), .unset, .unset] [(.int (3 : Int32))])) rfl (hb hby d6_1) rfl (by decide) (cap := 3) (by decide) (by decide) (by decide) (by decide)
  obtain ⟨ad1, g1⟩ : ∃ z, z = h0.size := ⟨_, rfl⟩
  rw [← g1] at A1 st1
  have lt_a1_ad1 : a1 < ad1 := Nat.lt_of_lt_of_eq (own_L_lta V0) g1.symm
  have lt_b4_ad1 : b4 < ad1 := Nat.lt_of_lt_of_eq (own_L_lt V0) g1.symm
  have gn_ad1 : n0 ≤ ad1 := Nat.le_trans Z0 (Nat.le_of_eq g1.symm)
  have sz_ad1 : h0.size ≤ ad1 := Nat.le_trans (Keep.refl h0 []).1 (Nat.le_of_eq g1.symm)
  have V_a1_1 : own_L Z n0 h1 a1 b1 b2 b3 b4 fH fS fN fP := own_L_ext V0 E1
  have A_ad1_1 : own_arr Z h1 ad1 (3 : Int32) own_zero := own_arr_new A1 (by decide)
  have K1 : Keep h0 h1 [] := (Keep.refl h0 []).ext E1
  have Zs1 : n0 ≤ h1.size := Nat.le_trans Z0 E1.1
  obtain ⟨T2, h2, X2, e2, W2, st2⟩ := own_st X1 hx hZ e1 A_ad1_1 (by decide) (by decide) (g := (mkF m 54 #[.val (.ref a1), .val (.int p2), .val (.int (2 : Int32)), .val (.int (0 : Int32)), .val (.int (-1 : Int32)), .val (.ref ad1), .val (.int (0 : Int32))] [(.int (1 : Int32)), (.int (0 : Int32)), (.ref ad1)])) rfl rfl (hb hby d6_54)
  have V_a1_2 : own_L Z n0 h2 a1 b1 b2 b3 b4 fH fS fN fP := own_L_out V_a1_1 W2 lt_b4_ad1
  have A_ad1_2 : own_arr Z h2 ad1 (3 : Int32) (own_upd own_zero (0 : Int32) (1 : Int32)) := own_arr_same A_ad1_1 W2 (by decide) (by decide)
  have K2 : Keep h0 h2 [] := K1.wr W2 (Or.inr sz_ad1)
  have N2 := Fr.snoc X2 N0 gn_ad1
  have Zs2 : n0 ≤ h2.size := by rw [W2.size]; exact Zs1
  obtain ⟨cq3, kq3, q3a, q3b, q3c⟩ := isOf hZ e2 (V_a1_2.1)
  obtain ⟨_, _, ⟨T3, L3, k3, n3⟩, -, X3, ⟨Lc3, hQ3, l3, y3, z3⟩, st3⟩ := X2.virtualBack hx (y := own_m2) (z := own_m2) hown (mvT hZ (own_w hw 37 rfl)) (mvT hZ (own_w hw 38 rfl)) (notFace_of_selects (args := #[]) (mvT hZ (own_w hw 40 rfl))) (mvT hZ (own_w hw 40 rfl)) (mvT hZ (own_w hw 39 rfl)) (by decide) (backOf (W := 0) (rm7 l Z a0 hw [] a1 p2 b1 b2 b3 b4 fH fS fN fP h2 n0 Zs2 V_a1_2 l0 l1) hZ (own_w hw 41 rfl) (own_w hw 3 rfl) (by decide) (by decide)) q3a q3c (g := (mkF m 80 #[.val (.ref a1), .val (.int p2), .val (.int (2 : Int32)), .val (.int (0 : Int32)), .val (.int (-1 : Int32)), .val (.ref ad1), .val (.int (1 : Int32))] [(.int p2), (.ref a1)])) rfl (by rw [hml]; rfl) (Steps.refl _) (argsL := [(.int p2)]) (rest := []) (lenOf pd__I_I rfl) rfl (by show 2 * 0 + _ ≤ _; exact Nat.le_of_eq rfl) (hb hby d6_80) (fun _ _ => ⟨rfl, e2, (by decide : 1 + 0 ≤ _), (by decide : 3 + 0 ≤ _)⟩)
  dsimp only [Pt.U, Pt.locs, Pt.cells, Pt.slots] at X3 l3 y3 z3 st3 hQ3
  subst l3 y3 z3
  obtain ⟨rfl, N3q, q3⟩ := hQ3
  have N3 := Fr.app N2 N3q
  have e3' : T3.heap = h2 := q3
  obtain ⟨cq4, kq4, q4a, q4b, q4c⟩ := isOf hZ e3' (V_a1_2.1)
  obtain ⟨_, _, ⟨T4, L4, k4, n4⟩, -, X4, ⟨Lc4, hQ4, l4, y4, z4⟩, st4⟩ := X3.virtualBack hx (y := own_m3) (z := own_m3) hown (mvT hZ (own_w hw 42 rfl)) (mvT hZ (own_w hw 43 rfl)) (notFace_of_selects (args := #[]) (mvT hZ (own_w hw 45 rfl))) (mvT hZ (own_w hw 45 rfl)) (mvT hZ (own_w hw 44 rfl)) (by decide) (backOf (W := 0) (rm8 l Z a0 hw [] a1 p2 b1 b2 b3 b4 fH fS fN fP h2 n0 Zs2 V_a1_2 l0 l1) hZ (own_w hw 46 rfl) (own_w hw 3 rfl) (by decide) (by decide)) q4a q4c (g := (mkF m 92 #[.val (.ref a1), .val (.int p2), .val (.int (2 : Int32)), .val (.int (0 : Int32)), .val (.int (-1 : Int32)), .val (.ref ad1), .val (.int (1 : Int32))] [(.int p2), (.ref a1)])) rfl (by rw [hml]; rfl) (Steps.refl _) (argsL := [(.int p2)]) (rest := []) (lenOf pd__I_I rfl) rfl (by show 2 * 0 + _ ≤ _; exact Nat.le_of_eq rfl) (hb hby d6_92) (fun _ _ => ⟨rfl, e3', (by decide : 1 + 0 ≤ _), (by decide : 3 + 0 ≤ _)⟩)
  dsimp only [Pt.U, Pt.locs, Pt.cells, Pt.slots] at X4 l4 y4 z4 st4 hQ4
  subst l4 y4 z4
  obtain ⟨rfl, N4q, q4⟩ := hQ4
  have N4 := Fr.app N3 N4q
  have e4' : T4.heap = h2 := q4
  obtain ⟨cq5, kq5, q5a, q5b, q5c⟩ := isOf hZ e4' (V_a1_2.1)
  obtain ⟨_, _, ⟨T5, L5, k5, n5⟩, -, X5, ⟨Lc5, hQ5, l5, y5, z5⟩, st5⟩ := X4.virtualBack hx (y := own_m4) (z := own_m4) hown (mvT hZ (own_w hw 47 rfl)) (mvT hZ (own_w hw 48 rfl)) (notFace_of_selects (args := #[]) (mvT hZ (own_w hw 50 rfl))) (mvT hZ (own_w hw 50 rfl)) (mvT hZ (own_w hw 49 rfl)) (by decide) (backOf (W := 0) (rm9 l Z a0 hw [] a1 (1 : Int32) b1 b2 b3 b4 fH fS fN fP h2 n0 Zs2 V_a1_2 (by decide) (by decide)) hZ (own_w hw 51 rfl) (own_w hw 3 rfl) (by decide) (by decide)) q5a q5c (g := (mkF m 125 #[.val (.ref a1), .val (.int p2), .val (.int (2 : Int32)), .val (.int (0 : Int32)), .val (.int (-1 : Int32)), .val (.ref ad1), .val (.int (1 : Int32))] [(.int (1 : Int32)), (.ref a1)])) rfl (by rw [hml]; rfl) (Steps.refl _) (argsL := [(.int (1 : Int32))]) (rest := []) (lenOf pd__I_I rfl) rfl (by show 2 * 0 + _ ≤ _; exact Nat.le_of_eq rfl) (hb hby d6_125) (fun _ _ => ⟨rfl, e4', (by decide : 1 + 0 ≤ _), (by decide : 3 + 0 ≤ _)⟩)
  dsimp only [Pt.U, Pt.locs, Pt.cells, Pt.slots] at X5 l5 y5 z5 st5 hQ5
  subst l5 y5 z5
  obtain ⟨rfl, N5q, q5⟩ := hQ5
  have N5 := Fr.app N4 N5q
  have e5' : T5.heap = h2 := q5
  obtain ⟨fs, hr, hrun, hended, hW, hsame⟩ := X5.leave (v := some (.int (1 : Int32))) (fun h => by rw [Bd.returns] at h; cases h)
  refine ⟨_, _, pre0 _ ?_, hrun, hended, _, _, rfl, ?_, ⟨_, rfl⟩, hW, hsame.mono (by decide) (by decide)⟩
  · show Steps p.tables e below (s₁.setTop (mkF m 0 #[.val (.ref a1), .val (.int p2), .val (.int (2 : Int32)), .val (.int (0 : Int32)), .val (.int (-1 : Int32)), .unset, .unset] [])) _
    refine XS.iconst X0.here hx rfl (hb hby d6_0) ?_
    show Steps p.tables e below (s₁.setTop (mkF m 1 #[.val (.ref a1), .val (.int p2), .val (.int (2 : Int32)), .val (.int (0 : Int32)), .val (.int (-1 : Int32)), .unset, .unset] [(.int (3 : Int32))])) _
    refine st1 _ ?_
    show Steps p.tables e below (T1.setTop (mkF m 3 #[.val (.ref a1), .val (.int p2), .val (.int (2 : Int32)), .val (.int (0 : Int32)), .val (.int (-1 : Int32)), .unset, .unset] [(.ref ad1)])) _
    refine XS.astore X1.here hx rfl (hb hby d6_3) rfl rfl (l' := #[.val (.ref a1), .val (.int p2), .val (.int (2 : Int32)), .val (.int (0 : Int32)), .val (.int (-1 : Int32)), .val (.ref ad1), .unset]) rfl ?_
    refine XS.iconst X1.here hx rfl (hb hby d6_5) ?_
    refine XS.istore X1.here hx rfl (hb hby d6_6) rfl (l' := #[.val (.ref a1), .val (.int p2), .val (.int (2 : Int32)), .val (.int (0 : Int32)), .val (.int (-1 : Int32)), .val (.ref ad1), .val (.int (0 : Int32))]) rfl ?_
    refine XS.iconst X1.here hx rfl (hb hby d6_8) ?_
    refine XS.iloadN X1.here hx rfl (hb hby d6_9) rfl ?_
    show Steps p.tables e below (T1.setTop (mkF m 10 #[.val (.ref a1), .val (.int p2), .val (.int (2 : Int32)), .val (.int (0 : Int32)), .val (.int (-1 : Int32)), .val (.ref ad1), .val (.int (0 : Int32))] [(.int (2 : Int32)), (.int (2 : Int32))])) _
    refine XS.icmpYes X1.here hx rfl (pc0 := 10) (pc' := 33) rfl (hb hby d6_10) rfl (flt (by decide : ¬ ((2 : Int32) < (2 : Int32)))).2.1 (by decide) (by decide) ?_
    show Steps p.tables e below (T1.setTop (mkF m 33 #[.val (.ref a1), .val (.int p2), .val (.int (2 : Int32)), .val (.int (0 : Int32)), .val (.int (-1 : Int32)), .val (.ref ad1), .val (.int (0 : Int32))] [])) _
    refine XS.iconst X1.here hx rfl (hb hby d6_33) ?_
    refine XS.iloadN X1.here hx rfl (hb hby d6_34) rfl ?_
    show Steps p.tables e below (T1.setTop (mkF m 35 #[.val (.ref a1), .val (.int p2), .val (.int (2 : Int32)), .val (.int (0 : Int32)), .val (.int (-1 : Int32)), .val (.ref ad1), .val (.int (0 : Int32))] [(.int (2 : Int32)), (.int (1 : Int32))])) _
    refine XS.icmpNo X1.here hx rfl (hb hby d6_35) rfl (tlt (by decide : (1 : Int32) < (2 : Int32))).2.1 ?_
    show Steps p.tables e below (T1.setTop (mkF m 38 #[.val (.ref a1), .val (.int p2), .val (.int (2 : Int32)), .val (.int (0 : Int32)), .val (.int (-1 : Int32)), .val (.ref ad1), .val (.int (0 : Int32))] [])) _
    refine XS.iconst X1.here hx rfl (hb hby d6_38) ?_
    refine XS.iloadN X1.here hx rfl (hb hby d6_39) rfl ?_
    show Steps p.tables e below (T1.setTop (mkF m 40 #[.val (.ref a1), .val (.int p2), .val (.int (2 : Int32)), .val (.int (0 : Int32)), .val (.int (-1 : Int32)), .val (.ref ad1), .val (.int (0 : Int32))] [(.int (0 : Int32)), (.int (1 : Int32))])) _
    refine XS.icmpNo X1.here hx rfl (hb hby d6_40) rfl (feq (by decide : ¬ ((1 : Int32) = (0 : Int32)))).1 ?_
    show Steps p.tables e below (T1.setTop (mkF m 43 #[.val (.ref a1), .val (.int p2), .val (.int (2 : Int32)), .val (.int (0 : Int32)), .val (.int (-1 : Int32)), .val (.ref ad1), .val (.int (0 : Int32))] [])) _
    refine XS.iconst X1.here hx rfl (hb hby d6_43) ?_
    refine XS.iload X1.here hx rfl (hb hby d6_44) rfl ?_
    show Steps p.tables e below (T1.setTop (mkF m 46 #[.val (.ref a1), .val (.int p2), .val (.int (2 : Int32)), .val (.int (0 : Int32)), .val (.int (-1 : Int32)), .val (.ref ad1), .val (.int (0 : Int32))] [(.int (-1 : Int32)), (.int (1 : Int32))])) _
    refine XS.icmpNo X1.here hx rfl (hb hby d6_46) rfl (feq (by decide : ¬ ((1 : Int32) = (-1 : Int32)))).1 ?_
    show Steps p.tables e below (T1.setTop (mkF m 49 #[.val (.ref a1), .val (.int p2), .val (.int (2 : Int32)), .val (.int (0 : Int32)), .val (.int (-1 : Int32)), .val (.ref ad1), .val (.int (0 : Int32))] [])) _
    refine XS.aload X1.here hx rfl (hb hby d6_49) rfl rfl ?_
    refine XS.iload X1.here hx rfl (hb hby d6_51) rfl ?_
    refine XS.iconst X1.here hx rfl (hb hby d6_53) ?_
    show Steps p.tables e below (T1.setTop (mkF m 54 #[.val (.ref a1), .val (.int p2), .val (.int (2 : Int32)), .val (.int (0 : Int32)), .val (.int (-1 : Int32)), .val (.ref ad1), .val (.int (0 : Int32))] [(.int (1 : Int32)), (.int (0 : Int32)), (.ref ad1)])) _
    refine st2 _ ?_
    show Steps p.tables e below (T2.setTop (mkF m 55 #[.val (.ref a1), .val (.int p2), .val (.int (2 : Int32)), .val (.int (0 : Int32)), .val (.int (-1 : Int32)), .val (.ref ad1), .val (.int (0 : Int32))] [])) _
    refine XS.iinc X2.here hx rfl (hb hby d6_55) rfl (l' := #[.val (.ref a1), .val (.int p2), .val (.int (2 : Int32)), .val (.int (0 : Int32)), .val (.int (-1 : Int32)), .val (.ref ad1), .val (.int (1 : Int32))]) rfl ?_
    show Steps p.tables e below (T2.setTop (mkF m 58 #[.val (.ref a1), .val (.int p2), .val (.int (2 : Int32)), .val (.int (0 : Int32)), .val (.int (-1 : Int32)), .val (.ref ad1), .val (.int (1 : Int32))] [])) _
    refine XS.iconst X2.here hx rfl (hb hby d6_58) ?_
    refine XS.iloadN X2.here hx rfl (hb hby d6_59) rfl ?_
    show Steps p.tables e below (T2.setTop (mkF m 60 #[.val (.ref a1), .val (.int p2), .val (.int (2 : Int32)), .val (.int (0 : Int32)), .val (.int (-1 : Int32)), .val (.ref ad1), .val (.int (1 : Int32))] [(.int (0 : Int32)), (.int (0 : Int32))])) _
    refine XS.icmpYes X2.here hx rfl (pc0 := 60) (pc' := 78) rfl (hb hby d6_60) rfl (teq (by decide : (0 : Int32) = (0 : Int32))).1 (by decide) (by decide) ?_
    show Steps p.tables e below (T2.setTop (mkF m 78 #[.val (.ref a1), .val (.int p2), .val (.int (2 : Int32)), .val (.int (0 : Int32)), .val (.int (-1 : Int32)), .val (.ref ad1), .val (.int (1 : Int32))] [])) _
    refine XS.aloadN X2.here hx rfl (hb hby d6_78) rfl rfl ?_
    refine XS.iloadN X2.here hx rfl (hb hby d6_79) rfl ?_
    show Steps p.tables e below (T2.setTop (mkF m 80 #[.val (.ref a1), .val (.int p2), .val (.int (2 : Int32)), .val (.int (0 : Int32)), .val (.int (-1 : Int32)), .val (.ref ad1), .val (.int (1 : Int32))] [(.int p2), (.ref a1)])) _
    refine st3.trans ?_
    show Steps p.tables e below (T3.setTop (mkF m 83 #[.val (.ref a1), .val (.int p2), .val (.int (2 : Int32)), .val (.int (0 : Int32)), .val (.int (-1 : Int32)), .val (.ref ad1), .val (.int (1 : Int32))] [(.int (fS p2))])) _
    refine XS.iload X3.here hx rfl (hb hby d6_83) rfl ?_
    show Steps p.tables e below (T3.setTop (mkF m 85 #[.val (.ref a1), .val (.int p2), .val (.int (2 : Int32)), .val (.int (0 : Int32)), .val (.int (-1 : Int32)), .val (.ref ad1), .val (.int (1 : Int32))] [(.int (1 : Int32)), (.int (fS p2))])) _
    refine XS.icmpYes X3.here hx rfl (pc0 := 85) (pc' := 90) rfl (hb hby d6_85) rfl (teq hs).1 (by decide) (by decide) ?_
    show Steps p.tables e below (T3.setTop (mkF m 90 #[.val (.ref a1), .val (.int p2), .val (.int (2 : Int32)), .val (.int (0 : Int32)), .val (.int (-1 : Int32)), .val (.ref ad1), .val (.int (1 : Int32))] [])) _
    refine XS.aloadN X3.here hx rfl (hb hby d6_90) rfl rfl ?_
    refine XS.iloadN X3.here hx rfl (hb hby d6_91) rfl ?_
    show Steps p.tables e below (T3.setTop (mkF m 92 #[.val (.ref a1), .val (.int p2), .val (.int (2 : Int32)), .val (.int (0 : Int32)), .val (.int (-1 : Int32)), .val (.ref ad1), .val (.int (1 : Int32))] [(.int p2), (.ref a1)])) _
    refine st4.trans ?_
    show Steps p.tables e below (T4.setTop (mkF m 95 #[.val (.ref a1), .val (.int p2), .val (.int (2 : Int32)), .val (.int (0 : Int32)), .val (.int (-1 : Int32)), .val (.ref ad1), .val (.int (1 : Int32))] [(.int (fH p2))])) _
    refine XS.iload X4.here hx rfl (hb hby d6_95) rfl ?_
    refine XS.iconst X4.here hx rfl (hb hby d6_97) ?_
    show Steps p.tables e below (T4.setTop (mkF m 98 #[.val (.ref a1), .val (.int p2), .val (.int (2 : Int32)), .val (.int (0 : Int32)), .val (.int (-1 : Int32)), .val (.ref ad1), .val (.int (1 : Int32))] [(.int (1 : Int32)), (.int (1 : Int32)), (.int (fH p2))])) _
    refine XS.icmpNo X4.here hx rfl (hb hby d6_98) rfl (flt (by decide : ¬ ((1 : Int32) < (1 : Int32)))).1 ?_
    show Steps p.tables e below (T4.setTop (mkF m 101 #[.val (.ref a1), .val (.int p2), .val (.int (2 : Int32)), .val (.int (0 : Int32)), .val (.int (-1 : Int32)), .val (.ref ad1), .val (.int (1 : Int32))] [(.int (fH p2))])) _
    refine XS.aload X4.here hx rfl (hb hby d6_101) rfl rfl ?_
    refine XS.iconst X4.here hx rfl (hb hby d6_103) ?_
    show Steps p.tables e below (T4.setTop (mkF m 104 #[.val (.ref a1), .val (.int p2), .val (.int (2 : Int32)), .val (.int (0 : Int32)), .val (.int (-1 : Int32)), .val (.ref ad1), .val (.int (1 : Int32))] [(.int (0 : Int32)), (.ref ad1), (.int (fH p2))])) _
    refine own_ld X4 hx hZ e4' A_ad1_2 (by decide) (by decide) (g := (mkF m 104 #[.val (.ref a1), .val (.int p2), .val (.int (2 : Int32)), .val (.int (0 : Int32)), .val (.int (-1 : Int32)), .val (.ref ad1), .val (.int (1 : Int32))] [(.int (0 : Int32)), (.ref ad1), (.int (fH p2))])) rfl rfl (hb hby d6_104) _ ?_
    show Steps p.tables e below (T4.setTop (mkF m 105 #[.val (.ref a1), .val (.int p2), .val (.int (2 : Int32)), .val (.int (0 : Int32)), .val (.int (-1 : Int32)), .val (.ref ad1), .val (.int (1 : Int32))] [(.int (1 : Int32)), (.int (fH p2))])) _
    refine XS.goto X4.here hx rfl (pc0 := 105) (pc' := 109) rfl (hb hby d6_105) (by decide) (by decide) ?_
    show Steps p.tables e below (T4.setTop (mkF m 109 #[.val (.ref a1), .val (.int p2), .val (.int (2 : Int32)), .val (.int (0 : Int32)), .val (.int (-1 : Int32)), .val (.ref ad1), .val (.int (1 : Int32))] [(.int (1 : Int32)), (.int (fH p2))])) _
    refine XS.icmpYes X4.here hx rfl (pc0 := 109) (pc' := 114) rfl (hb hby d6_109) rfl (teq hf).1 (by decide) (by decide) ?_
    show Steps p.tables e below (T4.setTop (mkF m 114 #[.val (.ref a1), .val (.int p2), .val (.int (2 : Int32)), .val (.int (0 : Int32)), .val (.int (-1 : Int32)), .val (.ref ad1), .val (.int (1 : Int32))] [])) _
    refine XS.iload X4.here hx rfl (hb hby d6_114) rfl ?_
    refine XS.iconst X4.here hx rfl (hb hby d6_116) ?_
    show Steps p.tables e below (T4.setTop (mkF m 117 #[.val (.ref a1), .val (.int p2), .val (.int (2 : Int32)), .val (.int (0 : Int32)), .val (.int (-1 : Int32)), .val (.ref ad1), .val (.int (1 : Int32))] [(.int (1 : Int32)), (.int (1 : Int32))])) _
    refine XS.icmpNo X4.here hx rfl (hb hby d6_117) rfl (flt (by decide : ¬ ((1 : Int32) < (1 : Int32)))).1 ?_
    show Steps p.tables e below (T4.setTop (mkF m 120 #[.val (.ref a1), .val (.int p2), .val (.int (2 : Int32)), .val (.int (0 : Int32)), .val (.int (-1 : Int32)), .val (.ref ad1), .val (.int (1 : Int32))] [])) _
    refine XS.aloadN X4.here hx rfl (hb hby d6_120) rfl rfl ?_
    refine XS.aload X4.here hx rfl (hb hby d6_121) rfl rfl ?_
    refine XS.iconst X4.here hx rfl (hb hby d6_123) ?_
    show Steps p.tables e below (T4.setTop (mkF m 124 #[.val (.ref a1), .val (.int p2), .val (.int (2 : Int32)), .val (.int (0 : Int32)), .val (.int (-1 : Int32)), .val (.ref ad1), .val (.int (1 : Int32))] [(.int (0 : Int32)), (.ref ad1), (.ref a1)])) _
    refine own_ld X4 hx hZ e4' A_ad1_2 (by decide) (by decide) (g := (mkF m 124 #[.val (.ref a1), .val (.int p2), .val (.int (2 : Int32)), .val (.int (0 : Int32)), .val (.int (-1 : Int32)), .val (.ref ad1), .val (.int (1 : Int32))] [(.int (0 : Int32)), (.ref ad1), (.ref a1)])) rfl rfl (hb hby d6_124) _ ?_
    show Steps p.tables e below (T4.setTop (mkF m 125 #[.val (.ref a1), .val (.int p2), .val (.int (2 : Int32)), .val (.int (0 : Int32)), .val (.int (-1 : Int32)), .val (.ref ad1), .val (.int (1 : Int32))] [(.int (1 : Int32)), (.ref a1)])) _
    refine st5.trans ?_
    show Steps p.tables e below (T5.setTop (mkF m 128 #[.val (.ref a1), .val (.int p2), .val (.int (2 : Int32)), .val (.int (0 : Int32)), .val (.int (-1 : Int32)), .val (.ref ad1), .val (.int (1 : Int32))] [(.int (fN (1 : Int32)))])) _
    refine XS.iload X5.here hx rfl (hb hby d6_128) rfl ?_
    refine XS.iconst X5.here hx rfl (hb hby d6_130) ?_
    show Steps p.tables e below (T5.setTop (mkF m 131 #[.val (.ref a1), .val (.int p2), .val (.int (2 : Int32)), .val (.int (0 : Int32)), .val (.int (-1 : Int32)), .val (.ref ad1), .val (.int (1 : Int32))] [(.int (2 : Int32)), (.int (1 : Int32)), (.int (fN (1 : Int32)))])) _
    refine XS.icmpYes X5.here hx rfl (pc0 := 131) (pc' := 141) rfl (hb hby d6_131) rfl (tlt (by decide : (1 : Int32) < (2 : Int32))).1 (by decide) (by decide) ?_
    show Steps p.tables e below (T5.setTop (mkF m 141 #[.val (.ref a1), .val (.int p2), .val (.int (2 : Int32)), .val (.int (0 : Int32)), .val (.int (-1 : Int32)), .val (.ref ad1), .val (.int (1 : Int32))] [(.int (fN (1 : Int32)))])) _
    refine XS.iconst X5.here hx rfl (hb hby d6_141) ?_
    show Steps p.tables e below (T5.setTop (mkF m 142 #[.val (.ref a1), .val (.int p2), .val (.int (2 : Int32)), .val (.int (0 : Int32)), .val (.int (-1 : Int32)), .val (.ref ad1), .val (.int (1 : Int32))] [(.int (-1 : Int32)), (.int (fN (1 : Int32)))])) _
    refine XS.icmpYes X5.here hx rfl (pc0 := 142) (pc' := 147) rfl (hb hby d6_142) rfl (teq hn0).1 (by decide) (by decide) ?_
    show Steps p.tables e below (T5.setTop (mkF m 147 #[.val (.ref a1), .val (.int p2), .val (.int (2 : Int32)), .val (.int (0 : Int32)), .val (.int (-1 : Int32)), .val (.ref ad1), .val (.int (1 : Int32))] [])) _
    refine XS.iload X5.here hx rfl (hb hby d6_147) rfl ?_
    refine XS.iconst X5.here hx rfl (hb hby d6_149) ?_
    show Steps p.tables e below (T5.setTop (mkF m 150 #[.val (.ref a1), .val (.int p2), .val (.int (2 : Int32)), .val (.int (0 : Int32)), .val (.int (-1 : Int32)), .val (.ref ad1), .val (.int (1 : Int32))] [(.int (2 : Int32)), (.int (1 : Int32))])) _
    refine XS.icmpYes X5.here hx rfl (pc0 := 150) (pc' := 180) rfl (hb hby d6_150) rfl (tlt (by decide : (1 : Int32) < (2 : Int32))).1 (by decide) (by decide) ?_
    show Steps p.tables e below (T5.setTop (mkF m 180 #[.val (.ref a1), .val (.int p2), .val (.int (2 : Int32)), .val (.int (0 : Int32)), .val (.int (-1 : Int32)), .val (.ref ad1), .val (.int (1 : Int32))] [])) _
    refine XS.iload X5.here hx rfl (hb hby d6_180) rfl ?_
    refine XS.iconst X5.here hx rfl (hb hby d6_182) ?_
    show Steps p.tables e below (T5.setTop (mkF m 183 #[.val (.ref a1), .val (.int p2), .val (.int (2 : Int32)), .val (.int (0 : Int32)), .val (.int (-1 : Int32)), .val (.ref ad1), .val (.int (1 : Int32))] [(.int (3 : Int32)), (.int (1 : Int32))])) _
    refine XS.icmpYes X5.here hx rfl (pc0 := 183) (pc' := 200) rfl (hb hby d6_183) rfl (tlt (by decide : (1 : Int32) < (3 : Int32))).1 (by decide) (by decide) ?_
    show Steps p.tables e below (T5.setTop (mkF m 200 #[.val (.ref a1), .val (.int p2), .val (.int (2 : Int32)), .val (.int (0 : Int32)), .val (.int (-1 : Int32)), .val (.ref ad1), .val (.int (1 : Int32))] [])) _
    refine XS.iconst X5.here hx rfl (hb hby d6_200) ?_
    show Steps p.tables e below (T5.setTop (mkF m 201 #[.val (.ref a1), .val (.int p2), .val (.int (2 : Int32)), .val (.int (0 : Int32)), .val (.int (-1 : Int32)), .val (.ref ad1), .val (.int (1 : Int32))] [(.int (1 : Int32))])) _
    exact retN X5 hx (t := .boolean) Bd.returns (by simp) (hb hby d6_201) hr
  · show Q6_2_0_m1 Z a1 p2 b1 b2 b3 b4 fH fS fN fP h0 n0 _ T5.heap _
    rw [e5']
    exact ⟨rfl, N5, K2⟩
theorem d6_63 : decode method_3_code 63 = .ok (.iconst 0, 1) := by decide +kernel
theorem d6_64 : decode method_3_code 64 = .ok (.iload 4, 2) := by decide +kernel
theorem d6_66 : decode method_3_code 66 = .ok (.if_icmp .eq 12, 3) := by decide +kernel
theorem d6_69 : decode method_3_code 69 = .ok (.aload 5, 2) := by decide +kernel
theorem d6_71 : decode method_3_code 71 = .ok (.iload 6, 2) := by decide +kernel
theorem d6_73 : decode method_3_code 73 = .ok (.iconst 0, 1) := by decide +kernel
theorem d6_74 : decode method_3_code 74 = .ok (.iastore, 1) := by decide +kernel
theorem d6_75 : decode method_3_code 75 = .ok (.iinc 6 1, 3) := by decide +kernel
theorem ef_6_2_1_m1 (m : MethodId) (a1 : Addr) (p2 : Int32) : entryFrame m #[(.ref a1), (.int p2), (.int (2 : Int32)), (.int (1 : Int32)), (.int (-1 : Int32))] 7 = mkF m 0 #[.val (.ref a1), .val (.int p2), .val (.int (2 : Int32)), .val (.int (1 : Int32)), .val (.int (-1 : Int32)), .unset, .unset] [] := by first | (simp [entryFrame, mkF, argsToLocals, Value.category]; done) | rfl
def Q6_2_1_m1 (Z : State) (a1 : Addr) (p2 : Int32) (b1 b2 b3 b4 : Addr) (fH fS fN fP : Int32 → Int32) (h0 : Heap) (n0 : Nat) (v : Option Value) (h : Heap) (L : List Loc) : Prop := v = some (.int (1 : Int32)) ∧ Fr n0 L ∧ Keep h0 h []
set_option maxRecDepth 65536 in
set_option maxHeartbeats 40000000 in
theorem rm6_2_1_m1 (l : Launch) (Z : State) (a0 : Array Value) (hw : ∀ d ∈ tables_1, d.before a0 Z = true) (ws : List Jvm.Cond) (a1 : Addr) (p2 : Int32) (b1 b2 b3 b4 : Addr) (fH fS fN fP : Int32 → Int32) (h0 : Heap) (n0 : Nat) (Z0 : n0 ≤ h0.size) (V0 : own_L Z n0 h0 a1 b1 b2 b3 b4 fH fS fN fP) (l0 : ¬ p2 < 0) (l1 : p2 < (2 : Int32)) (hs : (fS p2) = (1 : Int32)) (hf : (fH p2) = (0 : Int32)) (hn0 : (fN (0 : Int32)) = (-1 : Int32)) :
    MetFree l (⟨"com/example/process_stepper/processstepper/equivalence/IntListsRemovePinLaw", "matches", "(Lcom/example/process_stepper/processstepper/equivalence/IntLists;IIII)Z"⟩ : MethodName) (head1 (Jvm.Cond.code (⟨"com/example/process_stepper/processstepper/equivalence/IntListsRemovePinLaw", "matches", "(Lcom/example/process_stepper/processstepper/equivalence/IntLists;IIII)Z"⟩ : MethodName) method_3_code 7 (some .boolean) :: ws) ({ frames := 1, cells := 1, slots := 3, locals := 14 } : Room)) (fun a U => a = #[(.ref a1), (.int p2), (.int (2 : Int32)), (.int (1 : Int32)), (.int (-1 : Int32))] ∧ Z.Warmed39 U.vm ∧ U.heap = h0) (fun _ _ _ _ _ => True) (fun _ U o U' => ∃ v L, o = .returned v ∧ Q6_2_1_m1 Z a1 p2 b1 b2 b3 b4 fH fS fN fP h0 n0 v U'.heap L ∧ FrameEnd U o U' L ({ frames := 1, cells := 1, slots := 3, locals := 14 } : Room).cells ({ frames := 1, cells := 1, slots := 3, locals := 14 } : Room).slots) := by
  refine MetFree.of_bodySF (plainFor_of_name pn_6) hisR ?_
  intro p e s m args below meth c s₁ Bd hml0 hP hK
  obtain ⟨rfl, hZ, hh⟩ := hP
  have hx := Bd.exec
  have hby := Bd.bytes
  have hml : c.maxLocals = 7 := hml0
  have hown : s.vm.findClass "com/example/process_stepper/processstepper/equivalence/IntListsRemovePinLaw" = some m.cls := findClass_of_methodNamed Bd.named
  have hnm := (name_of_methodNamed Bd.named Bd.method).1
  have X0 : Stand p l e ({ frames := 1, cells := 1, slots := 3, locals := 14 } : Room) s m #[(.ref a1), (.int p2), (.int (2 : Int32)), (.int (1 : Int32)), (.int (-1 : Int32))] below meth c s₁ [] 0 0 := Stand.of_body Bd
  have e0 : s₁.heap = h0 := by rw [← hh, Bd.state]; rfl
  have N0 := Fr.nil n0
  have pre0 : ∀ t, Steps p.tables e below (s₁.setTop (mkF m 0 #[.val (.ref a1), .val (.int p2), .val (.int (2 : Int32)), .val (.int (1 : Int32)), .val (.int (-1 : Int32)), .unset, .unset] [])) t → Steps p.tables e below (s₁.setTop (entryFrame m #[(.ref a1), (.int p2), (.int (2 : Int32)), (.int (1 : Int32)), (.int (-1 : Int32))] 7)) t := fun t k => castTop (ef_6_2_1_m1 m a1 p2) k
  obtain ⟨T1, h1, k1, X1, e1, E1, A1, st1⟩ := newP X0 hx hZ (own_w hw 10 rfl) e0 (g := (mkF m 1 #[.val (.ref a1), .val (.int p2), .val (.int (2 : Int32)), .val (.int (1 : Int32)), .val (.int (-1 : Int32)), .unset, .unset] [(.int (3 : Int32))])) rfl (hb hby d6_1) rfl (by decide) (cap := 3) (by decide) (by decide) (by decide) (by decide)
  obtain ⟨ad1, g1⟩ : ∃ z, z = h0.size := ⟨_, rfl⟩
  rw [← g1] at A1 st1
  have lt_a1_ad1 : a1 < ad1 := Nat.lt_of_lt_of_eq (own_L_lta V0) g1.symm
  have lt_b4_ad1 : b4 < ad1 := Nat.lt_of_lt_of_eq (own_L_lt V0) g1.symm
  have gn_ad1 : n0 ≤ ad1 := Nat.le_trans Z0 (Nat.le_of_eq g1.symm)
  have sz_ad1 : h0.size ≤ ad1 := Nat.le_trans (Keep.refl h0 []).1 (Nat.le_of_eq g1.symm)
  have V_a1_1 : own_L Z n0 h1 a1 b1 b2 b3 b4 fH fS fN fP := own_L_ext V0 E1
  have A_ad1_1 : own_arr Z h1 ad1 (3 : Int32) own_zero := own_arr_new A1 (by decide)
  have K1 : Keep h0 h1 [] := (Keep.refl h0 []).ext E1
  have Zs1 : n0 ≤ h1.size := Nat.le_trans Z0 E1.1
  obtain ⟨T2, h2, X2, e2, W2, st2⟩ := own_st X1 hx hZ e1 A_ad1_1 (by decide) (by decide) (g := (mkF m 74 #[.val (.ref a1), .val (.int p2), .val (.int (2 : Int32)), .val (.int (1 : Int32)), .val (.int (-1 : Int32)), .val (.ref ad1), .val (.int (0 : Int32))] [(.int (0 : Int32)), (.int (0 : Int32)), (.ref ad1)])) rfl rfl (hb hby d6_74)
  have V_a1_2 : own_L Z n0 h2 a1 b1 b2 b3 b4 fH fS fN fP := own_L_out V_a1_1 W2 lt_b4_ad1
  have A_ad1_2 : own_arr Z h2 ad1 (3 : Int32) (own_upd own_zero (0 : Int32) (0 : Int32)) := own_arr_same A_ad1_1 W2 (by decide) (by decide)
  have K2 : Keep h0 h2 [] := K1.wr W2 (Or.inr sz_ad1)
  have N2 := Fr.snoc X2 N0 gn_ad1
  have Zs2 : n0 ≤ h2.size := by rw [W2.size]; exact Zs1
  obtain ⟨cq3, kq3, q3a, q3b, q3c⟩ := isOf hZ e2 (V_a1_2.1)
  obtain ⟨_, _, ⟨T3, L3, k3, n3⟩, -, X3, ⟨Lc3, hQ3, l3, y3, z3⟩, st3⟩ := X2.virtualBack hx (y := own_m2) (z := own_m2) hown (mvT hZ (own_w hw 37 rfl)) (mvT hZ (own_w hw 38 rfl)) (notFace_of_selects (args := #[]) (mvT hZ (own_w hw 40 rfl))) (mvT hZ (own_w hw 40 rfl)) (mvT hZ (own_w hw 39 rfl)) (by decide) (backOf (W := 0) (rm7 l Z a0 hw [] a1 p2 b1 b2 b3 b4 fH fS fN fP h2 n0 Zs2 V_a1_2 l0 l1) hZ (own_w hw 41 rfl) (own_w hw 3 rfl) (by decide) (by decide)) q3a q3c (g := (mkF m 80 #[.val (.ref a1), .val (.int p2), .val (.int (2 : Int32)), .val (.int (1 : Int32)), .val (.int (-1 : Int32)), .val (.ref ad1), .val (.int (1 : Int32))] [(.int p2), (.ref a1)])) rfl (by rw [hml]; rfl) (Steps.refl _) (argsL := [(.int p2)]) (rest := []) (lenOf pd__I_I rfl) rfl (by show 2 * 0 + _ ≤ _; exact Nat.le_of_eq rfl) (hb hby d6_80) (fun _ _ => ⟨rfl, e2, (by decide : 1 + 0 ≤ _), (by decide : 3 + 0 ≤ _)⟩)
  dsimp only [Pt.U, Pt.locs, Pt.cells, Pt.slots] at X3 l3 y3 z3 st3 hQ3
  subst l3 y3 z3
  obtain ⟨rfl, N3q, q3⟩ := hQ3
  have N3 := Fr.app N2 N3q
  have e3' : T3.heap = h2 := q3
  obtain ⟨cq4, kq4, q4a, q4b, q4c⟩ := isOf hZ e3' (V_a1_2.1)
  obtain ⟨_, _, ⟨T4, L4, k4, n4⟩, -, X4, ⟨Lc4, hQ4, l4, y4, z4⟩, st4⟩ := X3.virtualBack hx (y := own_m3) (z := own_m3) hown (mvT hZ (own_w hw 42 rfl)) (mvT hZ (own_w hw 43 rfl)) (notFace_of_selects (args := #[]) (mvT hZ (own_w hw 45 rfl))) (mvT hZ (own_w hw 45 rfl)) (mvT hZ (own_w hw 44 rfl)) (by decide) (backOf (W := 0) (rm8 l Z a0 hw [] a1 p2 b1 b2 b3 b4 fH fS fN fP h2 n0 Zs2 V_a1_2 l0 l1) hZ (own_w hw 46 rfl) (own_w hw 3 rfl) (by decide) (by decide)) q4a q4c (g := (mkF m 92 #[.val (.ref a1), .val (.int p2), .val (.int (2 : Int32)), .val (.int (1 : Int32)), .val (.int (-1 : Int32)), .val (.ref ad1), .val (.int (1 : Int32))] [(.int p2), (.ref a1)])) rfl (by rw [hml]; rfl) (Steps.refl _) (argsL := [(.int p2)]) (rest := []) (lenOf pd__I_I rfl) rfl (by show 2 * 0 + _ ≤ _; exact Nat.le_of_eq rfl) (hb hby d6_92) (fun _ _ => ⟨rfl, e3', (by decide : 1 + 0 ≤ _), (by decide : 3 + 0 ≤ _)⟩)
  dsimp only [Pt.U, Pt.locs, Pt.cells, Pt.slots] at X4 l4 y4 z4 st4 hQ4
  subst l4 y4 z4
  obtain ⟨rfl, N4q, q4⟩ := hQ4
  have N4 := Fr.app N3 N4q
  have e4' : T4.heap = h2 := q4
  obtain ⟨cq5, kq5, q5a, q5b, q5c⟩ := isOf hZ e4' (V_a1_2.1)
  obtain ⟨_, _, ⟨T5, L5, k5, n5⟩, -, X5, ⟨Lc5, hQ5, l5, y5, z5⟩, st5⟩ := X4.virtualBack hx (y := own_m4) (z := own_m4) hown (mvT hZ (own_w hw 47 rfl)) (mvT hZ (own_w hw 48 rfl)) (notFace_of_selects (args := #[]) (mvT hZ (own_w hw 50 rfl))) (mvT hZ (own_w hw 50 rfl)) (mvT hZ (own_w hw 49 rfl)) (by decide) (backOf (W := 0) (rm9 l Z a0 hw [] a1 (0 : Int32) b1 b2 b3 b4 fH fS fN fP h2 n0 Zs2 V_a1_2 (by decide) (by decide)) hZ (own_w hw 51 rfl) (own_w hw 3 rfl) (by decide) (by decide)) q5a q5c (g := (mkF m 125 #[.val (.ref a1), .val (.int p2), .val (.int (2 : Int32)), .val (.int (1 : Int32)), .val (.int (-1 : Int32)), .val (.ref ad1), .val (.int (1 : Int32))] [(.int (0 : Int32)), (.ref a1)])) rfl (by rw [hml]; rfl) (Steps.refl _) (argsL := [(.int (0 : Int32))]) (rest := []) (lenOf pd__I_I rfl) rfl (by show 2 * 0 + _ ≤ _; exact Nat.le_of_eq rfl) (hb hby d6_125) (fun _ _ => ⟨rfl, e4', (by decide : 1 + 0 ≤ _), (by decide : 3 + 0 ≤ _)⟩)
  dsimp only [Pt.U, Pt.locs, Pt.cells, Pt.slots] at X5 l5 y5 z5 st5 hQ5
  subst l5 y5 z5
  obtain ⟨rfl, N5q, q5⟩ := hQ5
  have N5 := Fr.app N4 N5q
  have e5' : T5.heap = h2 := q5
  obtain ⟨fs, hr, hrun, hended, hW, hsame⟩ := X5.leave (v := some (.int (1 : Int32))) (fun h => by rw [Bd.returns] at h; cases h)
  refine ⟨_, _, pre0 _ ?_, hrun, hended, _, _, rfl, ?_, ⟨_, rfl⟩, hW, hsame.mono (by decide) (by decide)⟩
  · show Steps p.tables e below (s₁.setTop (mkF m 0 #[.val (.ref a1), .val (.int p2), .val (.int (2 : Int32)), .val (.int (1 : Int32)), .val (.int (-1 : Int32)), .unset, .unset] [])) _
    refine XS.iconst X0.here hx rfl (hb hby d6_0) ?_
    show Steps p.tables e below (s₁.setTop (mkF m 1 #[.val (.ref a1), .val (.int p2), .val (.int (2 : Int32)), .val (.int (1 : Int32)), .val (.int (-1 : Int32)), .unset, .unset] [(.int (3 : Int32))])) _
    refine st1 _ ?_
    show Steps p.tables e below (T1.setTop (mkF m 3 #[.val (.ref a1), .val (.int p2), .val (.int (2 : Int32)), .val (.int (1 : Int32)), .val (.int (-1 : Int32)), .unset, .unset] [(.ref ad1)])) _
    refine XS.astore X1.here hx rfl (hb hby d6_3) rfl rfl (l' := #[.val (.ref a1), .val (.int p2), .val (.int (2 : Int32)), .val (.int (1 : Int32)), .val (.int (-1 : Int32)), .val (.ref ad1), .unset]) rfl ?_
    refine XS.iconst X1.here hx rfl (hb hby d6_5) ?_
    refine XS.istore X1.here hx rfl (hb hby d6_6) rfl (l' := #[.val (.ref a1), .val (.int p2), .val (.int (2 : Int32)), .val (.int (1 : Int32)), .val (.int (-1 : Int32)), .val (.ref ad1), .val (.int (0 : Int32))]) rfl ?_
    refine XS.iconst X1.here hx rfl (hb hby d6_8) ?_
    refine XS.iloadN X1.here hx rfl (hb hby d6_9) rfl ?_
    show Steps p.tables e below (T1.setTop (mkF m 10 #[.val (.ref a1), .val (.int p2), .val (.int (2 : Int32)), .val (.int (1 : Int32)), .val (.int (-1 : Int32)), .val (.ref ad1), .val (.int (0 : Int32))] [(.int (2 : Int32)), (.int (2 : Int32))])) _
    refine XS.icmpYes X1.here hx rfl (pc0 := 10) (pc' := 33) rfl (hb hby d6_10) rfl (flt (by decide : ¬ ((2 : Int32) < (2 : Int32)))).2.1 (by decide) (by decide) ?_
    show Steps p.tables e below (T1.setTop (mkF m 33 #[.val (.ref a1), .val (.int p2), .val (.int (2 : Int32)), .val (.int (1 : Int32)), .val (.int (-1 : Int32)), .val (.ref ad1), .val (.int (0 : Int32))] [])) _
    refine XS.iconst X1.here hx rfl (hb hby d6_33) ?_
    refine XS.iloadN X1.here hx rfl (hb hby d6_34) rfl ?_
    show Steps p.tables e below (T1.setTop (mkF m 35 #[.val (.ref a1), .val (.int p2), .val (.int (2 : Int32)), .val (.int (1 : Int32)), .val (.int (-1 : Int32)), .val (.ref ad1), .val (.int (0 : Int32))] [(.int (2 : Int32)), (.int (1 : Int32))])) _
    refine XS.icmpNo X1.here hx rfl (hb hby d6_35) rfl (tlt (by decide : (1 : Int32) < (2 : Int32))).2.1 ?_
    show Steps p.tables e below (T1.setTop (mkF m 38 #[.val (.ref a1), .val (.int p2), .val (.int (2 : Int32)), .val (.int (1 : Int32)), .val (.int (-1 : Int32)), .val (.ref ad1), .val (.int (0 : Int32))] [])) _
    refine XS.iconst X1.here hx rfl (hb hby d6_38) ?_
    refine XS.iloadN X1.here hx rfl (hb hby d6_39) rfl ?_
    show Steps p.tables e below (T1.setTop (mkF m 40 #[.val (.ref a1), .val (.int p2), .val (.int (2 : Int32)), .val (.int (1 : Int32)), .val (.int (-1 : Int32)), .val (.ref ad1), .val (.int (0 : Int32))] [(.int (1 : Int32)), (.int (1 : Int32))])) _
    refine XS.icmpYes X1.here hx rfl (pc0 := 40) (pc' := 58) rfl (hb hby d6_40) rfl (teq (by decide : (1 : Int32) = (1 : Int32))).1 (by decide) (by decide) ?_
    show Steps p.tables e below (T1.setTop (mkF m 58 #[.val (.ref a1), .val (.int p2), .val (.int (2 : Int32)), .val (.int (1 : Int32)), .val (.int (-1 : Int32)), .val (.ref ad1), .val (.int (0 : Int32))] [])) _
    refine XS.iconst X1.here hx rfl (hb hby d6_58) ?_
    refine XS.iloadN X1.here hx rfl (hb hby d6_59) rfl ?_
    show Steps p.tables e below (T1.setTop (mkF m 60 #[.val (.ref a1), .val (.int p2), .val (.int (2 : Int32)), .val (.int (1 : Int32)), .val (.int (-1 : Int32)), .val (.ref ad1), .val (.int (0 : Int32))] [(.int (1 : Int32)), (.int (0 : Int32))])) _
    refine XS.icmpNo X1.here hx rfl (hb hby d6_60) rfl (feq (by decide : ¬ ((0 : Int32) = (1 : Int32)))).1 ?_
    show Steps p.tables e below (T1.setTop (mkF m 63 #[.val (.ref a1), .val (.int p2), .val (.int (2 : Int32)), .val (.int (1 : Int32)), .val (.int (-1 : Int32)), .val (.ref ad1), .val (.int (0 : Int32))] [])) _
    refine XS.iconst X1.here hx rfl (hb hby d6_63) ?_
    refine XS.iload X1.here hx rfl (hb hby d6_64) rfl ?_
    show Steps p.tables e below (T1.setTop (mkF m 66 #[.val (.ref a1), .val (.int p2), .val (.int (2 : Int32)), .val (.int (1 : Int32)), .val (.int (-1 : Int32)), .val (.ref ad1), .val (.int (0 : Int32))] [(.int (-1 : Int32)), (.int (0 : Int32))])) _
    refine XS.icmpNo X1.here hx rfl (hb hby d6_66) rfl (feq (by decide : ¬ ((0 : Int32) = (-1 : Int32)))).1 ?_
    show Steps p.tables e below (T1.setTop (mkF m 69 #[.val (.ref a1), .val (.int p2), .val (.int (2 : Int32)), .val (.int (1 : Int32)), .val (.int (-1 : Int32)), .val (.ref ad1), .val (.int (0 : Int32))] [])) _
    refine XS.aload X1.here hx rfl (hb hby d6_69) rfl rfl ?_
    refine XS.iload X1.here hx rfl (hb hby d6_71) rfl ?_
    refine XS.iconst X1.here hx rfl (hb hby d6_73) ?_
    show Steps p.tables e below (T1.setTop (mkF m 74 #[.val (.ref a1), .val (.int p2), .val (.int (2 : Int32)), .val (.int (1 : Int32)), .val (.int (-1 : Int32)), .val (.ref ad1), .val (.int (0 : Int32))] [(.int (0 : Int32)), (.int (0 : Int32)), (.ref ad1)])) _
    refine st2 _ ?_
    show Steps p.tables e below (T2.setTop (mkF m 75 #[.val (.ref a1), .val (.int p2), .val (.int (2 : Int32)), .val (.int (1 : Int32)), .val (.int (-1 : Int32)), .val (.ref ad1), .val (.int (0 : Int32))] [])) _
    refine XS.iinc X2.here hx rfl (hb hby d6_75) rfl (l' := #[.val (.ref a1), .val (.int p2), .val (.int (2 : Int32)), .val (.int (1 : Int32)), .val (.int (-1 : Int32)), .val (.ref ad1), .val (.int (1 : Int32))]) rfl ?_
    show Steps p.tables e below (T2.setTop (mkF m 78 #[.val (.ref a1), .val (.int p2), .val (.int (2 : Int32)), .val (.int (1 : Int32)), .val (.int (-1 : Int32)), .val (.ref ad1), .val (.int (1 : Int32))] [])) _
    refine XS.aloadN X2.here hx rfl (hb hby d6_78) rfl rfl ?_
    refine XS.iloadN X2.here hx rfl (hb hby d6_79) rfl ?_
    show Steps p.tables e below (T2.setTop (mkF m 80 #[.val (.ref a1), .val (.int p2), .val (.int (2 : Int32)), .val (.int (1 : Int32)), .val (.int (-1 : Int32)), .val (.ref ad1), .val (.int (1 : Int32))] [(.int p2), (.ref a1)])) _
    refine st3.trans ?_
    show Steps p.tables e below (T3.setTop (mkF m 83 #[.val (.ref a1), .val (.int p2), .val (.int (2 : Int32)), .val (.int (1 : Int32)), .val (.int (-1 : Int32)), .val (.ref ad1), .val (.int (1 : Int32))] [(.int (fS p2))])) _
    refine XS.iload X3.here hx rfl (hb hby d6_83) rfl ?_
    show Steps p.tables e below (T3.setTop (mkF m 85 #[.val (.ref a1), .val (.int p2), .val (.int (2 : Int32)), .val (.int (1 : Int32)), .val (.int (-1 : Int32)), .val (.ref ad1), .val (.int (1 : Int32))] [(.int (1 : Int32)), (.int (fS p2))])) _
    refine XS.icmpYes X3.here hx rfl (pc0 := 85) (pc' := 90) rfl (hb hby d6_85) rfl (teq hs).1 (by decide) (by decide) ?_
    show Steps p.tables e below (T3.setTop (mkF m 90 #[.val (.ref a1), .val (.int p2), .val (.int (2 : Int32)), .val (.int (1 : Int32)), .val (.int (-1 : Int32)), .val (.ref ad1), .val (.int (1 : Int32))] [])) _
    refine XS.aloadN X3.here hx rfl (hb hby d6_90) rfl rfl ?_
    refine XS.iloadN X3.here hx rfl (hb hby d6_91) rfl ?_
    show Steps p.tables e below (T3.setTop (mkF m 92 #[.val (.ref a1), .val (.int p2), .val (.int (2 : Int32)), .val (.int (1 : Int32)), .val (.int (-1 : Int32)), .val (.ref ad1), .val (.int (1 : Int32))] [(.int p2), (.ref a1)])) _
    refine st4.trans ?_
    show Steps p.tables e below (T4.setTop (mkF m 95 #[.val (.ref a1), .val (.int p2), .val (.int (2 : Int32)), .val (.int (1 : Int32)), .val (.int (-1 : Int32)), .val (.ref ad1), .val (.int (1 : Int32))] [(.int (fH p2))])) _
    refine XS.iload X4.here hx rfl (hb hby d6_95) rfl ?_
    refine XS.iconst X4.here hx rfl (hb hby d6_97) ?_
    show Steps p.tables e below (T4.setTop (mkF m 98 #[.val (.ref a1), .val (.int p2), .val (.int (2 : Int32)), .val (.int (1 : Int32)), .val (.int (-1 : Int32)), .val (.ref ad1), .val (.int (1 : Int32))] [(.int (1 : Int32)), (.int (1 : Int32)), (.int (fH p2))])) _
    refine XS.icmpNo X4.here hx rfl (hb hby d6_98) rfl (flt (by decide : ¬ ((1 : Int32) < (1 : Int32)))).1 ?_
    show Steps p.tables e below (T4.setTop (mkF m 101 #[.val (.ref a1), .val (.int p2), .val (.int (2 : Int32)), .val (.int (1 : Int32)), .val (.int (-1 : Int32)), .val (.ref ad1), .val (.int (1 : Int32))] [(.int (fH p2))])) _
    refine XS.aload X4.here hx rfl (hb hby d6_101) rfl rfl ?_
    refine XS.iconst X4.here hx rfl (hb hby d6_103) ?_
    show Steps p.tables e below (T4.setTop (mkF m 104 #[.val (.ref a1), .val (.int p2), .val (.int (2 : Int32)), .val (.int (1 : Int32)), .val (.int (-1 : Int32)), .val (.ref ad1), .val (.int (1 : Int32))] [(.int (0 : Int32)), (.ref ad1), (.int (fH p2))])) _
    refine own_ld X4 hx hZ e4' A_ad1_2 (by decide) (by decide) (g := (mkF m 104 #[.val (.ref a1), .val (.int p2), .val (.int (2 : Int32)), .val (.int (1 : Int32)), .val (.int (-1 : Int32)), .val (.ref ad1), .val (.int (1 : Int32))] [(.int (0 : Int32)), (.ref ad1), (.int (fH p2))])) rfl rfl (hb hby d6_104) _ ?_
    show Steps p.tables e below (T4.setTop (mkF m 105 #[.val (.ref a1), .val (.int p2), .val (.int (2 : Int32)), .val (.int (1 : Int32)), .val (.int (-1 : Int32)), .val (.ref ad1), .val (.int (1 : Int32))] [(.int (0 : Int32)), (.int (fH p2))])) _
    refine XS.goto X4.here hx rfl (pc0 := 105) (pc' := 109) rfl (hb hby d6_105) (by decide) (by decide) ?_
    show Steps p.tables e below (T4.setTop (mkF m 109 #[.val (.ref a1), .val (.int p2), .val (.int (2 : Int32)), .val (.int (1 : Int32)), .val (.int (-1 : Int32)), .val (.ref ad1), .val (.int (1 : Int32))] [(.int (0 : Int32)), (.int (fH p2))])) _
    refine XS.icmpYes X4.here hx rfl (pc0 := 109) (pc' := 114) rfl (hb hby d6_109) rfl (teq hf).1 (by decide) (by decide) ?_
    show Steps p.tables e below (T4.setTop (mkF m 114 #[.val (.ref a1), .val (.int p2), .val (.int (2 : Int32)), .val (.int (1 : Int32)), .val (.int (-1 : Int32)), .val (.ref ad1), .val (.int (1 : Int32))] [])) _
    refine XS.iload X4.here hx rfl (hb hby d6_114) rfl ?_
    refine XS.iconst X4.here hx rfl (hb hby d6_116) ?_
    show Steps p.tables e below (T4.setTop (mkF m 117 #[.val (.ref a1), .val (.int p2), .val (.int (2 : Int32)), .val (.int (1 : Int32)), .val (.int (-1 : Int32)), .val (.ref ad1), .val (.int (1 : Int32))] [(.int (1 : Int32)), (.int (1 : Int32))])) _
    refine XS.icmpNo X4.here hx rfl (hb hby d6_117) rfl (flt (by decide : ¬ ((1 : Int32) < (1 : Int32)))).1 ?_
    show Steps p.tables e below (T4.setTop (mkF m 120 #[.val (.ref a1), .val (.int p2), .val (.int (2 : Int32)), .val (.int (1 : Int32)), .val (.int (-1 : Int32)), .val (.ref ad1), .val (.int (1 : Int32))] [])) _
    refine XS.aloadN X4.here hx rfl (hb hby d6_120) rfl rfl ?_
    refine XS.aload X4.here hx rfl (hb hby d6_121) rfl rfl ?_
    refine XS.iconst X4.here hx rfl (hb hby d6_123) ?_
    show Steps p.tables e below (T4.setTop (mkF m 124 #[.val (.ref a1), .val (.int p2), .val (.int (2 : Int32)), .val (.int (1 : Int32)), .val (.int (-1 : Int32)), .val (.ref ad1), .val (.int (1 : Int32))] [(.int (0 : Int32)), (.ref ad1), (.ref a1)])) _
    refine own_ld X4 hx hZ e4' A_ad1_2 (by decide) (by decide) (g := (mkF m 124 #[.val (.ref a1), .val (.int p2), .val (.int (2 : Int32)), .val (.int (1 : Int32)), .val (.int (-1 : Int32)), .val (.ref ad1), .val (.int (1 : Int32))] [(.int (0 : Int32)), (.ref ad1), (.ref a1)])) rfl rfl (hb hby d6_124) _ ?_
    show Steps p.tables e below (T4.setTop (mkF m 125 #[.val (.ref a1), .val (.int p2), .val (.int (2 : Int32)), .val (.int (1 : Int32)), .val (.int (-1 : Int32)), .val (.ref ad1), .val (.int (1 : Int32))] [(.int (0 : Int32)), (.ref a1)])) _
    refine st5.trans ?_
    show Steps p.tables e below (T5.setTop (mkF m 128 #[.val (.ref a1), .val (.int p2), .val (.int (2 : Int32)), .val (.int (1 : Int32)), .val (.int (-1 : Int32)), .val (.ref ad1), .val (.int (1 : Int32))] [(.int (fN (0 : Int32)))])) _
    refine XS.iload X5.here hx rfl (hb hby d6_128) rfl ?_
    refine XS.iconst X5.here hx rfl (hb hby d6_130) ?_
    show Steps p.tables e below (T5.setTop (mkF m 131 #[.val (.ref a1), .val (.int p2), .val (.int (2 : Int32)), .val (.int (1 : Int32)), .val (.int (-1 : Int32)), .val (.ref ad1), .val (.int (1 : Int32))] [(.int (2 : Int32)), (.int (1 : Int32)), (.int (fN (0 : Int32)))])) _
    refine XS.icmpYes X5.here hx rfl (pc0 := 131) (pc' := 141) rfl (hb hby d6_131) rfl (tlt (by decide : (1 : Int32) < (2 : Int32))).1 (by decide) (by decide) ?_
    show Steps p.tables e below (T5.setTop (mkF m 141 #[.val (.ref a1), .val (.int p2), .val (.int (2 : Int32)), .val (.int (1 : Int32)), .val (.int (-1 : Int32)), .val (.ref ad1), .val (.int (1 : Int32))] [(.int (fN (0 : Int32)))])) _
    refine XS.iconst X5.here hx rfl (hb hby d6_141) ?_
    show Steps p.tables e below (T5.setTop (mkF m 142 #[.val (.ref a1), .val (.int p2), .val (.int (2 : Int32)), .val (.int (1 : Int32)), .val (.int (-1 : Int32)), .val (.ref ad1), .val (.int (1 : Int32))] [(.int (-1 : Int32)), (.int (fN (0 : Int32)))])) _
    refine XS.icmpYes X5.here hx rfl (pc0 := 142) (pc' := 147) rfl (hb hby d6_142) rfl (teq hn0).1 (by decide) (by decide) ?_
    show Steps p.tables e below (T5.setTop (mkF m 147 #[.val (.ref a1), .val (.int p2), .val (.int (2 : Int32)), .val (.int (1 : Int32)), .val (.int (-1 : Int32)), .val (.ref ad1), .val (.int (1 : Int32))] [])) _
    refine XS.iload X5.here hx rfl (hb hby d6_147) rfl ?_
    refine XS.iconst X5.here hx rfl (hb hby d6_149) ?_
    show Steps p.tables e below (T5.setTop (mkF m 150 #[.val (.ref a1), .val (.int p2), .val (.int (2 : Int32)), .val (.int (1 : Int32)), .val (.int (-1 : Int32)), .val (.ref ad1), .val (.int (1 : Int32))] [(.int (2 : Int32)), (.int (1 : Int32))])) _
    refine XS.icmpYes X5.here hx rfl (pc0 := 150) (pc' := 180) rfl (hb hby d6_150) rfl (tlt (by decide : (1 : Int32) < (2 : Int32))).1 (by decide) (by decide) ?_
    show Steps p.tables e below (T5.setTop (mkF m 180 #[.val (.ref a1), .val (.int p2), .val (.int (2 : Int32)), .val (.int (1 : Int32)), .val (.int (-1 : Int32)), .val (.ref ad1), .val (.int (1 : Int32))] [])) _
    refine XS.iload X5.here hx rfl (hb hby d6_180) rfl ?_
    refine XS.iconst X5.here hx rfl (hb hby d6_182) ?_
    show Steps p.tables e below (T5.setTop (mkF m 183 #[.val (.ref a1), .val (.int p2), .val (.int (2 : Int32)), .val (.int (1 : Int32)), .val (.int (-1 : Int32)), .val (.ref ad1), .val (.int (1 : Int32))] [(.int (3 : Int32)), (.int (1 : Int32))])) _
    refine XS.icmpYes X5.here hx rfl (pc0 := 183) (pc' := 200) rfl (hb hby d6_183) rfl (tlt (by decide : (1 : Int32) < (3 : Int32))).1 (by decide) (by decide) ?_
    show Steps p.tables e below (T5.setTop (mkF m 200 #[.val (.ref a1), .val (.int p2), .val (.int (2 : Int32)), .val (.int (1 : Int32)), .val (.int (-1 : Int32)), .val (.ref ad1), .val (.int (1 : Int32))] [])) _
    refine XS.iconst X5.here hx rfl (hb hby d6_200) ?_
    show Steps p.tables e below (T5.setTop (mkF m 201 #[.val (.ref a1), .val (.int p2), .val (.int (2 : Int32)), .val (.int (1 : Int32)), .val (.int (-1 : Int32)), .val (.ref ad1), .val (.int (1 : Int32))] [(.int (1 : Int32))])) _
    exact retN X5 hx (t := .boolean) Bd.returns (by simp) (hb hby d6_201) hr
  · show Q6_2_1_m1 Z a1 p2 b1 b2 b3 b4 fH fS fN fP h0 n0 _ T5.heap _
    rw [e5']
    exact ⟨rfl, N5, K2⟩
theorem d6_13 : decode method_3_code 13 = .ok (.iconst 2, 1) := by decide +kernel
theorem d6_14 : decode method_3_code 14 = .ok (.iload_n 3, 1) := by decide +kernel
theorem d6_15 : decode method_3_code 15 = .ok (.if_icmp .eq 18, 3) := by decide +kernel
theorem d6_18 : decode method_3_code 18 = .ok (.iconst 2, 1) := by decide +kernel
theorem d6_19 : decode method_3_code 19 = .ok (.iload 4, 2) := by decide +kernel
theorem d6_21 : decode method_3_code 21 = .ok (.if_icmp .eq 12, 3) := by decide +kernel
theorem d6_24 : decode method_3_code 24 = .ok (.aload 5, 2) := by decide +kernel
theorem d6_26 : decode method_3_code 26 = .ok (.iload 6, 2) := by decide +kernel
theorem d6_28 : decode method_3_code 28 = .ok (.iconst 2, 1) := by decide +kernel
theorem d6_29 : decode method_3_code 29 = .ok (.iastore, 1) := by decide +kernel
theorem d6_30 : decode method_3_code 30 = .ok (.iinc 6 1, 3) := by decide +kernel
theorem d6_134 : decode method_3_code 134 = .ok (.aload 5, 2) := by decide +kernel
theorem d6_136 : decode method_3_code 136 = .ok (.iconst 1, 1) := by decide +kernel
theorem d6_137 : decode method_3_code 137 = .ok (.iaload, 1) := by decide +kernel
theorem d6_138 : decode method_3_code 138 = .ok (.goto 4, 3) := by decide +kernel
theorem d6_153 : decode method_3_code 153 = .ok (.aload_n 0, 1) := by decide +kernel
theorem d6_154 : decode method_3_code 154 = .ok (.aload 5, 2) := by decide +kernel
theorem d6_156 : decode method_3_code 156 = .ok (.iconst 1, 1) := by decide +kernel
theorem d6_157 : decode method_3_code 157 = .ok (.iaload, 1) := by decide +kernel
theorem d6_158 : decode method_3_code 158 = .ok (.invokevirtual 32, 3) := by decide +kernel
theorem d6_161 : decode method_3_code 161 = .ok (.iload 6, 2) := by decide +kernel
theorem d6_163 : decode method_3_code 163 = .ok (.iconst 3, 1) := by decide +kernel
theorem d6_164 : decode method_3_code 164 = .ok (.if_icmp .lt 10, 3) := by decide +kernel
theorem d6_174 : decode method_3_code 174 = .ok (.iconst (-1), 1) := by decide +kernel
theorem d6_175 : decode method_3_code 175 = .ok (.if_icmp .eq 5, 3) := by decide +kernel
theorem ef_6_3_0_m1 (m : MethodId) (a1 : Addr) (p2 : Int32) : entryFrame m #[(.ref a1), (.int p2), (.int (3 : Int32)), (.int (0 : Int32)), (.int (-1 : Int32))] 7 = mkF m 0 #[.val (.ref a1), .val (.int p2), .val (.int (3 : Int32)), .val (.int (0 : Int32)), .val (.int (-1 : Int32)), .unset, .unset] [] := by first | (simp [entryFrame, mkF, argsToLocals, Value.category]; done) | rfl
def Q6_3_0_m1 (Z : State) (a1 : Addr) (p2 : Int32) (b1 b2 b3 b4 : Addr) (fH fS fN fP : Int32 → Int32) (h0 : Heap) (n0 : Nat) (v : Option Value) (h : Heap) (L : List Loc) : Prop := v = some (.int (1 : Int32)) ∧ Fr n0 L ∧ Keep h0 h []
set_option maxRecDepth 65536 in
set_option maxHeartbeats 40000000 in
theorem rm6_3_0_m1 (l : Launch) (Z : State) (a0 : Array Value) (hw : ∀ d ∈ tables_1, d.before a0 Z = true) (ws : List Jvm.Cond) (a1 : Addr) (p2 : Int32) (b1 b2 b3 b4 : Addr) (fH fS fN fP : Int32 → Int32) (h0 : Heap) (n0 : Nat) (Z0 : n0 ≤ h0.size) (V0 : own_L Z n0 h0 a1 b1 b2 b3 b4 fH fS fN fP) (l0 : ¬ p2 < 0) (l1 : p2 < (2 : Int32)) (hs : (fS p2) = (2 : Int32)) (hf : (fH p2) = (2 : Int32)) (hn0 : (fN (2 : Int32)) = (1 : Int32)) (hn1 : (fN (1 : Int32)) = (-1 : Int32)) :
    MetFree l (⟨"com/example/process_stepper/processstepper/equivalence/IntListsRemovePinLaw", "matches", "(Lcom/example/process_stepper/processstepper/equivalence/IntLists;IIII)Z"⟩ : MethodName) (head1 (Jvm.Cond.code (⟨"com/example/process_stepper/processstepper/equivalence/IntListsRemovePinLaw", "matches", "(Lcom/example/process_stepper/processstepper/equivalence/IntLists;IIII)Z"⟩ : MethodName) method_3_code 7 (some .boolean) :: ws) ({ frames := 1, cells := 1, slots := 3, locals := 14 } : Room)) (fun a U => a = #[(.ref a1), (.int p2), (.int (3 : Int32)), (.int (0 : Int32)), (.int (-1 : Int32))] ∧ Z.Warmed39 U.vm ∧ U.heap = h0) (fun _ _ _ _ _ => True) (fun _ U o U' => ∃ v L, o = .returned v ∧ Q6_3_0_m1 Z a1 p2 b1 b2 b3 b4 fH fS fN fP h0 n0 v U'.heap L ∧ FrameEnd U o U' L ({ frames := 1, cells := 1, slots := 3, locals := 14 } : Room).cells ({ frames := 1, cells := 1, slots := 3, locals := 14 } : Room).slots) := by
  refine MetFree.of_bodySF (plainFor_of_name pn_6) hisR ?_
  intro p e s m args below meth c s₁ Bd hml0 hP hK
  obtain ⟨rfl, hZ, hh⟩ := hP
  have hx := Bd.exec
  have hby := Bd.bytes
  have hml : c.maxLocals = 7 := hml0
  have hown : s.vm.findClass "com/example/process_stepper/processstepper/equivalence/IntListsRemovePinLaw" = some m.cls := findClass_of_methodNamed Bd.named
  have hnm := (name_of_methodNamed Bd.named Bd.method).1
  have X0 : Stand p l e ({ frames := 1, cells := 1, slots := 3, locals := 14 } : Room) s m #[(.ref a1), (.int p2), (.int (3 : Int32)), (.int (0 : Int32)), (.int (-1 : Int32))] below meth c s₁ [] 0 0 := Stand.of_body Bd
  have e0 : s₁.heap = h0 := by rw [← hh, Bd.state]; rfl
  have N0 := Fr.nil n0
  have pre0 : ∀ t, Steps p.tables e below (s₁.setTop (mkF m 0 #[.val (.ref a1), .val (.int p2), .val (.int (3 : Int32)), .val (.int (0 : Int32)), .val (.int (-1 : Int32)), .unset, .unset] [])) t → Steps p.tables e below (s₁.setTop (entryFrame m #[(.ref a1), (.int p2), (.int (3 : Int32)), (.int (0 : Int32)), (.int (-1 : Int32))] 7)) t := fun t k => castTop (ef_6_3_0_m1 m a1 p2) k
  obtain ⟨T1, h1, k1, X1, e1, E1, A1, st1⟩ := newP X0 hx hZ (own_w hw 10 rfl) e0 (g := (mkF m 1 #[.val (.ref a1), .val (.int p2), .val (.int (3 : Int32)), .val (.int (0 : Int32)), .val (.int (-1 : Int32)), .unset, .unset] [(.int (3 : Int32))])) rfl (hb hby d6_1) rfl (by decide) (cap := 3) (by decide) (by decide) (by decide) (by decide)
  obtain ⟨ad1, g1⟩ : ∃ z, z = h0.size := ⟨_, rfl⟩
  rw [← g1] at A1 st1
  have lt_a1_ad1 : a1 < ad1 := Nat.lt_of_lt_of_eq (own_L_lta V0) g1.symm
  have lt_b4_ad1 : b4 < ad1 := Nat.lt_of_lt_of_eq (own_L_lt V0) g1.symm
  have gn_ad1 : n0 ≤ ad1 := Nat.le_trans Z0 (Nat.le_of_eq g1.symm)
  have sz_ad1 : h0.size ≤ ad1 := Nat.le_trans (Keep.refl h0 []).1 (Nat.le_of_eq g1.symm)
  have V_a1_1 : own_L Z n0 h1 a1 b1 b2 b3 b4 fH fS fN fP := own_L_ext V0 E1
  have A_ad1_1 : own_arr Z h1 ad1 (3 : Int32) own_zero := own_arr_new A1 (by decide)
  have K1 : Keep h0 h1 [] := (Keep.refl h0 []).ext E1
  have Zs1 : n0 ≤ h1.size := Nat.le_trans Z0 E1.1
  obtain ⟨T2, h2, X2, e2, W2, st2⟩ := own_st X1 hx hZ e1 A_ad1_1 (by decide) (by decide) (g := (mkF m 29 #[.val (.ref a1), .val (.int p2), .val (.int (3 : Int32)), .val (.int (0 : Int32)), .val (.int (-1 : Int32)), .val (.ref ad1), .val (.int (0 : Int32))] [(.int (2 : Int32)), (.int (0 : Int32)), (.ref ad1)])) rfl rfl (hb hby d6_29)
  have V_a1_2 : own_L Z n0 h2 a1 b1 b2 b3 b4 fH fS fN fP := own_L_out V_a1_1 W2 lt_b4_ad1
  have A_ad1_2 : own_arr Z h2 ad1 (3 : Int32) (own_upd own_zero (0 : Int32) (2 : Int32)) := own_arr_same A_ad1_1 W2 (by decide) (by decide)
  have K2 : Keep h0 h2 [] := K1.wr W2 (Or.inr sz_ad1)
  have N2 := Fr.snoc X2 N0 gn_ad1
  have Zs2 : n0 ≤ h2.size := by rw [W2.size]; exact Zs1
  obtain ⟨T3, h3, X3, e3, W3, st3⟩ := own_st X2 hx hZ e2 A_ad1_2 (by decide) (by decide) (g := (mkF m 54 #[.val (.ref a1), .val (.int p2), .val (.int (3 : Int32)), .val (.int (0 : Int32)), .val (.int (-1 : Int32)), .val (.ref ad1), .val (.int (1 : Int32))] [(.int (1 : Int32)), (.int (1 : Int32)), (.ref ad1)])) rfl rfl (hb hby d6_54)
  have V_a1_3 : own_L Z n0 h3 a1 b1 b2 b3 b4 fH fS fN fP := own_L_out V_a1_2 W3 lt_b4_ad1
  have A_ad1_3 : own_arr Z h3 ad1 (3 : Int32) (own_upd (own_upd own_zero (0 : Int32) (2 : Int32)) (1 : Int32) (1 : Int32)) := own_arr_same A_ad1_2 W3 (by decide) (by decide)
  have K3 : Keep h0 h3 [] := K2.wr W3 (Or.inr sz_ad1)
  have N3 := Fr.snoc X3 N2 gn_ad1
  have Zs3 : n0 ≤ h3.size := by rw [W3.size]; exact Zs2
  obtain ⟨cq4, kq4, q4a, q4b, q4c⟩ := isOf hZ e3 (V_a1_3.1)
  obtain ⟨_, _, ⟨T4, L4, k4, n4⟩, -, X4, ⟨Lc4, hQ4, l4, y4, z4⟩, st4⟩ := X3.virtualBack hx (y := own_m2) (z := own_m2) hown (mvT hZ (own_w hw 37 rfl)) (mvT hZ (own_w hw 38 rfl)) (notFace_of_selects (args := #[]) (mvT hZ (own_w hw 40 rfl))) (mvT hZ (own_w hw 40 rfl)) (mvT hZ (own_w hw 39 rfl)) (by decide) (backOf (W := 0) (rm7 l Z a0 hw [] a1 p2 b1 b2 b3 b4 fH fS fN fP h3 n0 Zs3 V_a1_3 l0 l1) hZ (own_w hw 41 rfl) (own_w hw 3 rfl) (by decide) (by decide)) q4a q4c (g := (mkF m 80 #[.val (.ref a1), .val (.int p2), .val (.int (3 : Int32)), .val (.int (0 : Int32)), .val (.int (-1 : Int32)), .val (.ref ad1), .val (.int (2 : Int32))] [(.int p2), (.ref a1)])) rfl (by rw [hml]; rfl) (Steps.refl _) (argsL := [(.int p2)]) (rest := []) (lenOf pd__I_I rfl) rfl (by show 2 * 0 + _ ≤ _; exact Nat.le_of_eq rfl) (hb hby d6_80) (fun _ _ => ⟨rfl, e3, (by decide : 1 + 0 ≤ _), (by decide : 3 + 0 ≤ _)⟩)
  dsimp only [Pt.U, Pt.locs, Pt.cells, Pt.slots] at X4 l4 y4 z4 st4 hQ4
  subst l4 y4 z4
  obtain ⟨rfl, N4q, q4⟩ := hQ4
  have N4 := Fr.app N3 N4q
  have e4' : T4.heap = h3 := q4
  obtain ⟨cq5, kq5, q5a, q5b, q5c⟩ := isOf hZ e4' (V_a1_3.1)
  obtain ⟨_, _, ⟨T5, L5, k5, n5⟩, -, X5, ⟨Lc5, hQ5, l5, y5, z5⟩, st5⟩ := X4.virtualBack hx (y := own_m3) (z := own_m3) hown (mvT hZ (own_w hw 42 rfl)) (mvT hZ (own_w hw 43 rfl)) (notFace_of_selects (args := #[]) (mvT hZ (own_w hw 45 rfl))) (mvT hZ (own_w hw 45 rfl)) (mvT hZ (own_w hw 44 rfl)) (by decide) (backOf (W := 0) (rm8 l Z a0 hw [] a1 p2 b1 b2 b3 b4 fH fS fN fP h3 n0 Zs3 V_a1_3 l0 l1) hZ (own_w hw 46 rfl) (own_w hw 3 rfl) (by decide) (by decide)) q5a q5c (g := (mkF m 92 #[.val (.ref a1), .val (.int p2), .val (.int (3 : Int32)), .val (.int (0 : Int32)), .val (.int (-1 : Int32)), .val (.ref ad1), .val (.int (2 : Int32))] [(.int p2), (.ref a1)])) rfl (by rw [hml]; rfl) (Steps.refl _) (argsL := [(.int p2)]) (rest := []) (lenOf pd__I_I rfl) rfl (by show 2 * 0 + _ ≤ _; exact Nat.le_of_eq rfl) (hb hby d6_92) (fun _ _ => ⟨rfl, e4', (by decide : 1 + 0 ≤ _), (by decide : 3 + 0 ≤ _)⟩)
  dsimp only [Pt.U, Pt.locs, Pt.cells, Pt.slots] at X5 l5 y5 z5 st5 hQ5
  subst l5 y5 z5
  obtain ⟨rfl, N5q, q5⟩ := hQ5
  have N5 := Fr.app N4 N5q
  have e5' : T5.heap = h3 := q5
  obtain ⟨cq6, kq6, q6a, q6b, q6c⟩ := isOf hZ e5' (V_a1_3.1)
  obtain ⟨_, _, ⟨T6, L6, k6, n6⟩, -, X6, ⟨Lc6, hQ6, l6, y6, z6⟩, st6⟩ := X5.virtualBack hx (y := own_m4) (z := own_m4) hown (mvT hZ (own_w hw 47 rfl)) (mvT hZ (own_w hw 48 rfl)) (notFace_of_selects (args := #[]) (mvT hZ (own_w hw 50 rfl))) (mvT hZ (own_w hw 50 rfl)) (mvT hZ (own_w hw 49 rfl)) (by decide) (backOf (W := 0) (rm9 l Z a0 hw [] a1 (2 : Int32) b1 b2 b3 b4 fH fS fN fP h3 n0 Zs3 V_a1_3 (by decide) (by decide)) hZ (own_w hw 51 rfl) (own_w hw 3 rfl) (by decide) (by decide)) q6a q6c (g := (mkF m 125 #[.val (.ref a1), .val (.int p2), .val (.int (3 : Int32)), .val (.int (0 : Int32)), .val (.int (-1 : Int32)), .val (.ref ad1), .val (.int (2 : Int32))] [(.int (2 : Int32)), (.ref a1)])) rfl (by rw [hml]; rfl) (Steps.refl _) (argsL := [(.int (2 : Int32))]) (rest := []) (lenOf pd__I_I rfl) rfl (by show 2 * 0 + _ ≤ _; exact Nat.le_of_eq rfl) (hb hby d6_125) (fun _ _ => ⟨rfl, e5', (by decide : 1 + 0 ≤ _), (by decide : 3 + 0 ≤ _)⟩)
  dsimp only [Pt.U, Pt.locs, Pt.cells, Pt.slots] at X6 l6 y6 z6 st6 hQ6
  subst l6 y6 z6
  obtain ⟨rfl, N6q, q6⟩ := hQ6
  have N6 := Fr.app N5 N6q
  have e6' : T6.heap = h3 := q6
  obtain ⟨cq7, kq7, q7a, q7b, q7c⟩ := isOf hZ e6' (V_a1_3.1)
  obtain ⟨_, _, ⟨T7, L7, k7, n7⟩, -, X7, ⟨Lc7, hQ7, l7, y7, z7⟩, st7⟩ := X6.virtualBack hx (y := own_m4) (z := own_m4) hown (mvT hZ (own_w hw 47 rfl)) (mvT hZ (own_w hw 48 rfl)) (notFace_of_selects (args := #[]) (mvT hZ (own_w hw 50 rfl))) (mvT hZ (own_w hw 50 rfl)) (mvT hZ (own_w hw 49 rfl)) (by decide) (backOf (W := 0) (rm9 l Z a0 hw [] a1 (1 : Int32) b1 b2 b3 b4 fH fS fN fP h3 n0 Zs3 V_a1_3 (by decide) (by decide)) hZ (own_w hw 51 rfl) (own_w hw 3 rfl) (by decide) (by decide)) q7a q7c (g := (mkF m 158 #[.val (.ref a1), .val (.int p2), .val (.int (3 : Int32)), .val (.int (0 : Int32)), .val (.int (-1 : Int32)), .val (.ref ad1), .val (.int (2 : Int32))] [(.int (1 : Int32)), (.ref a1)])) rfl (by rw [hml]; rfl) (Steps.refl _) (argsL := [(.int (1 : Int32))]) (rest := []) (lenOf pd__I_I rfl) rfl (by show 2 * 0 + _ ≤ _; exact Nat.le_of_eq rfl) (hb hby d6_158) (fun _ _ => ⟨rfl, e6', (by decide : 1 + 0 ≤ _), (by decide : 3 + 0 ≤ _)⟩)
  dsimp only [Pt.U, Pt.locs, Pt.cells, Pt.slots] at X7 l7 y7 z7 st7 hQ7
  subst l7 y7 z7
  obtain ⟨rfl, N7q, q7⟩ := hQ7
  have N7 := Fr.app N6 N7q
  have e7' : T7.heap = h3 := q7
  obtain ⟨fs, hr, hrun, hended, hW, hsame⟩ := X7.leave (v := some (.int (1 : Int32))) (fun h => by rw [Bd.returns] at h; cases h)
  refine ⟨_, _, pre0 _ ?_, hrun, hended, _, _, rfl, ?_, ⟨_, rfl⟩, hW, hsame.mono (by decide) (by decide)⟩
  · show Steps p.tables e below (s₁.setTop (mkF m 0 #[.val (.ref a1), .val (.int p2), .val (.int (3 : Int32)), .val (.int (0 : Int32)), .val (.int (-1 : Int32)), .unset, .unset] [])) _
    refine XS.iconst X0.here hx rfl (hb hby d6_0) ?_
    show Steps p.tables e below (s₁.setTop (mkF m 1 #[.val (.ref a1), .val (.int p2), .val (.int (3 : Int32)), .val (.int (0 : Int32)), .val (.int (-1 : Int32)), .unset, .unset] [(.int (3 : Int32))])) _
    refine st1 _ ?_
    show Steps p.tables e below (T1.setTop (mkF m 3 #[.val (.ref a1), .val (.int p2), .val (.int (3 : Int32)), .val (.int (0 : Int32)), .val (.int (-1 : Int32)), .unset, .unset] [(.ref ad1)])) _
    refine XS.astore X1.here hx rfl (hb hby d6_3) rfl rfl (l' := #[.val (.ref a1), .val (.int p2), .val (.int (3 : Int32)), .val (.int (0 : Int32)), .val (.int (-1 : Int32)), .val (.ref ad1), .unset]) rfl ?_
    refine XS.iconst X1.here hx rfl (hb hby d6_5) ?_
    refine XS.istore X1.here hx rfl (hb hby d6_6) rfl (l' := #[.val (.ref a1), .val (.int p2), .val (.int (3 : Int32)), .val (.int (0 : Int32)), .val (.int (-1 : Int32)), .val (.ref ad1), .val (.int (0 : Int32))]) rfl ?_
    refine XS.iconst X1.here hx rfl (hb hby d6_8) ?_
    refine XS.iloadN X1.here hx rfl (hb hby d6_9) rfl ?_
    show Steps p.tables e below (T1.setTop (mkF m 10 #[.val (.ref a1), .val (.int p2), .val (.int (3 : Int32)), .val (.int (0 : Int32)), .val (.int (-1 : Int32)), .val (.ref ad1), .val (.int (0 : Int32))] [(.int (3 : Int32)), (.int (2 : Int32))])) _
    refine XS.icmpNo X1.here hx rfl (hb hby d6_10) rfl (tlt (by decide : (2 : Int32) < (3 : Int32))).2.1 ?_
    show Steps p.tables e below (T1.setTop (mkF m 13 #[.val (.ref a1), .val (.int p2), .val (.int (3 : Int32)), .val (.int (0 : Int32)), .val (.int (-1 : Int32)), .val (.ref ad1), .val (.int (0 : Int32))] [])) _
    refine XS.iconst X1.here hx rfl (hb hby d6_13) ?_
    refine XS.iloadN X1.here hx rfl (hb hby d6_14) rfl ?_
    show Steps p.tables e below (T1.setTop (mkF m 15 #[.val (.ref a1), .val (.int p2), .val (.int (3 : Int32)), .val (.int (0 : Int32)), .val (.int (-1 : Int32)), .val (.ref ad1), .val (.int (0 : Int32))] [(.int (0 : Int32)), (.int (2 : Int32))])) _
    refine XS.icmpNo X1.here hx rfl (hb hby d6_15) rfl (feq (by decide : ¬ ((2 : Int32) = (0 : Int32)))).1 ?_
    show Steps p.tables e below (T1.setTop (mkF m 18 #[.val (.ref a1), .val (.int p2), .val (.int (3 : Int32)), .val (.int (0 : Int32)), .val (.int (-1 : Int32)), .val (.ref ad1), .val (.int (0 : Int32))] [])) _
    refine XS.iconst X1.here hx rfl (hb hby d6_18) ?_
    refine XS.iload X1.here hx rfl (hb hby d6_19) rfl ?_
    show Steps p.tables e below (T1.setTop (mkF m 21 #[.val (.ref a1), .val (.int p2), .val (.int (3 : Int32)), .val (.int (0 : Int32)), .val (.int (-1 : Int32)), .val (.ref ad1), .val (.int (0 : Int32))] [(.int (-1 : Int32)), (.int (2 : Int32))])) _
    refine XS.icmpNo X1.here hx rfl (hb hby d6_21) rfl (feq (by decide : ¬ ((2 : Int32) = (-1 : Int32)))).1 ?_
    show Steps p.tables e below (T1.setTop (mkF m 24 #[.val (.ref a1), .val (.int p2), .val (.int (3 : Int32)), .val (.int (0 : Int32)), .val (.int (-1 : Int32)), .val (.ref ad1), .val (.int (0 : Int32))] [])) _
    refine XS.aload X1.here hx rfl (hb hby d6_24) rfl rfl ?_
    refine XS.iload X1.here hx rfl (hb hby d6_26) rfl ?_
    refine XS.iconst X1.here hx rfl (hb hby d6_28) ?_
    show Steps p.tables e below (T1.setTop (mkF m 29 #[.val (.ref a1), .val (.int p2), .val (.int (3 : Int32)), .val (.int (0 : Int32)), .val (.int (-1 : Int32)), .val (.ref ad1), .val (.int (0 : Int32))] [(.int (2 : Int32)), (.int (0 : Int32)), (.ref ad1)])) _
    refine st2 _ ?_
    show Steps p.tables e below (T2.setTop (mkF m 30 #[.val (.ref a1), .val (.int p2), .val (.int (3 : Int32)), .val (.int (0 : Int32)), .val (.int (-1 : Int32)), .val (.ref ad1), .val (.int (0 : Int32))] [])) _
    refine XS.iinc X2.here hx rfl (hb hby d6_30) rfl (l' := #[.val (.ref a1), .val (.int p2), .val (.int (3 : Int32)), .val (.int (0 : Int32)), .val (.int (-1 : Int32)), .val (.ref ad1), .val (.int (1 : Int32))]) rfl ?_
    show Steps p.tables e below (T2.setTop (mkF m 33 #[.val (.ref a1), .val (.int p2), .val (.int (3 : Int32)), .val (.int (0 : Int32)), .val (.int (-1 : Int32)), .val (.ref ad1), .val (.int (1 : Int32))] [])) _
    refine XS.iconst X2.here hx rfl (hb hby d6_33) ?_
    refine XS.iloadN X2.here hx rfl (hb hby d6_34) rfl ?_
    show Steps p.tables e below (T2.setTop (mkF m 35 #[.val (.ref a1), .val (.int p2), .val (.int (3 : Int32)), .val (.int (0 : Int32)), .val (.int (-1 : Int32)), .val (.ref ad1), .val (.int (1 : Int32))] [(.int (3 : Int32)), (.int (1 : Int32))])) _
    refine XS.icmpNo X2.here hx rfl (hb hby d6_35) rfl (tlt (by decide : (1 : Int32) < (3 : Int32))).2.1 ?_
    show Steps p.tables e below (T2.setTop (mkF m 38 #[.val (.ref a1), .val (.int p2), .val (.int (3 : Int32)), .val (.int (0 : Int32)), .val (.int (-1 : Int32)), .val (.ref ad1), .val (.int (1 : Int32))] [])) _
    refine XS.iconst X2.here hx rfl (hb hby d6_38) ?_
    refine XS.iloadN X2.here hx rfl (hb hby d6_39) rfl ?_
    show Steps p.tables e below (T2.setTop (mkF m 40 #[.val (.ref a1), .val (.int p2), .val (.int (3 : Int32)), .val (.int (0 : Int32)), .val (.int (-1 : Int32)), .val (.ref ad1), .val (.int (1 : Int32))] [(.int (0 : Int32)), (.int (1 : Int32))])) _
    refine XS.icmpNo X2.here hx rfl (hb hby d6_40) rfl (feq (by decide : ¬ ((1 : Int32) = (0 : Int32)))).1 ?_
    show Steps p.tables e below (T2.setTop (mkF m 43 #[.val (.ref a1), .val (.int p2), .val (.int (3 : Int32)), .val (.int (0 : Int32)), .val (.int (-1 : Int32)), .val (.ref ad1), .val (.int (1 : Int32))] [])) _
    refine XS.iconst X2.here hx rfl (hb hby d6_43) ?_
    refine XS.iload X2.here hx rfl (hb hby d6_44) rfl ?_
    show Steps p.tables e below (T2.setTop (mkF m 46 #[.val (.ref a1), .val (.int p2), .val (.int (3 : Int32)), .val (.int (0 : Int32)), .val (.int (-1 : Int32)), .val (.ref ad1), .val (.int (1 : Int32))] [(.int (-1 : Int32)), (.int (1 : Int32))])) _
    refine XS.icmpNo X2.here hx rfl (hb hby d6_46) rfl (feq (by decide : ¬ ((1 : Int32) = (-1 : Int32)))).1 ?_
    show Steps p.tables e below (T2.setTop (mkF m 49 #[.val (.ref a1), .val (.int p2), .val (.int (3 : Int32)), .val (.int (0 : Int32)), .val (.int (-1 : Int32)), .val (.ref ad1), .val (.int (1 : Int32))] [])) _
    refine XS.aload X2.here hx rfl (hb hby d6_49) rfl rfl ?_
    refine XS.iload X2.here hx rfl (hb hby d6_51) rfl ?_
    refine XS.iconst X2.here hx rfl (hb hby d6_53) ?_
    show Steps p.tables e below (T2.setTop (mkF m 54 #[.val (.ref a1), .val (.int p2), .val (.int (3 : Int32)), .val (.int (0 : Int32)), .val (.int (-1 : Int32)), .val (.ref ad1), .val (.int (1 : Int32))] [(.int (1 : Int32)), (.int (1 : Int32)), (.ref ad1)])) _
    refine st3 _ ?_
    show Steps p.tables e below (T3.setTop (mkF m 55 #[.val (.ref a1), .val (.int p2), .val (.int (3 : Int32)), .val (.int (0 : Int32)), .val (.int (-1 : Int32)), .val (.ref ad1), .val (.int (1 : Int32))] [])) _
    refine XS.iinc X3.here hx rfl (hb hby d6_55) rfl (l' := #[.val (.ref a1), .val (.int p2), .val (.int (3 : Int32)), .val (.int (0 : Int32)), .val (.int (-1 : Int32)), .val (.ref ad1), .val (.int (2 : Int32))]) rfl ?_
    show Steps p.tables e below (T3.setTop (mkF m 58 #[.val (.ref a1), .val (.int p2), .val (.int (3 : Int32)), .val (.int (0 : Int32)), .val (.int (-1 : Int32)), .val (.ref ad1), .val (.int (2 : Int32))] [])) _
    refine XS.iconst X3.here hx rfl (hb hby d6_58) ?_
    refine XS.iloadN X3.here hx rfl (hb hby d6_59) rfl ?_
    show Steps p.tables e below (T3.setTop (mkF m 60 #[.val (.ref a1), .val (.int p2), .val (.int (3 : Int32)), .val (.int (0 : Int32)), .val (.int (-1 : Int32)), .val (.ref ad1), .val (.int (2 : Int32))] [(.int (0 : Int32)), (.int (0 : Int32))])) _
    refine XS.icmpYes X3.here hx rfl (pc0 := 60) (pc' := 78) rfl (hb hby d6_60) rfl (teq (by decide : (0 : Int32) = (0 : Int32))).1 (by decide) (by decide) ?_
    show Steps p.tables e below (T3.setTop (mkF m 78 #[.val (.ref a1), .val (.int p2), .val (.int (3 : Int32)), .val (.int (0 : Int32)), .val (.int (-1 : Int32)), .val (.ref ad1), .val (.int (2 : Int32))] [])) _
    refine XS.aloadN X3.here hx rfl (hb hby d6_78) rfl rfl ?_
    refine XS.iloadN X3.here hx rfl (hb hby d6_79) rfl ?_
    show Steps p.tables e below (T3.setTop (mkF m 80 #[.val (.ref a1), .val (.int p2), .val (.int (3 : Int32)), .val (.int (0 : Int32)), .val (.int (-1 : Int32)), .val (.ref ad1), .val (.int (2 : Int32))] [(.int p2), (.ref a1)])) _
    refine st4.trans ?_
    show Steps p.tables e below (T4.setTop (mkF m 83 #[.val (.ref a1), .val (.int p2), .val (.int (3 : Int32)), .val (.int (0 : Int32)), .val (.int (-1 : Int32)), .val (.ref ad1), .val (.int (2 : Int32))] [(.int (fS p2))])) _
    refine XS.iload X4.here hx rfl (hb hby d6_83) rfl ?_
    show Steps p.tables e below (T4.setTop (mkF m 85 #[.val (.ref a1), .val (.int p2), .val (.int (3 : Int32)), .val (.int (0 : Int32)), .val (.int (-1 : Int32)), .val (.ref ad1), .val (.int (2 : Int32))] [(.int (2 : Int32)), (.int (fS p2))])) _
    refine XS.icmpYes X4.here hx rfl (pc0 := 85) (pc' := 90) rfl (hb hby d6_85) rfl (teq hs).1 (by decide) (by decide) ?_
    show Steps p.tables e below (T4.setTop (mkF m 90 #[.val (.ref a1), .val (.int p2), .val (.int (3 : Int32)), .val (.int (0 : Int32)), .val (.int (-1 : Int32)), .val (.ref ad1), .val (.int (2 : Int32))] [])) _
    refine XS.aloadN X4.here hx rfl (hb hby d6_90) rfl rfl ?_
    refine XS.iloadN X4.here hx rfl (hb hby d6_91) rfl ?_
    show Steps p.tables e below (T4.setTop (mkF m 92 #[.val (.ref a1), .val (.int p2), .val (.int (3 : Int32)), .val (.int (0 : Int32)), .val (.int (-1 : Int32)), .val (.ref ad1), .val (.int (2 : Int32))] [(.int p2), (.ref a1)])) _
    refine st5.trans ?_
    show Steps p.tables e below (T5.setTop (mkF m 95 #[.val (.ref a1), .val (.int p2), .val (.int (3 : Int32)), .val (.int (0 : Int32)), .val (.int (-1 : Int32)), .val (.ref ad1), .val (.int (2 : Int32))] [(.int (fH p2))])) _
    refine XS.iload X5.here hx rfl (hb hby d6_95) rfl ?_
    refine XS.iconst X5.here hx rfl (hb hby d6_97) ?_
    show Steps p.tables e below (T5.setTop (mkF m 98 #[.val (.ref a1), .val (.int p2), .val (.int (3 : Int32)), .val (.int (0 : Int32)), .val (.int (-1 : Int32)), .val (.ref ad1), .val (.int (2 : Int32))] [(.int (1 : Int32)), (.int (2 : Int32)), (.int (fH p2))])) _
    refine XS.icmpNo X5.here hx rfl (hb hby d6_98) rfl (flt (by decide : ¬ ((2 : Int32) < (1 : Int32)))).1 ?_
    show Steps p.tables e below (T5.setTop (mkF m 101 #[.val (.ref a1), .val (.int p2), .val (.int (3 : Int32)), .val (.int (0 : Int32)), .val (.int (-1 : Int32)), .val (.ref ad1), .val (.int (2 : Int32))] [(.int (fH p2))])) _
    refine XS.aload X5.here hx rfl (hb hby d6_101) rfl rfl ?_
    refine XS.iconst X5.here hx rfl (hb hby d6_103) ?_
    show Steps p.tables e below (T5.setTop (mkF m 104 #[.val (.ref a1), .val (.int p2), .val (.int (3 : Int32)), .val (.int (0 : Int32)), .val (.int (-1 : Int32)), .val (.ref ad1), .val (.int (2 : Int32))] [(.int (0 : Int32)), (.ref ad1), (.int (fH p2))])) _
    refine own_ld X5 hx hZ e5' A_ad1_3 (by decide) (by decide) (g := (mkF m 104 #[.val (.ref a1), .val (.int p2), .val (.int (3 : Int32)), .val (.int (0 : Int32)), .val (.int (-1 : Int32)), .val (.ref ad1), .val (.int (2 : Int32))] [(.int (0 : Int32)), (.ref ad1), (.int (fH p2))])) rfl rfl (hb hby d6_104) _ ?_
    show Steps p.tables e below (T5.setTop (mkF m 105 #[.val (.ref a1), .val (.int p2), .val (.int (3 : Int32)), .val (.int (0 : Int32)), .val (.int (-1 : Int32)), .val (.ref ad1), .val (.int (2 : Int32))] [(.int (2 : Int32)), (.int (fH p2))])) _
    refine XS.goto X5.here hx rfl (pc0 := 105) (pc' := 109) rfl (hb hby d6_105) (by decide) (by decide) ?_
    show Steps p.tables e below (T5.setTop (mkF m 109 #[.val (.ref a1), .val (.int p2), .val (.int (3 : Int32)), .val (.int (0 : Int32)), .val (.int (-1 : Int32)), .val (.ref ad1), .val (.int (2 : Int32))] [(.int (2 : Int32)), (.int (fH p2))])) _
    refine XS.icmpYes X5.here hx rfl (pc0 := 109) (pc' := 114) rfl (hb hby d6_109) rfl (teq hf).1 (by decide) (by decide) ?_
    show Steps p.tables e below (T5.setTop (mkF m 114 #[.val (.ref a1), .val (.int p2), .val (.int (3 : Int32)), .val (.int (0 : Int32)), .val (.int (-1 : Int32)), .val (.ref ad1), .val (.int (2 : Int32))] [])) _
    refine XS.iload X5.here hx rfl (hb hby d6_114) rfl ?_
    refine XS.iconst X5.here hx rfl (hb hby d6_116) ?_
    show Steps p.tables e below (T5.setTop (mkF m 117 #[.val (.ref a1), .val (.int p2), .val (.int (3 : Int32)), .val (.int (0 : Int32)), .val (.int (-1 : Int32)), .val (.ref ad1), .val (.int (2 : Int32))] [(.int (1 : Int32)), (.int (2 : Int32))])) _
    refine XS.icmpNo X5.here hx rfl (hb hby d6_117) rfl (flt (by decide : ¬ ((2 : Int32) < (1 : Int32)))).1 ?_
    show Steps p.tables e below (T5.setTop (mkF m 120 #[.val (.ref a1), .val (.int p2), .val (.int (3 : Int32)), .val (.int (0 : Int32)), .val (.int (-1 : Int32)), .val (.ref ad1), .val (.int (2 : Int32))] [])) _
    refine XS.aloadN X5.here hx rfl (hb hby d6_120) rfl rfl ?_
    refine XS.aload X5.here hx rfl (hb hby d6_121) rfl rfl ?_
    refine XS.iconst X5.here hx rfl (hb hby d6_123) ?_
    show Steps p.tables e below (T5.setTop (mkF m 124 #[.val (.ref a1), .val (.int p2), .val (.int (3 : Int32)), .val (.int (0 : Int32)), .val (.int (-1 : Int32)), .val (.ref ad1), .val (.int (2 : Int32))] [(.int (0 : Int32)), (.ref ad1), (.ref a1)])) _
    refine own_ld X5 hx hZ e5' A_ad1_3 (by decide) (by decide) (g := (mkF m 124 #[.val (.ref a1), .val (.int p2), .val (.int (3 : Int32)), .val (.int (0 : Int32)), .val (.int (-1 : Int32)), .val (.ref ad1), .val (.int (2 : Int32))] [(.int (0 : Int32)), (.ref ad1), (.ref a1)])) rfl rfl (hb hby d6_124) _ ?_
    show Steps p.tables e below (T5.setTop (mkF m 125 #[.val (.ref a1), .val (.int p2), .val (.int (3 : Int32)), .val (.int (0 : Int32)), .val (.int (-1 : Int32)), .val (.ref ad1), .val (.int (2 : Int32))] [(.int (2 : Int32)), (.ref a1)])) _
    refine st6.trans ?_
    show Steps p.tables e below (T6.setTop (mkF m 128 #[.val (.ref a1), .val (.int p2), .val (.int (3 : Int32)), .val (.int (0 : Int32)), .val (.int (-1 : Int32)), .val (.ref ad1), .val (.int (2 : Int32))] [(.int (fN (2 : Int32)))])) _
    refine XS.iload X6.here hx rfl (hb hby d6_128) rfl ?_
    refine XS.iconst X6.here hx rfl (hb hby d6_130) ?_
    show Steps p.tables e below (T6.setTop (mkF m 131 #[.val (.ref a1), .val (.int p2), .val (.int (3 : Int32)), .val (.int (0 : Int32)), .val (.int (-1 : Int32)), .val (.ref ad1), .val (.int (2 : Int32))] [(.int (2 : Int32)), (.int (2 : Int32)), (.int (fN (2 : Int32)))])) _
    refine XS.icmpNo X6.here hx rfl (hb hby d6_131) rfl (flt (by decide : ¬ ((2 : Int32) < (2 : Int32)))).1 ?_
    show Steps p.tables e below (T6.setTop (mkF m 134 #[.val (.ref a1), .val (.int p2), .val (.int (3 : Int32)), .val (.int (0 : Int32)), .val (.int (-1 : Int32)), .val (.ref ad1), .val (.int (2 : Int32))] [(.int (fN (2 : Int32)))])) _
    refine XS.aload X6.here hx rfl (hb hby d6_134) rfl rfl ?_
    refine XS.iconst X6.here hx rfl (hb hby d6_136) ?_
    show Steps p.tables e below (T6.setTop (mkF m 137 #[.val (.ref a1), .val (.int p2), .val (.int (3 : Int32)), .val (.int (0 : Int32)), .val (.int (-1 : Int32)), .val (.ref ad1), .val (.int (2 : Int32))] [(.int (1 : Int32)), (.ref ad1), (.int (fN (2 : Int32)))])) _
    refine own_ld X6 hx hZ e6' A_ad1_3 (by decide) (by decide) (g := (mkF m 137 #[.val (.ref a1), .val (.int p2), .val (.int (3 : Int32)), .val (.int (0 : Int32)), .val (.int (-1 : Int32)), .val (.ref ad1), .val (.int (2 : Int32))] [(.int (1 : Int32)), (.ref ad1), (.int (fN (2 : Int32)))])) rfl rfl (hb hby d6_137) _ ?_
    show Steps p.tables e below (T6.setTop (mkF m 138 #[.val (.ref a1), .val (.int p2), .val (.int (3 : Int32)), .val (.int (0 : Int32)), .val (.int (-1 : Int32)), .val (.ref ad1), .val (.int (2 : Int32))] [(.int (1 : Int32)), (.int (fN (2 : Int32)))])) _
    refine XS.goto X6.here hx rfl (pc0 := 138) (pc' := 142) rfl (hb hby d6_138) (by decide) (by decide) ?_
    show Steps p.tables e below (T6.setTop (mkF m 142 #[.val (.ref a1), .val (.int p2), .val (.int (3 : Int32)), .val (.int (0 : Int32)), .val (.int (-1 : Int32)), .val (.ref ad1), .val (.int (2 : Int32))] [(.int (1 : Int32)), (.int (fN (2 : Int32)))])) _
    refine XS.icmpYes X6.here hx rfl (pc0 := 142) (pc' := 147) rfl (hb hby d6_142) rfl (teq hn0).1 (by decide) (by decide) ?_
    show Steps p.tables e below (T6.setTop (mkF m 147 #[.val (.ref a1), .val (.int p2), .val (.int (3 : Int32)), .val (.int (0 : Int32)), .val (.int (-1 : Int32)), .val (.ref ad1), .val (.int (2 : Int32))] [])) _
    refine XS.iload X6.here hx rfl (hb hby d6_147) rfl ?_
    refine XS.iconst X6.here hx rfl (hb hby d6_149) ?_
    show Steps p.tables e below (T6.setTop (mkF m 150 #[.val (.ref a1), .val (.int p2), .val (.int (3 : Int32)), .val (.int (0 : Int32)), .val (.int (-1 : Int32)), .val (.ref ad1), .val (.int (2 : Int32))] [(.int (2 : Int32)), (.int (2 : Int32))])) _
    refine XS.icmpNo X6.here hx rfl (hb hby d6_150) rfl (flt (by decide : ¬ ((2 : Int32) < (2 : Int32)))).1 ?_
    show Steps p.tables e below (T6.setTop (mkF m 153 #[.val (.ref a1), .val (.int p2), .val (.int (3 : Int32)), .val (.int (0 : Int32)), .val (.int (-1 : Int32)), .val (.ref ad1), .val (.int (2 : Int32))] [])) _
    refine XS.aloadN X6.here hx rfl (hb hby d6_153) rfl rfl ?_
    refine XS.aload X6.here hx rfl (hb hby d6_154) rfl rfl ?_
    refine XS.iconst X6.here hx rfl (hb hby d6_156) ?_
    show Steps p.tables e below (T6.setTop (mkF m 157 #[.val (.ref a1), .val (.int p2), .val (.int (3 : Int32)), .val (.int (0 : Int32)), .val (.int (-1 : Int32)), .val (.ref ad1), .val (.int (2 : Int32))] [(.int (1 : Int32)), (.ref ad1), (.ref a1)])) _
    refine own_ld X6 hx hZ e6' A_ad1_3 (by decide) (by decide) (g := (mkF m 157 #[.val (.ref a1), .val (.int p2), .val (.int (3 : Int32)), .val (.int (0 : Int32)), .val (.int (-1 : Int32)), .val (.ref ad1), .val (.int (2 : Int32))] [(.int (1 : Int32)), (.ref ad1), (.ref a1)])) rfl rfl (hb hby d6_157) _ ?_
    show Steps p.tables e below (T6.setTop (mkF m 158 #[.val (.ref a1), .val (.int p2), .val (.int (3 : Int32)), .val (.int (0 : Int32)), .val (.int (-1 : Int32)), .val (.ref ad1), .val (.int (2 : Int32))] [(.int (1 : Int32)), (.ref a1)])) _
    refine st7.trans ?_
    show Steps p.tables e below (T7.setTop (mkF m 161 #[.val (.ref a1), .val (.int p2), .val (.int (3 : Int32)), .val (.int (0 : Int32)), .val (.int (-1 : Int32)), .val (.ref ad1), .val (.int (2 : Int32))] [(.int (fN (1 : Int32)))])) _
    refine XS.iload X7.here hx rfl (hb hby d6_161) rfl ?_
    refine XS.iconst X7.here hx rfl (hb hby d6_163) ?_
    show Steps p.tables e below (T7.setTop (mkF m 164 #[.val (.ref a1), .val (.int p2), .val (.int (3 : Int32)), .val (.int (0 : Int32)), .val (.int (-1 : Int32)), .val (.ref ad1), .val (.int (2 : Int32))] [(.int (3 : Int32)), (.int (2 : Int32)), (.int (fN (1 : Int32)))])) _
    refine XS.icmpYes X7.here hx rfl (pc0 := 164) (pc' := 174) rfl (hb hby d6_164) rfl (tlt (by decide : (2 : Int32) < (3 : Int32))).1 (by decide) (by decide) ?_
    show Steps p.tables e below (T7.setTop (mkF m 174 #[.val (.ref a1), .val (.int p2), .val (.int (3 : Int32)), .val (.int (0 : Int32)), .val (.int (-1 : Int32)), .val (.ref ad1), .val (.int (2 : Int32))] [(.int (fN (1 : Int32)))])) _
    refine XS.iconst X7.here hx rfl (hb hby d6_174) ?_
    show Steps p.tables e below (T7.setTop (mkF m 175 #[.val (.ref a1), .val (.int p2), .val (.int (3 : Int32)), .val (.int (0 : Int32)), .val (.int (-1 : Int32)), .val (.ref ad1), .val (.int (2 : Int32))] [(.int (-1 : Int32)), (.int (fN (1 : Int32)))])) _
    refine XS.icmpYes X7.here hx rfl (pc0 := 175) (pc' := 180) rfl (hb hby d6_175) rfl (teq hn1).1 (by decide) (by decide) ?_
    show Steps p.tables e below (T7.setTop (mkF m 180 #[.val (.ref a1), .val (.int p2), .val (.int (3 : Int32)), .val (.int (0 : Int32)), .val (.int (-1 : Int32)), .val (.ref ad1), .val (.int (2 : Int32))] [])) _
    refine XS.iload X7.here hx rfl (hb hby d6_180) rfl ?_
    refine XS.iconst X7.here hx rfl (hb hby d6_182) ?_
    show Steps p.tables e below (T7.setTop (mkF m 183 #[.val (.ref a1), .val (.int p2), .val (.int (3 : Int32)), .val (.int (0 : Int32)), .val (.int (-1 : Int32)), .val (.ref ad1), .val (.int (2 : Int32))] [(.int (3 : Int32)), (.int (2 : Int32))])) _
    refine XS.icmpYes X7.here hx rfl (pc0 := 183) (pc' := 200) rfl (hb hby d6_183) rfl (tlt (by decide : (2 : Int32) < (3 : Int32))).1 (by decide) (by decide) ?_
    show Steps p.tables e below (T7.setTop (mkF m 200 #[.val (.ref a1), .val (.int p2), .val (.int (3 : Int32)), .val (.int (0 : Int32)), .val (.int (-1 : Int32)), .val (.ref ad1), .val (.int (2 : Int32))] [])) _
    refine XS.iconst X7.here hx rfl (hb hby d6_200) ?_
    show Steps p.tables e below (T7.setTop (mkF m 201 #[.val (.ref a1), .val (.int p2), .val (.int (3 : Int32)), .val (.int (0 : Int32)), .val (.int (-1 : Int32)), .val (.ref ad1), .val (.int (2 : Int32))] [(.int (1 : Int32))])) _
    exact retN X7 hx (t := .boolean) Bd.returns (by simp) (hb hby d6_201) hr
  · show Q6_3_0_m1 Z a1 p2 b1 b2 b3 b4 fH fS fN fP h0 n0 _ T7.heap _
    rw [e7']
    exact ⟨rfl, N7, K3⟩
theorem ef_6_3_1_m1 (m : MethodId) (a1 : Addr) (p2 : Int32) : entryFrame m #[(.ref a1), (.int p2), (.int (3 : Int32)), (.int (1 : Int32)), (.int (-1 : Int32))] 7 = mkF m 0 #[.val (.ref a1), .val (.int p2), .val (.int (3 : Int32)), .val (.int (1 : Int32)), .val (.int (-1 : Int32)), .unset, .unset] [] := by first | (simp [entryFrame, mkF, argsToLocals, Value.category]; done) | rfl
def Q6_3_1_m1 (Z : State) (a1 : Addr) (p2 : Int32) (b1 b2 b3 b4 : Addr) (fH fS fN fP : Int32 → Int32) (h0 : Heap) (n0 : Nat) (v : Option Value) (h : Heap) (L : List Loc) : Prop := v = some (.int (1 : Int32)) ∧ Fr n0 L ∧ Keep h0 h []
set_option maxRecDepth 65536 in
set_option maxHeartbeats 40000000 in
theorem rm6_3_1_m1 (l : Launch) (Z : State) (a0 : Array Value) (hw : ∀ d ∈ tables_1, d.before a0 Z = true) (ws : List Jvm.Cond) (a1 : Addr) (p2 : Int32) (b1 b2 b3 b4 : Addr) (fH fS fN fP : Int32 → Int32) (h0 : Heap) (n0 : Nat) (Z0 : n0 ≤ h0.size) (V0 : own_L Z n0 h0 a1 b1 b2 b3 b4 fH fS fN fP) (l0 : ¬ p2 < 0) (l1 : p2 < (2 : Int32)) (hs : (fS p2) = (2 : Int32)) (hf : (fH p2) = (2 : Int32)) (hn0 : (fN (2 : Int32)) = (0 : Int32)) (hn1 : (fN (0 : Int32)) = (-1 : Int32)) :
    MetFree l (⟨"com/example/process_stepper/processstepper/equivalence/IntListsRemovePinLaw", "matches", "(Lcom/example/process_stepper/processstepper/equivalence/IntLists;IIII)Z"⟩ : MethodName) (head1 (Jvm.Cond.code (⟨"com/example/process_stepper/processstepper/equivalence/IntListsRemovePinLaw", "matches", "(Lcom/example/process_stepper/processstepper/equivalence/IntLists;IIII)Z"⟩ : MethodName) method_3_code 7 (some .boolean) :: ws) ({ frames := 1, cells := 1, slots := 3, locals := 14 } : Room)) (fun a U => a = #[(.ref a1), (.int p2), (.int (3 : Int32)), (.int (1 : Int32)), (.int (-1 : Int32))] ∧ Z.Warmed39 U.vm ∧ U.heap = h0) (fun _ _ _ _ _ => True) (fun _ U o U' => ∃ v L, o = .returned v ∧ Q6_3_1_m1 Z a1 p2 b1 b2 b3 b4 fH fS fN fP h0 n0 v U'.heap L ∧ FrameEnd U o U' L ({ frames := 1, cells := 1, slots := 3, locals := 14 } : Room).cells ({ frames := 1, cells := 1, slots := 3, locals := 14 } : Room).slots) := by
  refine MetFree.of_bodySF (plainFor_of_name pn_6) hisR ?_
  intro p e s m args below meth c s₁ Bd hml0 hP hK
  obtain ⟨rfl, hZ, hh⟩ := hP
  have hx := Bd.exec
  have hby := Bd.bytes
  have hml : c.maxLocals = 7 := hml0
  have hown : s.vm.findClass "com/example/process_stepper/processstepper/equivalence/IntListsRemovePinLaw" = some m.cls := findClass_of_methodNamed Bd.named
  have hnm := (name_of_methodNamed Bd.named Bd.method).1
  have X0 : Stand p l e ({ frames := 1, cells := 1, slots := 3, locals := 14 } : Room) s m #[(.ref a1), (.int p2), (.int (3 : Int32)), (.int (1 : Int32)), (.int (-1 : Int32))] below meth c s₁ [] 0 0 := Stand.of_body Bd
  have e0 : s₁.heap = h0 := by rw [← hh, Bd.state]; rfl
  have N0 := Fr.nil n0
  have pre0 : ∀ t, Steps p.tables e below (s₁.setTop (mkF m 0 #[.val (.ref a1), .val (.int p2), .val (.int (3 : Int32)), .val (.int (1 : Int32)), .val (.int (-1 : Int32)), .unset, .unset] [])) t → Steps p.tables e below (s₁.setTop (entryFrame m #[(.ref a1), (.int p2), (.int (3 : Int32)), (.int (1 : Int32)), (.int (-1 : Int32))] 7)) t := fun t k => castTop (ef_6_3_1_m1 m a1 p2) k
  obtain ⟨T1, h1, k1, X1, e1, E1, A1, st1⟩ := newP X0 hx hZ (own_w hw 10 rfl) e0 (g := (mkF m 1 #[.val (.ref a1), .val (.int p2), .val (.int (3 : Int32)), .val (.int (1 : Int32)), .val (.int (-1 : Int32)), .unset, .unset] [(.int (3 : Int32))])) rfl (hb hby d6_1) rfl (by decide) (cap := 3) (by decide) (by decide) (by decide) (by decide)
  obtain ⟨ad1, g1⟩ : ∃ z, z = h0.size := ⟨_, rfl⟩
  rw [← g1] at A1 st1
  have lt_a1_ad1 : a1 < ad1 := Nat.lt_of_lt_of_eq (own_L_lta V0) g1.symm
  have lt_b4_ad1 : b4 < ad1 := Nat.lt_of_lt_of_eq (own_L_lt V0) g1.symm
  have gn_ad1 : n0 ≤ ad1 := Nat.le_trans Z0 (Nat.le_of_eq g1.symm)
  have sz_ad1 : h0.size ≤ ad1 := Nat.le_trans (Keep.refl h0 []).1 (Nat.le_of_eq g1.symm)
  have V_a1_1 : own_L Z n0 h1 a1 b1 b2 b3 b4 fH fS fN fP := own_L_ext V0 E1
  have A_ad1_1 : own_arr Z h1 ad1 (3 : Int32) own_zero := own_arr_new A1 (by decide)
  have K1 : Keep h0 h1 [] := (Keep.refl h0 []).ext E1
  have Zs1 : n0 ≤ h1.size := Nat.le_trans Z0 E1.1
  obtain ⟨T2, h2, X2, e2, W2, st2⟩ := own_st X1 hx hZ e1 A_ad1_1 (by decide) (by decide) (g := (mkF m 29 #[.val (.ref a1), .val (.int p2), .val (.int (3 : Int32)), .val (.int (1 : Int32)), .val (.int (-1 : Int32)), .val (.ref ad1), .val (.int (0 : Int32))] [(.int (2 : Int32)), (.int (0 : Int32)), (.ref ad1)])) rfl rfl (hb hby d6_29)
  have V_a1_2 : own_L Z n0 h2 a1 b1 b2 b3 b4 fH fS fN fP := own_L_out V_a1_1 W2 lt_b4_ad1
  have A_ad1_2 : own_arr Z h2 ad1 (3 : Int32) (own_upd own_zero (0 : Int32) (2 : Int32)) := own_arr_same A_ad1_1 W2 (by decide) (by decide)
  have K2 : Keep h0 h2 [] := K1.wr W2 (Or.inr sz_ad1)
  have N2 := Fr.snoc X2 N0 gn_ad1
  have Zs2 : n0 ≤ h2.size := by rw [W2.size]; exact Zs1
  obtain ⟨T3, h3, X3, e3, W3, st3⟩ := own_st X2 hx hZ e2 A_ad1_2 (by decide) (by decide) (g := (mkF m 74 #[.val (.ref a1), .val (.int p2), .val (.int (3 : Int32)), .val (.int (1 : Int32)), .val (.int (-1 : Int32)), .val (.ref ad1), .val (.int (1 : Int32))] [(.int (0 : Int32)), (.int (1 : Int32)), (.ref ad1)])) rfl rfl (hb hby d6_74)
  have V_a1_3 : own_L Z n0 h3 a1 b1 b2 b3 b4 fH fS fN fP := own_L_out V_a1_2 W3 lt_b4_ad1
  have A_ad1_3 : own_arr Z h3 ad1 (3 : Int32) (own_upd (own_upd own_zero (0 : Int32) (2 : Int32)) (1 : Int32) (0 : Int32)) := own_arr_same A_ad1_2 W3 (by decide) (by decide)
  have K3 : Keep h0 h3 [] := K2.wr W3 (Or.inr sz_ad1)
  have N3 := Fr.snoc X3 N2 gn_ad1
  have Zs3 : n0 ≤ h3.size := by rw [W3.size]; exact Zs2
  obtain ⟨cq4, kq4, q4a, q4b, q4c⟩ := isOf hZ e3 (V_a1_3.1)
  obtain ⟨_, _, ⟨T4, L4, k4, n4⟩, -, X4, ⟨Lc4, hQ4, l4, y4, z4⟩, st4⟩ := X3.virtualBack hx (y := own_m2) (z := own_m2) hown (mvT hZ (own_w hw 37 rfl)) (mvT hZ (own_w hw 38 rfl)) (notFace_of_selects (args := #[]) (mvT hZ (own_w hw 40 rfl))) (mvT hZ (own_w hw 40 rfl)) (mvT hZ (own_w hw 39 rfl)) (by decide) (backOf (W := 0) (rm7 l Z a0 hw [] a1 p2 b1 b2 b3 b4 fH fS fN fP h3 n0 Zs3 V_a1_3 l0 l1) hZ (own_w hw 41 rfl) (own_w hw 3 rfl) (by decide) (by decide)) q4a q4c (g := (mkF m 80 #[.val (.ref a1), .val (.int p2), .val (.int (3 : Int32)), .val (.int (1 : Int32)), .val (.int (-1 : Int32)), .val (.ref ad1), .val (.int (2 : Int32))] [(.int p2), (.ref a1)])) rfl (by rw [hml]; rfl) (Steps.refl _) (argsL := [(.int p2)]) (rest := []) (lenOf pd__I_I rfl) rfl (by show 2 * 0 + _ ≤ _; exact Nat.le_of_eq rfl) (hb hby d6_80) (fun _ _ => ⟨rfl, e3, (by decide : 1 + 0 ≤ _), (by decide : 3 + 0 ≤ _)⟩)
  dsimp only [Pt.U, Pt.locs, Pt.cells, Pt.slots] at X4 l4 y4 z4 st4 hQ4
  subst l4 y4 z4
  obtain ⟨rfl, N4q, q4⟩ := hQ4
  have N4 := Fr.app N3 N4q
  have e4' : T4.heap = h3 := q4
  obtain ⟨cq5, kq5, q5a, q5b, q5c⟩ := isOf hZ e4' (V_a1_3.1)
  obtain ⟨_, _, ⟨T5, L5, k5, n5⟩, -, X5, ⟨Lc5, hQ5, l5, y5, z5⟩, st5⟩ := X4.virtualBack hx (y := own_m3) (z := own_m3) hown (mvT hZ (own_w hw 42 rfl)) (mvT hZ (own_w hw 43 rfl)) (notFace_of_selects (args := #[]) (mvT hZ (own_w hw 45 rfl))) (mvT hZ (own_w hw 45 rfl)) (mvT hZ (own_w hw 44 rfl)) (by decide) (backOf (W := 0) (rm8 l Z a0 hw [] a1 p2 b1 b2 b3 b4 fH fS fN fP h3 n0 Zs3 V_a1_3 l0 l1) hZ (own_w hw 46 rfl) (own_w hw 3 rfl) (by decide) (by decide)) q5a q5c (g := (mkF m 92 #[.val (.ref a1), .val (.int p2), .val (.int (3 : Int32)), .val (.int (1 : Int32)), .val (.int (-1 : Int32)), .val (.ref ad1), .val (.int (2 : Int32))] [(.int p2), (.ref a1)])) rfl (by rw [hml]; rfl) (Steps.refl _) (argsL := [(.int p2)]) (rest := []) (lenOf pd__I_I rfl) rfl (by show 2 * 0 + _ ≤ _; exact Nat.le_of_eq rfl) (hb hby d6_92) (fun _ _ => ⟨rfl, e4', (by decide : 1 + 0 ≤ _), (by decide : 3 + 0 ≤ _)⟩)
  dsimp only [Pt.U, Pt.locs, Pt.cells, Pt.slots] at X5 l5 y5 z5 st5 hQ5
  subst l5 y5 z5
  obtain ⟨rfl, N5q, q5⟩ := hQ5
  have N5 := Fr.app N4 N5q
  have e5' : T5.heap = h3 := q5
  obtain ⟨cq6, kq6, q6a, q6b, q6c⟩ := isOf hZ e5' (V_a1_3.1)
  obtain ⟨_, _, ⟨T6, L6, k6, n6⟩, -, X6, ⟨Lc6, hQ6, l6, y6, z6⟩, st6⟩ := X5.virtualBack hx (y := own_m4) (z := own_m4) hown (mvT hZ (own_w hw 47 rfl)) (mvT hZ (own_w hw 48 rfl)) (notFace_of_selects (args := #[]) (mvT hZ (own_w hw 50 rfl))) (mvT hZ (own_w hw 50 rfl)) (mvT hZ (own_w hw 49 rfl)) (by decide) (backOf (W := 0) (rm9 l Z a0 hw [] a1 (2 : Int32) b1 b2 b3 b4 fH fS fN fP h3 n0 Zs3 V_a1_3 (by decide) (by decide)) hZ (own_w hw 51 rfl) (own_w hw 3 rfl) (by decide) (by decide)) q6a q6c (g := (mkF m 125 #[.val (.ref a1), .val (.int p2), .val (.int (3 : Int32)), .val (.int (1 : Int32)), .val (.int (-1 : Int32)), .val (.ref ad1), .val (.int (2 : Int32))] [(.int (2 : Int32)), (.ref a1)])) rfl (by rw [hml]; rfl) (Steps.refl _) (argsL := [(.int (2 : Int32))]) (rest := []) (lenOf pd__I_I rfl) rfl (by show 2 * 0 + _ ≤ _; exact Nat.le_of_eq rfl) (hb hby d6_125) (fun _ _ => ⟨rfl, e5', (by decide : 1 + 0 ≤ _), (by decide : 3 + 0 ≤ _)⟩)
  dsimp only [Pt.U, Pt.locs, Pt.cells, Pt.slots] at X6 l6 y6 z6 st6 hQ6
  subst l6 y6 z6
  obtain ⟨rfl, N6q, q6⟩ := hQ6
  have N6 := Fr.app N5 N6q
  have e6' : T6.heap = h3 := q6
  obtain ⟨cq7, kq7, q7a, q7b, q7c⟩ := isOf hZ e6' (V_a1_3.1)
  obtain ⟨_, _, ⟨T7, L7, k7, n7⟩, -, X7, ⟨Lc7, hQ7, l7, y7, z7⟩, st7⟩ := X6.virtualBack hx (y := own_m4) (z := own_m4) hown (mvT hZ (own_w hw 47 rfl)) (mvT hZ (own_w hw 48 rfl)) (notFace_of_selects (args := #[]) (mvT hZ (own_w hw 50 rfl))) (mvT hZ (own_w hw 50 rfl)) (mvT hZ (own_w hw 49 rfl)) (by decide) (backOf (W := 0) (rm9 l Z a0 hw [] a1 (0 : Int32) b1 b2 b3 b4 fH fS fN fP h3 n0 Zs3 V_a1_3 (by decide) (by decide)) hZ (own_w hw 51 rfl) (own_w hw 3 rfl) (by decide) (by decide)) q7a q7c (g := (mkF m 158 #[.val (.ref a1), .val (.int p2), .val (.int (3 : Int32)), .val (.int (1 : Int32)), .val (.int (-1 : Int32)), .val (.ref ad1), .val (.int (2 : Int32))] [(.int (0 : Int32)), (.ref a1)])) rfl (by rw [hml]; rfl) (Steps.refl _) (argsL := [(.int (0 : Int32))]) (rest := []) (lenOf pd__I_I rfl) rfl (by show 2 * 0 + _ ≤ _; exact Nat.le_of_eq rfl) (hb hby d6_158) (fun _ _ => ⟨rfl, e6', (by decide : 1 + 0 ≤ _), (by decide : 3 + 0 ≤ _)⟩)
  dsimp only [Pt.U, Pt.locs, Pt.cells, Pt.slots] at X7 l7 y7 z7 st7 hQ7
  subst l7 y7 z7
  obtain ⟨rfl, N7q, q7⟩ := hQ7
  have N7 := Fr.app N6 N7q
  have e7' : T7.heap = h3 := q7
  obtain ⟨fs, hr, hrun, hended, hW, hsame⟩ := X7.leave (v := some (.int (1 : Int32))) (fun h => by rw [Bd.returns] at h; cases h)
  refine ⟨_, _, pre0 _ ?_, hrun, hended, _, _, rfl, ?_, ⟨_, rfl⟩, hW, hsame.mono (by decide) (by decide)⟩
  · show Steps p.tables e below (s₁.setTop (mkF m 0 #[.val (.ref a1), .val (.int p2), .val (.int (3 : Int32)), .val (.int (1 : Int32)), .val (.int (-1 : Int32)), .unset, .unset] [])) _
    refine XS.iconst X0.here hx rfl (hb hby d6_0) ?_
    show Steps p.tables e below (s₁.setTop (mkF m 1 #[.val (.ref a1), .val (.int p2), .val (.int (3 : Int32)), .val (.int (1 : Int32)), .val (.int (-1 : Int32)), .unset, .unset] [(.int (3 : Int32))])) _
    refine st1 _ ?_
    show Steps p.tables e below (T1.setTop (mkF m 3 #[.val (.ref a1), .val (.int p2), .val (.int (3 : Int32)), .val (.int (1 : Int32)), .val (.int (-1 : Int32)), .unset, .unset] [(.ref ad1)])) _
    refine XS.astore X1.here hx rfl (hb hby d6_3) rfl rfl (l' := #[.val (.ref a1), .val (.int p2), .val (.int (3 : Int32)), .val (.int (1 : Int32)), .val (.int (-1 : Int32)), .val (.ref ad1), .unset]) rfl ?_
    refine XS.iconst X1.here hx rfl (hb hby d6_5) ?_
    refine XS.istore X1.here hx rfl (hb hby d6_6) rfl (l' := #[.val (.ref a1), .val (.int p2), .val (.int (3 : Int32)), .val (.int (1 : Int32)), .val (.int (-1 : Int32)), .val (.ref ad1), .val (.int (0 : Int32))]) rfl ?_
    refine XS.iconst X1.here hx rfl (hb hby d6_8) ?_
    refine XS.iloadN X1.here hx rfl (hb hby d6_9) rfl ?_
    show Steps p.tables e below (T1.setTop (mkF m 10 #[.val (.ref a1), .val (.int p2), .val (.int (3 : Int32)), .val (.int (1 : Int32)), .val (.int (-1 : Int32)), .val (.ref ad1), .val (.int (0 : Int32))] [(.int (3 : Int32)), (.int (2 : Int32))])) _
    refine XS.icmpNo X1.here hx rfl (hb hby d6_10) rfl (tlt (by decide : (2 : Int32) < (3 : Int32))).2.1 ?_
    show Steps p.tables e below (T1.setTop (mkF m 13 #[.val (.ref a1), .val (.int p2), .val (.int (3 : Int32)), .val (.int (1 : Int32)), .val (.int (-1 : Int32)), .val (.ref ad1), .val (.int (0 : Int32))] [])) _
    refine XS.iconst X1.here hx rfl (hb hby d6_13) ?_
    refine XS.iloadN X1.here hx rfl (hb hby d6_14) rfl ?_
    show Steps p.tables e below (T1.setTop (mkF m 15 #[.val (.ref a1), .val (.int p2), .val (.int (3 : Int32)), .val (.int (1 : Int32)), .val (.int (-1 : Int32)), .val (.ref ad1), .val (.int (0 : Int32))] [(.int (1 : Int32)), (.int (2 : Int32))])) _
    refine XS.icmpNo X1.here hx rfl (hb hby d6_15) rfl (feq (by decide : ¬ ((2 : Int32) = (1 : Int32)))).1 ?_
    show Steps p.tables e below (T1.setTop (mkF m 18 #[.val (.ref a1), .val (.int p2), .val (.int (3 : Int32)), .val (.int (1 : Int32)), .val (.int (-1 : Int32)), .val (.ref ad1), .val (.int (0 : Int32))] [])) _
    refine XS.iconst X1.here hx rfl (hb hby d6_18) ?_
    refine XS.iload X1.here hx rfl (hb hby d6_19) rfl ?_
    show Steps p.tables e below (T1.setTop (mkF m 21 #[.val (.ref a1), .val (.int p2), .val (.int (3 : Int32)), .val (.int (1 : Int32)), .val (.int (-1 : Int32)), .val (.ref ad1), .val (.int (0 : Int32))] [(.int (-1 : Int32)), (.int (2 : Int32))])) _
    refine XS.icmpNo X1.here hx rfl (hb hby d6_21) rfl (feq (by decide : ¬ ((2 : Int32) = (-1 : Int32)))).1 ?_
    show Steps p.tables e below (T1.setTop (mkF m 24 #[.val (.ref a1), .val (.int p2), .val (.int (3 : Int32)), .val (.int (1 : Int32)), .val (.int (-1 : Int32)), .val (.ref ad1), .val (.int (0 : Int32))] [])) _
    refine XS.aload X1.here hx rfl (hb hby d6_24) rfl rfl ?_
    refine XS.iload X1.here hx rfl (hb hby d6_26) rfl ?_
    refine XS.iconst X1.here hx rfl (hb hby d6_28) ?_
    show Steps p.tables e below (T1.setTop (mkF m 29 #[.val (.ref a1), .val (.int p2), .val (.int (3 : Int32)), .val (.int (1 : Int32)), .val (.int (-1 : Int32)), .val (.ref ad1), .val (.int (0 : Int32))] [(.int (2 : Int32)), (.int (0 : Int32)), (.ref ad1)])) _
    refine st2 _ ?_
    show Steps p.tables e below (T2.setTop (mkF m 30 #[.val (.ref a1), .val (.int p2), .val (.int (3 : Int32)), .val (.int (1 : Int32)), .val (.int (-1 : Int32)), .val (.ref ad1), .val (.int (0 : Int32))] [])) _
    refine XS.iinc X2.here hx rfl (hb hby d6_30) rfl (l' := #[.val (.ref a1), .val (.int p2), .val (.int (3 : Int32)), .val (.int (1 : Int32)), .val (.int (-1 : Int32)), .val (.ref ad1), .val (.int (1 : Int32))]) rfl ?_
    show Steps p.tables e below (T2.setTop (mkF m 33 #[.val (.ref a1), .val (.int p2), .val (.int (3 : Int32)), .val (.int (1 : Int32)), .val (.int (-1 : Int32)), .val (.ref ad1), .val (.int (1 : Int32))] [])) _
    refine XS.iconst X2.here hx rfl (hb hby d6_33) ?_
    refine XS.iloadN X2.here hx rfl (hb hby d6_34) rfl ?_
    show Steps p.tables e below (T2.setTop (mkF m 35 #[.val (.ref a1), .val (.int p2), .val (.int (3 : Int32)), .val (.int (1 : Int32)), .val (.int (-1 : Int32)), .val (.ref ad1), .val (.int (1 : Int32))] [(.int (3 : Int32)), (.int (1 : Int32))])) _
    refine XS.icmpNo X2.here hx rfl (hb hby d6_35) rfl (tlt (by decide : (1 : Int32) < (3 : Int32))).2.1 ?_
    show Steps p.tables e below (T2.setTop (mkF m 38 #[.val (.ref a1), .val (.int p2), .val (.int (3 : Int32)), .val (.int (1 : Int32)), .val (.int (-1 : Int32)), .val (.ref ad1), .val (.int (1 : Int32))] [])) _
    refine XS.iconst X2.here hx rfl (hb hby d6_38) ?_
    refine XS.iloadN X2.here hx rfl (hb hby d6_39) rfl ?_
    show Steps p.tables e below (T2.setTop (mkF m 40 #[.val (.ref a1), .val (.int p2), .val (.int (3 : Int32)), .val (.int (1 : Int32)), .val (.int (-1 : Int32)), .val (.ref ad1), .val (.int (1 : Int32))] [(.int (1 : Int32)), (.int (1 : Int32))])) _
    refine XS.icmpYes X2.here hx rfl (pc0 := 40) (pc' := 58) rfl (hb hby d6_40) rfl (teq (by decide : (1 : Int32) = (1 : Int32))).1 (by decide) (by decide) ?_
    show Steps p.tables e below (T2.setTop (mkF m 58 #[.val (.ref a1), .val (.int p2), .val (.int (3 : Int32)), .val (.int (1 : Int32)), .val (.int (-1 : Int32)), .val (.ref ad1), .val (.int (1 : Int32))] [])) _
    refine XS.iconst X2.here hx rfl (hb hby d6_58) ?_
    refine XS.iloadN X2.here hx rfl (hb hby d6_59) rfl ?_
    show Steps p.tables e below (T2.setTop (mkF m 60 #[.val (.ref a1), .val (.int p2), .val (.int (3 : Int32)), .val (.int (1 : Int32)), .val (.int (-1 : Int32)), .val (.ref ad1), .val (.int (1 : Int32))] [(.int (1 : Int32)), (.int (0 : Int32))])) _
    refine XS.icmpNo X2.here hx rfl (hb hby d6_60) rfl (feq (by decide : ¬ ((0 : Int32) = (1 : Int32)))).1 ?_
    show Steps p.tables e below (T2.setTop (mkF m 63 #[.val (.ref a1), .val (.int p2), .val (.int (3 : Int32)), .val (.int (1 : Int32)), .val (.int (-1 : Int32)), .val (.ref ad1), .val (.int (1 : Int32))] [])) _
    refine XS.iconst X2.here hx rfl (hb hby d6_63) ?_
    refine XS.iload X2.here hx rfl (hb hby d6_64) rfl ?_
    show Steps p.tables e below (T2.setTop (mkF m 66 #[.val (.ref a1), .val (.int p2), .val (.int (3 : Int32)), .val (.int (1 : Int32)), .val (.int (-1 : Int32)), .val (.ref ad1), .val (.int (1 : Int32))] [(.int (-1 : Int32)), (.int (0 : Int32))])) _
    refine XS.icmpNo X2.here hx rfl (hb hby d6_66) rfl (feq (by decide : ¬ ((0 : Int32) = (-1 : Int32)))).1 ?_
    show Steps p.tables e below (T2.setTop (mkF m 69 #[.val (.ref a1), .val (.int p2), .val (.int (3 : Int32)), .val (.int (1 : Int32)), .val (.int (-1 : Int32)), .val (.ref ad1), .val (.int (1 : Int32))] [])) _
    refine XS.aload X2.here hx rfl (hb hby d6_69) rfl rfl ?_
    refine XS.iload X2.here hx rfl (hb hby d6_71) rfl ?_
    refine XS.iconst X2.here hx rfl (hb hby d6_73) ?_
    show Steps p.tables e below (T2.setTop (mkF m 74 #[.val (.ref a1), .val (.int p2), .val (.int (3 : Int32)), .val (.int (1 : Int32)), .val (.int (-1 : Int32)), .val (.ref ad1), .val (.int (1 : Int32))] [(.int (0 : Int32)), (.int (1 : Int32)), (.ref ad1)])) _
    refine st3 _ ?_
    show Steps p.tables e below (T3.setTop (mkF m 75 #[.val (.ref a1), .val (.int p2), .val (.int (3 : Int32)), .val (.int (1 : Int32)), .val (.int (-1 : Int32)), .val (.ref ad1), .val (.int (1 : Int32))] [])) _
    refine XS.iinc X3.here hx rfl (hb hby d6_75) rfl (l' := #[.val (.ref a1), .val (.int p2), .val (.int (3 : Int32)), .val (.int (1 : Int32)), .val (.int (-1 : Int32)), .val (.ref ad1), .val (.int (2 : Int32))]) rfl ?_
    show Steps p.tables e below (T3.setTop (mkF m 78 #[.val (.ref a1), .val (.int p2), .val (.int (3 : Int32)), .val (.int (1 : Int32)), .val (.int (-1 : Int32)), .val (.ref ad1), .val (.int (2 : Int32))] [])) _
    refine XS.aloadN X3.here hx rfl (hb hby d6_78) rfl rfl ?_
    refine XS.iloadN X3.here hx rfl (hb hby d6_79) rfl ?_
    show Steps p.tables e below (T3.setTop (mkF m 80 #[.val (.ref a1), .val (.int p2), .val (.int (3 : Int32)), .val (.int (1 : Int32)), .val (.int (-1 : Int32)), .val (.ref ad1), .val (.int (2 : Int32))] [(.int p2), (.ref a1)])) _
    refine st4.trans ?_
    show Steps p.tables e below (T4.setTop (mkF m 83 #[.val (.ref a1), .val (.int p2), .val (.int (3 : Int32)), .val (.int (1 : Int32)), .val (.int (-1 : Int32)), .val (.ref ad1), .val (.int (2 : Int32))] [(.int (fS p2))])) _
    refine XS.iload X4.here hx rfl (hb hby d6_83) rfl ?_
    show Steps p.tables e below (T4.setTop (mkF m 85 #[.val (.ref a1), .val (.int p2), .val (.int (3 : Int32)), .val (.int (1 : Int32)), .val (.int (-1 : Int32)), .val (.ref ad1), .val (.int (2 : Int32))] [(.int (2 : Int32)), (.int (fS p2))])) _
    refine XS.icmpYes X4.here hx rfl (pc0 := 85) (pc' := 90) rfl (hb hby d6_85) rfl (teq hs).1 (by decide) (by decide) ?_
    show Steps p.tables e below (T4.setTop (mkF m 90 #[.val (.ref a1), .val (.int p2), .val (.int (3 : Int32)), .val (.int (1 : Int32)), .val (.int (-1 : Int32)), .val (.ref ad1), .val (.int (2 : Int32))] [])) _
    refine XS.aloadN X4.here hx rfl (hb hby d6_90) rfl rfl ?_
    refine XS.iloadN X4.here hx rfl (hb hby d6_91) rfl ?_
    show Steps p.tables e below (T4.setTop (mkF m 92 #[.val (.ref a1), .val (.int p2), .val (.int (3 : Int32)), .val (.int (1 : Int32)), .val (.int (-1 : Int32)), .val (.ref ad1), .val (.int (2 : Int32))] [(.int p2), (.ref a1)])) _
    refine st5.trans ?_
    show Steps p.tables e below (T5.setTop (mkF m 95 #[.val (.ref a1), .val (.int p2), .val (.int (3 : Int32)), .val (.int (1 : Int32)), .val (.int (-1 : Int32)), .val (.ref ad1), .val (.int (2 : Int32))] [(.int (fH p2))])) _
    refine XS.iload X5.here hx rfl (hb hby d6_95) rfl ?_
    refine XS.iconst X5.here hx rfl (hb hby d6_97) ?_
    show Steps p.tables e below (T5.setTop (mkF m 98 #[.val (.ref a1), .val (.int p2), .val (.int (3 : Int32)), .val (.int (1 : Int32)), .val (.int (-1 : Int32)), .val (.ref ad1), .val (.int (2 : Int32))] [(.int (1 : Int32)), (.int (2 : Int32)), (.int (fH p2))])) _
    refine XS.icmpNo X5.here hx rfl (hb hby d6_98) rfl (flt (by decide : ¬ ((2 : Int32) < (1 : Int32)))).1 ?_
    show Steps p.tables e below (T5.setTop (mkF m 101 #[.val (.ref a1), .val (.int p2), .val (.int (3 : Int32)), .val (.int (1 : Int32)), .val (.int (-1 : Int32)), .val (.ref ad1), .val (.int (2 : Int32))] [(.int (fH p2))])) _
    refine XS.aload X5.here hx rfl (hb hby d6_101) rfl rfl ?_
    refine XS.iconst X5.here hx rfl (hb hby d6_103) ?_
    show Steps p.tables e below (T5.setTop (mkF m 104 #[.val (.ref a1), .val (.int p2), .val (.int (3 : Int32)), .val (.int (1 : Int32)), .val (.int (-1 : Int32)), .val (.ref ad1), .val (.int (2 : Int32))] [(.int (0 : Int32)), (.ref ad1), (.int (fH p2))])) _
    refine own_ld X5 hx hZ e5' A_ad1_3 (by decide) (by decide) (g := (mkF m 104 #[.val (.ref a1), .val (.int p2), .val (.int (3 : Int32)), .val (.int (1 : Int32)), .val (.int (-1 : Int32)), .val (.ref ad1), .val (.int (2 : Int32))] [(.int (0 : Int32)), (.ref ad1), (.int (fH p2))])) rfl rfl (hb hby d6_104) _ ?_
    show Steps p.tables e below (T5.setTop (mkF m 105 #[.val (.ref a1), .val (.int p2), .val (.int (3 : Int32)), .val (.int (1 : Int32)), .val (.int (-1 : Int32)), .val (.ref ad1), .val (.int (2 : Int32))] [(.int (2 : Int32)), (.int (fH p2))])) _
    refine XS.goto X5.here hx rfl (pc0 := 105) (pc' := 109) rfl (hb hby d6_105) (by decide) (by decide) ?_
    show Steps p.tables e below (T5.setTop (mkF m 109 #[.val (.ref a1), .val (.int p2), .val (.int (3 : Int32)), .val (.int (1 : Int32)), .val (.int (-1 : Int32)), .val (.ref ad1), .val (.int (2 : Int32))] [(.int (2 : Int32)), (.int (fH p2))])) _
    refine XS.icmpYes X5.here hx rfl (pc0 := 109) (pc' := 114) rfl (hb hby d6_109) rfl (teq hf).1 (by decide) (by decide) ?_
    show Steps p.tables e below (T5.setTop (mkF m 114 #[.val (.ref a1), .val (.int p2), .val (.int (3 : Int32)), .val (.int (1 : Int32)), .val (.int (-1 : Int32)), .val (.ref ad1), .val (.int (2 : Int32))] [])) _
    refine XS.iload X5.here hx rfl (hb hby d6_114) rfl ?_
    refine XS.iconst X5.here hx rfl (hb hby d6_116) ?_
    show Steps p.tables e below (T5.setTop (mkF m 117 #[.val (.ref a1), .val (.int p2), .val (.int (3 : Int32)), .val (.int (1 : Int32)), .val (.int (-1 : Int32)), .val (.ref ad1), .val (.int (2 : Int32))] [(.int (1 : Int32)), (.int (2 : Int32))])) _
    refine XS.icmpNo X5.here hx rfl (hb hby d6_117) rfl (flt (by decide : ¬ ((2 : Int32) < (1 : Int32)))).1 ?_
    show Steps p.tables e below (T5.setTop (mkF m 120 #[.val (.ref a1), .val (.int p2), .val (.int (3 : Int32)), .val (.int (1 : Int32)), .val (.int (-1 : Int32)), .val (.ref ad1), .val (.int (2 : Int32))] [])) _
    refine XS.aloadN X5.here hx rfl (hb hby d6_120) rfl rfl ?_
    refine XS.aload X5.here hx rfl (hb hby d6_121) rfl rfl ?_
    refine XS.iconst X5.here hx rfl (hb hby d6_123) ?_
    show Steps p.tables e below (T5.setTop (mkF m 124 #[.val (.ref a1), .val (.int p2), .val (.int (3 : Int32)), .val (.int (1 : Int32)), .val (.int (-1 : Int32)), .val (.ref ad1), .val (.int (2 : Int32))] [(.int (0 : Int32)), (.ref ad1), (.ref a1)])) _
    refine own_ld X5 hx hZ e5' A_ad1_3 (by decide) (by decide) (g := (mkF m 124 #[.val (.ref a1), .val (.int p2), .val (.int (3 : Int32)), .val (.int (1 : Int32)), .val (.int (-1 : Int32)), .val (.ref ad1), .val (.int (2 : Int32))] [(.int (0 : Int32)), (.ref ad1), (.ref a1)])) rfl rfl (hb hby d6_124) _ ?_
    show Steps p.tables e below (T5.setTop (mkF m 125 #[.val (.ref a1), .val (.int p2), .val (.int (3 : Int32)), .val (.int (1 : Int32)), .val (.int (-1 : Int32)), .val (.ref ad1), .val (.int (2 : Int32))] [(.int (2 : Int32)), (.ref a1)])) _
    refine st6.trans ?_
    show Steps p.tables e below (T6.setTop (mkF m 128 #[.val (.ref a1), .val (.int p2), .val (.int (3 : Int32)), .val (.int (1 : Int32)), .val (.int (-1 : Int32)), .val (.ref ad1), .val (.int (2 : Int32))] [(.int (fN (2 : Int32)))])) _
    refine XS.iload X6.here hx rfl (hb hby d6_128) rfl ?_
    refine XS.iconst X6.here hx rfl (hb hby d6_130) ?_
    show Steps p.tables e below (T6.setTop (mkF m 131 #[.val (.ref a1), .val (.int p2), .val (.int (3 : Int32)), .val (.int (1 : Int32)), .val (.int (-1 : Int32)), .val (.ref ad1), .val (.int (2 : Int32))] [(.int (2 : Int32)), (.int (2 : Int32)), (.int (fN (2 : Int32)))])) _
    refine XS.icmpNo X6.here hx rfl (hb hby d6_131) rfl (flt (by decide : ¬ ((2 : Int32) < (2 : Int32)))).1 ?_
    show Steps p.tables e below (T6.setTop (mkF m 134 #[.val (.ref a1), .val (.int p2), .val (.int (3 : Int32)), .val (.int (1 : Int32)), .val (.int (-1 : Int32)), .val (.ref ad1), .val (.int (2 : Int32))] [(.int (fN (2 : Int32)))])) _
    refine XS.aload X6.here hx rfl (hb hby d6_134) rfl rfl ?_
    refine XS.iconst X6.here hx rfl (hb hby d6_136) ?_
    show Steps p.tables e below (T6.setTop (mkF m 137 #[.val (.ref a1), .val (.int p2), .val (.int (3 : Int32)), .val (.int (1 : Int32)), .val (.int (-1 : Int32)), .val (.ref ad1), .val (.int (2 : Int32))] [(.int (1 : Int32)), (.ref ad1), (.int (fN (2 : Int32)))])) _
    refine own_ld X6 hx hZ e6' A_ad1_3 (by decide) (by decide) (g := (mkF m 137 #[.val (.ref a1), .val (.int p2), .val (.int (3 : Int32)), .val (.int (1 : Int32)), .val (.int (-1 : Int32)), .val (.ref ad1), .val (.int (2 : Int32))] [(.int (1 : Int32)), (.ref ad1), (.int (fN (2 : Int32)))])) rfl rfl (hb hby d6_137) _ ?_
    show Steps p.tables e below (T6.setTop (mkF m 138 #[.val (.ref a1), .val (.int p2), .val (.int (3 : Int32)), .val (.int (1 : Int32)), .val (.int (-1 : Int32)), .val (.ref ad1), .val (.int (2 : Int32))] [(.int (0 : Int32)), (.int (fN (2 : Int32)))])) _
    refine XS.goto X6.here hx rfl (pc0 := 138) (pc' := 142) rfl (hb hby d6_138) (by decide) (by decide) ?_
    show Steps p.tables e below (T6.setTop (mkF m 142 #[.val (.ref a1), .val (.int p2), .val (.int (3 : Int32)), .val (.int (1 : Int32)), .val (.int (-1 : Int32)), .val (.ref ad1), .val (.int (2 : Int32))] [(.int (0 : Int32)), (.int (fN (2 : Int32)))])) _
    refine XS.icmpYes X6.here hx rfl (pc0 := 142) (pc' := 147) rfl (hb hby d6_142) rfl (teq hn0).1 (by decide) (by decide) ?_
    show Steps p.tables e below (T6.setTop (mkF m 147 #[.val (.ref a1), .val (.int p2), .val (.int (3 : Int32)), .val (.int (1 : Int32)), .val (.int (-1 : Int32)), .val (.ref ad1), .val (.int (2 : Int32))] [])) _
    refine XS.iload X6.here hx rfl (hb hby d6_147) rfl ?_
    refine XS.iconst X6.here hx rfl (hb hby d6_149) ?_
    show Steps p.tables e below (T6.setTop (mkF m 150 #[.val (.ref a1), .val (.int p2), .val (.int (3 : Int32)), .val (.int (1 : Int32)), .val (.int (-1 : Int32)), .val (.ref ad1), .val (.int (2 : Int32))] [(.int (2 : Int32)), (.int (2 : Int32))])) _
    refine XS.icmpNo X6.here hx rfl (hb hby d6_150) rfl (flt (by decide : ¬ ((2 : Int32) < (2 : Int32)))).1 ?_
    show Steps p.tables e below (T6.setTop (mkF m 153 #[.val (.ref a1), .val (.int p2), .val (.int (3 : Int32)), .val (.int (1 : Int32)), .val (.int (-1 : Int32)), .val (.ref ad1), .val (.int (2 : Int32))] [])) _
    refine XS.aloadN X6.here hx rfl (hb hby d6_153) rfl rfl ?_
    refine XS.aload X6.here hx rfl (hb hby d6_154) rfl rfl ?_
    refine XS.iconst X6.here hx rfl (hb hby d6_156) ?_
    show Steps p.tables e below (T6.setTop (mkF m 157 #[.val (.ref a1), .val (.int p2), .val (.int (3 : Int32)), .val (.int (1 : Int32)), .val (.int (-1 : Int32)), .val (.ref ad1), .val (.int (2 : Int32))] [(.int (1 : Int32)), (.ref ad1), (.ref a1)])) _
    refine own_ld X6 hx hZ e6' A_ad1_3 (by decide) (by decide) (g := (mkF m 157 #[.val (.ref a1), .val (.int p2), .val (.int (3 : Int32)), .val (.int (1 : Int32)), .val (.int (-1 : Int32)), .val (.ref ad1), .val (.int (2 : Int32))] [(.int (1 : Int32)), (.ref ad1), (.ref a1)])) rfl rfl (hb hby d6_157) _ ?_
    show Steps p.tables e below (T6.setTop (mkF m 158 #[.val (.ref a1), .val (.int p2), .val (.int (3 : Int32)), .val (.int (1 : Int32)), .val (.int (-1 : Int32)), .val (.ref ad1), .val (.int (2 : Int32))] [(.int (0 : Int32)), (.ref a1)])) _
    refine st7.trans ?_
    show Steps p.tables e below (T7.setTop (mkF m 161 #[.val (.ref a1), .val (.int p2), .val (.int (3 : Int32)), .val (.int (1 : Int32)), .val (.int (-1 : Int32)), .val (.ref ad1), .val (.int (2 : Int32))] [(.int (fN (0 : Int32)))])) _
    refine XS.iload X7.here hx rfl (hb hby d6_161) rfl ?_
    refine XS.iconst X7.here hx rfl (hb hby d6_163) ?_
    show Steps p.tables e below (T7.setTop (mkF m 164 #[.val (.ref a1), .val (.int p2), .val (.int (3 : Int32)), .val (.int (1 : Int32)), .val (.int (-1 : Int32)), .val (.ref ad1), .val (.int (2 : Int32))] [(.int (3 : Int32)), (.int (2 : Int32)), (.int (fN (0 : Int32)))])) _
    refine XS.icmpYes X7.here hx rfl (pc0 := 164) (pc' := 174) rfl (hb hby d6_164) rfl (tlt (by decide : (2 : Int32) < (3 : Int32))).1 (by decide) (by decide) ?_
    show Steps p.tables e below (T7.setTop (mkF m 174 #[.val (.ref a1), .val (.int p2), .val (.int (3 : Int32)), .val (.int (1 : Int32)), .val (.int (-1 : Int32)), .val (.ref ad1), .val (.int (2 : Int32))] [(.int (fN (0 : Int32)))])) _
    refine XS.iconst X7.here hx rfl (hb hby d6_174) ?_
    show Steps p.tables e below (T7.setTop (mkF m 175 #[.val (.ref a1), .val (.int p2), .val (.int (3 : Int32)), .val (.int (1 : Int32)), .val (.int (-1 : Int32)), .val (.ref ad1), .val (.int (2 : Int32))] [(.int (-1 : Int32)), (.int (fN (0 : Int32)))])) _
    refine XS.icmpYes X7.here hx rfl (pc0 := 175) (pc' := 180) rfl (hb hby d6_175) rfl (teq hn1).1 (by decide) (by decide) ?_
    show Steps p.tables e below (T7.setTop (mkF m 180 #[.val (.ref a1), .val (.int p2), .val (.int (3 : Int32)), .val (.int (1 : Int32)), .val (.int (-1 : Int32)), .val (.ref ad1), .val (.int (2 : Int32))] [])) _
    refine XS.iload X7.here hx rfl (hb hby d6_180) rfl ?_
    refine XS.iconst X7.here hx rfl (hb hby d6_182) ?_
    show Steps p.tables e below (T7.setTop (mkF m 183 #[.val (.ref a1), .val (.int p2), .val (.int (3 : Int32)), .val (.int (1 : Int32)), .val (.int (-1 : Int32)), .val (.ref ad1), .val (.int (2 : Int32))] [(.int (3 : Int32)), (.int (2 : Int32))])) _
    refine XS.icmpYes X7.here hx rfl (pc0 := 183) (pc' := 200) rfl (hb hby d6_183) rfl (tlt (by decide : (2 : Int32) < (3 : Int32))).1 (by decide) (by decide) ?_
    show Steps p.tables e below (T7.setTop (mkF m 200 #[.val (.ref a1), .val (.int p2), .val (.int (3 : Int32)), .val (.int (1 : Int32)), .val (.int (-1 : Int32)), .val (.ref ad1), .val (.int (2 : Int32))] [])) _
    refine XS.iconst X7.here hx rfl (hb hby d6_200) ?_
    show Steps p.tables e below (T7.setTop (mkF m 201 #[.val (.ref a1), .val (.int p2), .val (.int (3 : Int32)), .val (.int (1 : Int32)), .val (.int (-1 : Int32)), .val (.ref ad1), .val (.int (2 : Int32))] [(.int (1 : Int32))])) _
    exact retN X7 hx (t := .boolean) Bd.returns (by simp) (hb hby d6_201) hr
  · show Q6_3_1_m1 Z a1 p2 b1 b2 b3 b4 fH fS fN fP h0 n0 _ T7.heap _
    rw [e7']
    exact ⟨rfl, N7, K3⟩
theorem ef_6_3_2_m1 (m : MethodId) (a1 : Addr) (p2 : Int32) : entryFrame m #[(.ref a1), (.int p2), (.int (3 : Int32)), (.int (2 : Int32)), (.int (-1 : Int32))] 7 = mkF m 0 #[.val (.ref a1), .val (.int p2), .val (.int (3 : Int32)), .val (.int (2 : Int32)), .val (.int (-1 : Int32)), .unset, .unset] [] := by first | (simp [entryFrame, mkF, argsToLocals, Value.category]; done) | rfl
def Q6_3_2_m1 (Z : State) (a1 : Addr) (p2 : Int32) (b1 b2 b3 b4 : Addr) (fH fS fN fP : Int32 → Int32) (h0 : Heap) (n0 : Nat) (v : Option Value) (h : Heap) (L : List Loc) : Prop := v = some (.int (1 : Int32)) ∧ Fr n0 L ∧ Keep h0 h []
set_option maxRecDepth 65536 in
set_option maxHeartbeats 40000000 in
theorem rm6_3_2_m1 (l : Launch) (Z : State) (a0 : Array Value) (hw : ∀ d ∈ tables_1, d.before a0 Z = true) (ws : List Jvm.Cond) (a1 : Addr) (p2 : Int32) (b1 b2 b3 b4 : Addr) (fH fS fN fP : Int32 → Int32) (h0 : Heap) (n0 : Nat) (Z0 : n0 ≤ h0.size) (V0 : own_L Z n0 h0 a1 b1 b2 b3 b4 fH fS fN fP) (l0 : ¬ p2 < 0) (l1 : p2 < (2 : Int32)) (hs : (fS p2) = (2 : Int32)) (hf : (fH p2) = (1 : Int32)) (hn0 : (fN (1 : Int32)) = (0 : Int32)) (hn1 : (fN (0 : Int32)) = (-1 : Int32)) :
    MetFree l (⟨"com/example/process_stepper/processstepper/equivalence/IntListsRemovePinLaw", "matches", "(Lcom/example/process_stepper/processstepper/equivalence/IntLists;IIII)Z"⟩ : MethodName) (head1 (Jvm.Cond.code (⟨"com/example/process_stepper/processstepper/equivalence/IntListsRemovePinLaw", "matches", "(Lcom/example/process_stepper/processstepper/equivalence/IntLists;IIII)Z"⟩ : MethodName) method_3_code 7 (some .boolean) :: ws) ({ frames := 1, cells := 1, slots := 3, locals := 14 } : Room)) (fun a U => a = #[(.ref a1), (.int p2), (.int (3 : Int32)), (.int (2 : Int32)), (.int (-1 : Int32))] ∧ Z.Warmed39 U.vm ∧ U.heap = h0) (fun _ _ _ _ _ => True) (fun _ U o U' => ∃ v L, o = .returned v ∧ Q6_3_2_m1 Z a1 p2 b1 b2 b3 b4 fH fS fN fP h0 n0 v U'.heap L ∧ FrameEnd U o U' L ({ frames := 1, cells := 1, slots := 3, locals := 14 } : Room).cells ({ frames := 1, cells := 1, slots := 3, locals := 14 } : Room).slots) := by
  refine MetFree.of_bodySF (plainFor_of_name pn_6) hisR ?_
  intro p e s m args below meth c s₁ Bd hml0 hP hK
  obtain ⟨rfl, hZ, hh⟩ := hP
  have hx := Bd.exec
  have hby := Bd.bytes
  have hml : c.maxLocals = 7 := hml0
  have hown : s.vm.findClass "com/example/process_stepper/processstepper/equivalence/IntListsRemovePinLaw" = some m.cls := findClass_of_methodNamed Bd.named
  have hnm := (name_of_methodNamed Bd.named Bd.method).1
  have X0 : Stand p l e ({ frames := 1, cells := 1, slots := 3, locals := 14 } : Room) s m #[(.ref a1), (.int p2), (.int (3 : Int32)), (.int (2 : Int32)), (.int (-1 : Int32))] below meth c s₁ [] 0 0 := Stand.of_body Bd
  have e0 : s₁.heap = h0 := by rw [← hh, Bd.state]; rfl
  have N0 := Fr.nil n0
  have pre0 : ∀ t, Steps p.tables e below (s₁.setTop (mkF m 0 #[.val (.ref a1), .val (.int p2), .val (.int (3 : Int32)), .val (.int (2 : Int32)), .val (.int (-1 : Int32)), .unset, .unset] [])) t → Steps p.tables e below (s₁.setTop (entryFrame m #[(.ref a1), (.int p2), (.int (3 : Int32)), (.int (2 : Int32)), (.int (-1 : Int32))] 7)) t := fun t k => castTop (ef_6_3_2_m1 m a1 p2) k
  obtain ⟨T1, h1, k1, X1, e1, E1, A1, st1⟩ := newP X0 hx hZ (own_w hw 10 rfl) e0 (g := (mkF m 1 #[.val (.ref a1), .val (.int p2), .val (.int (3 : Int32)), .val (.int (2 : Int32)), .val (.int (-1 : Int32)), .unset, .unset] [(.int (3 : Int32))])) rfl (hb hby d6_1) rfl (by decide) (cap := 3) (by decide) (by decide) (by decide) (by decide)
  obtain ⟨ad1, g1⟩ : ∃ z, z = h0.size := ⟨_, rfl⟩
  rw [← g1] at A1 st1
  have lt_a1_ad1 : a1 < ad1 := Nat.lt_of_lt_of_eq (own_L_lta V0) g1.symm
  have lt_b4_ad1 : b4 < ad1 := Nat.lt_of_lt_of_eq (own_L_lt V0) g1.symm
  have gn_ad1 : n0 ≤ ad1 := Nat.le_trans Z0 (Nat.le_of_eq g1.symm)
  have sz_ad1 : h0.size ≤ ad1 := Nat.le_trans (Keep.refl h0 []).1 (Nat.le_of_eq g1.symm)
  have V_a1_1 : own_L Z n0 h1 a1 b1 b2 b3 b4 fH fS fN fP := own_L_ext V0 E1
  have A_ad1_1 : own_arr Z h1 ad1 (3 : Int32) own_zero := own_arr_new A1 (by decide)
  have K1 : Keep h0 h1 [] := (Keep.refl h0 []).ext E1
  have Zs1 : n0 ≤ h1.size := Nat.le_trans Z0 E1.1
  obtain ⟨T2, h2, X2, e2, W2, st2⟩ := own_st X1 hx hZ e1 A_ad1_1 (by decide) (by decide) (g := (mkF m 54 #[.val (.ref a1), .val (.int p2), .val (.int (3 : Int32)), .val (.int (2 : Int32)), .val (.int (-1 : Int32)), .val (.ref ad1), .val (.int (0 : Int32))] [(.int (1 : Int32)), (.int (0 : Int32)), (.ref ad1)])) rfl rfl (hb hby d6_54)
  have V_a1_2 : own_L Z n0 h2 a1 b1 b2 b3 b4 fH fS fN fP := own_L_out V_a1_1 W2 lt_b4_ad1
  have A_ad1_2 : own_arr Z h2 ad1 (3 : Int32) (own_upd own_zero (0 : Int32) (1 : Int32)) := own_arr_same A_ad1_1 W2 (by decide) (by decide)
  have K2 : Keep h0 h2 [] := K1.wr W2 (Or.inr sz_ad1)
  have N2 := Fr.snoc X2 N0 gn_ad1
  have Zs2 : n0 ≤ h2.size := by rw [W2.size]; exact Zs1
  obtain ⟨T3, h3, X3, e3, W3, st3⟩ := own_st X2 hx hZ e2 A_ad1_2 (by decide) (by decide) (g := (mkF m 74 #[.val (.ref a1), .val (.int p2), .val (.int (3 : Int32)), .val (.int (2 : Int32)), .val (.int (-1 : Int32)), .val (.ref ad1), .val (.int (1 : Int32))] [(.int (0 : Int32)), (.int (1 : Int32)), (.ref ad1)])) rfl rfl (hb hby d6_74)
  have V_a1_3 : own_L Z n0 h3 a1 b1 b2 b3 b4 fH fS fN fP := own_L_out V_a1_2 W3 lt_b4_ad1
  have A_ad1_3 : own_arr Z h3 ad1 (3 : Int32) (own_upd (own_upd own_zero (0 : Int32) (1 : Int32)) (1 : Int32) (0 : Int32)) := own_arr_same A_ad1_2 W3 (by decide) (by decide)
  have K3 : Keep h0 h3 [] := K2.wr W3 (Or.inr sz_ad1)
  have N3 := Fr.snoc X3 N2 gn_ad1
  have Zs3 : n0 ≤ h3.size := by rw [W3.size]; exact Zs2
  obtain ⟨cq4, kq4, q4a, q4b, q4c⟩ := isOf hZ e3 (V_a1_3.1)
  obtain ⟨_, _, ⟨T4, L4, k4, n4⟩, -, X4, ⟨Lc4, hQ4, l4, y4, z4⟩, st4⟩ := X3.virtualBack hx (y := own_m2) (z := own_m2) hown (mvT hZ (own_w hw 37 rfl)) (mvT hZ (own_w hw 38 rfl)) (notFace_of_selects (args := #[]) (mvT hZ (own_w hw 40 rfl))) (mvT hZ (own_w hw 40 rfl)) (mvT hZ (own_w hw 39 rfl)) (by decide) (backOf (W := 0) (rm7 l Z a0 hw [] a1 p2 b1 b2 b3 b4 fH fS fN fP h3 n0 Zs3 V_a1_3 l0 l1) hZ (own_w hw 41 rfl) (own_w hw 3 rfl) (by decide) (by decide)) q4a q4c (g := (mkF m 80 #[.val (.ref a1), .val (.int p2), .val (.int (3 : Int32)), .val (.int (2 : Int32)), .val (.int (-1 : Int32)), .val (.ref ad1), .val (.int (2 : Int32))] [(.int p2), (.ref a1)])) rfl (by rw [hml]; rfl) (Steps.refl _) (argsL := [(.int p2)]) (rest := []) (lenOf pd__I_I rfl) rfl (by show 2 * 0 + _ ≤ _; exact Nat.le_of_eq rfl) (hb hby d6_80) (fun _ _ => ⟨rfl, e3, (by decide : 1 + 0 ≤ _), (by decide : 3 + 0 ≤ _)⟩)
  dsimp only [Pt.U, Pt.locs, Pt.cells, Pt.slots] at X4 l4 y4 z4 st4 hQ4
  subst l4 y4 z4
  obtain ⟨rfl, N4q, q4⟩ := hQ4
  have N4 := Fr.app N3 N4q
  have e4' : T4.heap = h3 := q4
  obtain ⟨cq5, kq5, q5a, q5b, q5c⟩ := isOf hZ e4' (V_a1_3.1)
  obtain ⟨_, _, ⟨T5, L5, k5, n5⟩, -, X5, ⟨Lc5, hQ5, l5, y5, z5⟩, st5⟩ := X4.virtualBack hx (y := own_m3) (z := own_m3) hown (mvT hZ (own_w hw 42 rfl)) (mvT hZ (own_w hw 43 rfl)) (notFace_of_selects (args := #[]) (mvT hZ (own_w hw 45 rfl))) (mvT hZ (own_w hw 45 rfl)) (mvT hZ (own_w hw 44 rfl)) (by decide) (backOf (W := 0) (rm8 l Z a0 hw [] a1 p2 b1 b2 b3 b4 fH fS fN fP h3 n0 Zs3 V_a1_3 l0 l1) hZ (own_w hw 46 rfl) (own_w hw 3 rfl) (by decide) (by decide)) q5a q5c (g := (mkF m 92 #[.val (.ref a1), .val (.int p2), .val (.int (3 : Int32)), .val (.int (2 : Int32)), .val (.int (-1 : Int32)), .val (.ref ad1), .val (.int (2 : Int32))] [(.int p2), (.ref a1)])) rfl (by rw [hml]; rfl) (Steps.refl _) (argsL := [(.int p2)]) (rest := []) (lenOf pd__I_I rfl) rfl (by show 2 * 0 + _ ≤ _; exact Nat.le_of_eq rfl) (hb hby d6_92) (fun _ _ => ⟨rfl, e4', (by decide : 1 + 0 ≤ _), (by decide : 3 + 0 ≤ _)⟩)
  dsimp only [Pt.U, Pt.locs, Pt.cells, Pt.slots] at X5 l5 y5 z5 st5 hQ5
  subst l5 y5 z5
  obtain ⟨rfl, N5q, q5⟩ := hQ5
  have N5 := Fr.app N4 N5q
  have e5' : T5.heap = h3 := q5
  obtain ⟨cq6, kq6, q6a, q6b, q6c⟩ := isOf hZ e5' (V_a1_3.1)
  obtain ⟨_, _, ⟨T6, L6, k6, n6⟩, -, X6, ⟨Lc6, hQ6, l6, y6, z6⟩, st6⟩ := X5.virtualBack hx (y := own_m4) (z := own_m4) hown (mvT hZ (own_w hw 47 rfl)) (mvT hZ (own_w hw 48 rfl)) (notFace_of_selects (args := #[]) (mvT hZ (own_w hw 50 rfl))) (mvT hZ (own_w hw 50 rfl)) (mvT hZ (own_w hw 49 rfl)) (by decide) (backOf (W := 0) (rm9 l Z a0 hw [] a1 (1 : Int32) b1 b2 b3 b4 fH fS fN fP h3 n0 Zs3 V_a1_3 (by decide) (by decide)) hZ (own_w hw 51 rfl) (own_w hw 3 rfl) (by decide) (by decide)) q6a q6c (g := (mkF m 125 #[.val (.ref a1), .val (.int p2), .val (.int (3 : Int32)), .val (.int (2 : Int32)), .val (.int (-1 : Int32)), .val (.ref ad1), .val (.int (2 : Int32))] [(.int (1 : Int32)), (.ref a1)])) rfl (by rw [hml]; rfl) (Steps.refl _) (argsL := [(.int (1 : Int32))]) (rest := []) (lenOf pd__I_I rfl) rfl (by show 2 * 0 + _ ≤ _; exact Nat.le_of_eq rfl) (hb hby d6_125) (fun _ _ => ⟨rfl, e5', (by decide : 1 + 0 ≤ _), (by decide : 3 + 0 ≤ _)⟩)
  dsimp only [Pt.U, Pt.locs, Pt.cells, Pt.slots] at X6 l6 y6 z6 st6 hQ6
  subst l6 y6 z6
  obtain ⟨rfl, N6q, q6⟩ := hQ6
  have N6 := Fr.app N5 N6q
  have e6' : T6.heap = h3 := q6
  obtain ⟨cq7, kq7, q7a, q7b, q7c⟩ := isOf hZ e6' (V_a1_3.1)
  obtain ⟨_, _, ⟨T7, L7, k7, n7⟩, -, X7, ⟨Lc7, hQ7, l7, y7, z7⟩, st7⟩ := X6.virtualBack hx (y := own_m4) (z := own_m4) hown (mvT hZ (own_w hw 47 rfl)) (mvT hZ (own_w hw 48 rfl)) (notFace_of_selects (args := #[]) (mvT hZ (own_w hw 50 rfl))) (mvT hZ (own_w hw 50 rfl)) (mvT hZ (own_w hw 49 rfl)) (by decide) (backOf (W := 0) (rm9 l Z a0 hw [] a1 (0 : Int32) b1 b2 b3 b4 fH fS fN fP h3 n0 Zs3 V_a1_3 (by decide) (by decide)) hZ (own_w hw 51 rfl) (own_w hw 3 rfl) (by decide) (by decide)) q7a q7c (g := (mkF m 158 #[.val (.ref a1), .val (.int p2), .val (.int (3 : Int32)), .val (.int (2 : Int32)), .val (.int (-1 : Int32)), .val (.ref ad1), .val (.int (2 : Int32))] [(.int (0 : Int32)), (.ref a1)])) rfl (by rw [hml]; rfl) (Steps.refl _) (argsL := [(.int (0 : Int32))]) (rest := []) (lenOf pd__I_I rfl) rfl (by show 2 * 0 + _ ≤ _; exact Nat.le_of_eq rfl) (hb hby d6_158) (fun _ _ => ⟨rfl, e6', (by decide : 1 + 0 ≤ _), (by decide : 3 + 0 ≤ _)⟩)
  dsimp only [Pt.U, Pt.locs, Pt.cells, Pt.slots] at X7 l7 y7 z7 st7 hQ7
  subst l7 y7 z7
  obtain ⟨rfl, N7q, q7⟩ := hQ7
  have N7 := Fr.app N6 N7q
  have e7' : T7.heap = h3 := q7
  obtain ⟨fs, hr, hrun, hended, hW, hsame⟩ := X7.leave (v := some (.int (1 : Int32))) (fun h => by rw [Bd.returns] at h; cases h)
  refine ⟨_, _, pre0 _ ?_, hrun, hended, _, _, rfl, ?_, ⟨_, rfl⟩, hW, hsame.mono (by decide) (by decide)⟩
  · show Steps p.tables e below (s₁.setTop (mkF m 0 #[.val (.ref a1), .val (.int p2), .val (.int (3 : Int32)), .val (.int (2 : Int32)), .val (.int (-1 : Int32)), .unset, .unset] [])) _
    refine XS.iconst X0.here hx rfl (hb hby d6_0) ?_
    show Steps p.tables e below (s₁.setTop (mkF m 1 #[.val (.ref a1), .val (.int p2), .val (.int (3 : Int32)), .val (.int (2 : Int32)), .val (.int (-1 : Int32)), .unset, .unset] [(.int (3 : Int32))])) _
    refine st1 _ ?_
    show Steps p.tables e below (T1.setTop (mkF m 3 #[.val (.ref a1), .val (.int p2), .val (.int (3 : Int32)), .val (.int (2 : Int32)), .val (.int (-1 : Int32)), .unset, .unset] [(.ref ad1)])) _
    refine XS.astore X1.here hx rfl (hb hby d6_3) rfl rfl (l' := #[.val (.ref a1), .val (.int p2), .val (.int (3 : Int32)), .val (.int (2 : Int32)), .val (.int (-1 : Int32)), .val (.ref ad1), .unset]) rfl ?_
    refine XS.iconst X1.here hx rfl (hb hby d6_5) ?_
    refine XS.istore X1.here hx rfl (hb hby d6_6) rfl (l' := #[.val (.ref a1), .val (.int p2), .val (.int (3 : Int32)), .val (.int (2 : Int32)), .val (.int (-1 : Int32)), .val (.ref ad1), .val (.int (0 : Int32))]) rfl ?_
    refine XS.iconst X1.here hx rfl (hb hby d6_8) ?_
    refine XS.iloadN X1.here hx rfl (hb hby d6_9) rfl ?_
    show Steps p.tables e below (T1.setTop (mkF m 10 #[.val (.ref a1), .val (.int p2), .val (.int (3 : Int32)), .val (.int (2 : Int32)), .val (.int (-1 : Int32)), .val (.ref ad1), .val (.int (0 : Int32))] [(.int (3 : Int32)), (.int (2 : Int32))])) _
    refine XS.icmpNo X1.here hx rfl (hb hby d6_10) rfl (tlt (by decide : (2 : Int32) < (3 : Int32))).2.1 ?_
    show Steps p.tables e below (T1.setTop (mkF m 13 #[.val (.ref a1), .val (.int p2), .val (.int (3 : Int32)), .val (.int (2 : Int32)), .val (.int (-1 : Int32)), .val (.ref ad1), .val (.int (0 : Int32))] [])) _
    refine XS.iconst X1.here hx rfl (hb hby d6_13) ?_
    refine XS.iloadN X1.here hx rfl (hb hby d6_14) rfl ?_
    show Steps p.tables e below (T1.setTop (mkF m 15 #[.val (.ref a1), .val (.int p2), .val (.int (3 : Int32)), .val (.int (2 : Int32)), .val (.int (-1 : Int32)), .val (.ref ad1), .val (.int (0 : Int32))] [(.int (2 : Int32)), (.int (2 : Int32))])) _
    refine XS.icmpYes X1.here hx rfl (pc0 := 15) (pc' := 33) rfl (hb hby d6_15) rfl (teq (by decide : (2 : Int32) = (2 : Int32))).1 (by decide) (by decide) ?_
    show Steps p.tables e below (T1.setTop (mkF m 33 #[.val (.ref a1), .val (.int p2), .val (.int (3 : Int32)), .val (.int (2 : Int32)), .val (.int (-1 : Int32)), .val (.ref ad1), .val (.int (0 : Int32))] [])) _
    refine XS.iconst X1.here hx rfl (hb hby d6_33) ?_
    refine XS.iloadN X1.here hx rfl (hb hby d6_34) rfl ?_
    show Steps p.tables e below (T1.setTop (mkF m 35 #[.val (.ref a1), .val (.int p2), .val (.int (3 : Int32)), .val (.int (2 : Int32)), .val (.int (-1 : Int32)), .val (.ref ad1), .val (.int (0 : Int32))] [(.int (3 : Int32)), (.int (1 : Int32))])) _
    refine XS.icmpNo X1.here hx rfl (hb hby d6_35) rfl (tlt (by decide : (1 : Int32) < (3 : Int32))).2.1 ?_
    show Steps p.tables e below (T1.setTop (mkF m 38 #[.val (.ref a1), .val (.int p2), .val (.int (3 : Int32)), .val (.int (2 : Int32)), .val (.int (-1 : Int32)), .val (.ref ad1), .val (.int (0 : Int32))] [])) _
    refine XS.iconst X1.here hx rfl (hb hby d6_38) ?_
    refine XS.iloadN X1.here hx rfl (hb hby d6_39) rfl ?_
    show Steps p.tables e below (T1.setTop (mkF m 40 #[.val (.ref a1), .val (.int p2), .val (.int (3 : Int32)), .val (.int (2 : Int32)), .val (.int (-1 : Int32)), .val (.ref ad1), .val (.int (0 : Int32))] [(.int (2 : Int32)), (.int (1 : Int32))])) _
    refine XS.icmpNo X1.here hx rfl (hb hby d6_40) rfl (feq (by decide : ¬ ((1 : Int32) = (2 : Int32)))).1 ?_
    show Steps p.tables e below (T1.setTop (mkF m 43 #[.val (.ref a1), .val (.int p2), .val (.int (3 : Int32)), .val (.int (2 : Int32)), .val (.int (-1 : Int32)), .val (.ref ad1), .val (.int (0 : Int32))] [])) _
    refine XS.iconst X1.here hx rfl (hb hby d6_43) ?_
    refine XS.iload X1.here hx rfl (hb hby d6_44) rfl ?_
    show Steps p.tables e below (T1.setTop (mkF m 46 #[.val (.ref a1), .val (.int p2), .val (.int (3 : Int32)), .val (.int (2 : Int32)), .val (.int (-1 : Int32)), .val (.ref ad1), .val (.int (0 : Int32))] [(.int (-1 : Int32)), (.int (1 : Int32))])) _
    refine XS.icmpNo X1.here hx rfl (hb hby d6_46) rfl (feq (by decide : ¬ ((1 : Int32) = (-1 : Int32)))).1 ?_
    show Steps p.tables e below (T1.setTop (mkF m 49 #[.val (.ref a1), .val (.int p2), .val (.int (3 : Int32)), .val (.int (2 : Int32)), .val (.int (-1 : Int32)), .val (.ref ad1), .val (.int (0 : Int32))] [])) _
    refine XS.aload X1.here hx rfl (hb hby d6_49) rfl rfl ?_
    refine XS.iload X1.here hx rfl (hb hby d6_51) rfl ?_
    refine XS.iconst X1.here hx rfl (hb hby d6_53) ?_
    show Steps p.tables e below (T1.setTop (mkF m 54 #[.val (.ref a1), .val (.int p2), .val (.int (3 : Int32)), .val (.int (2 : Int32)), .val (.int (-1 : Int32)), .val (.ref ad1), .val (.int (0 : Int32))] [(.int (1 : Int32)), (.int (0 : Int32)), (.ref ad1)])) _
    refine st2 _ ?_
    show Steps p.tables e below (T2.setTop (mkF m 55 #[.val (.ref a1), .val (.int p2), .val (.int (3 : Int32)), .val (.int (2 : Int32)), .val (.int (-1 : Int32)), .val (.ref ad1), .val (.int (0 : Int32))] [])) _
    refine XS.iinc X2.here hx rfl (hb hby d6_55) rfl (l' := #[.val (.ref a1), .val (.int p2), .val (.int (3 : Int32)), .val (.int (2 : Int32)), .val (.int (-1 : Int32)), .val (.ref ad1), .val (.int (1 : Int32))]) rfl ?_
    show Steps p.tables e below (T2.setTop (mkF m 58 #[.val (.ref a1), .val (.int p2), .val (.int (3 : Int32)), .val (.int (2 : Int32)), .val (.int (-1 : Int32)), .val (.ref ad1), .val (.int (1 : Int32))] [])) _
    refine XS.iconst X2.here hx rfl (hb hby d6_58) ?_
    refine XS.iloadN X2.here hx rfl (hb hby d6_59) rfl ?_
    show Steps p.tables e below (T2.setTop (mkF m 60 #[.val (.ref a1), .val (.int p2), .val (.int (3 : Int32)), .val (.int (2 : Int32)), .val (.int (-1 : Int32)), .val (.ref ad1), .val (.int (1 : Int32))] [(.int (2 : Int32)), (.int (0 : Int32))])) _
    refine XS.icmpNo X2.here hx rfl (hb hby d6_60) rfl (feq (by decide : ¬ ((0 : Int32) = (2 : Int32)))).1 ?_
    show Steps p.tables e below (T2.setTop (mkF m 63 #[.val (.ref a1), .val (.int p2), .val (.int (3 : Int32)), .val (.int (2 : Int32)), .val (.int (-1 : Int32)), .val (.ref ad1), .val (.int (1 : Int32))] [])) _
    refine XS.iconst X2.here hx rfl (hb hby d6_63) ?_
    refine XS.iload X2.here hx rfl (hb hby d6_64) rfl ?_
    show Steps p.tables e below (T2.setTop (mkF m 66 #[.val (.ref a1), .val (.int p2), .val (.int (3 : Int32)), .val (.int (2 : Int32)), .val (.int (-1 : Int32)), .val (.ref ad1), .val (.int (1 : Int32))] [(.int (-1 : Int32)), (.int (0 : Int32))])) _
    refine XS.icmpNo X2.here hx rfl (hb hby d6_66) rfl (feq (by decide : ¬ ((0 : Int32) = (-1 : Int32)))).1 ?_
    show Steps p.tables e below (T2.setTop (mkF m 69 #[.val (.ref a1), .val (.int p2), .val (.int (3 : Int32)), .val (.int (2 : Int32)), .val (.int (-1 : Int32)), .val (.ref ad1), .val (.int (1 : Int32))] [])) _
    refine XS.aload X2.here hx rfl (hb hby d6_69) rfl rfl ?_
    refine XS.iload X2.here hx rfl (hb hby d6_71) rfl ?_
    refine XS.iconst X2.here hx rfl (hb hby d6_73) ?_
    show Steps p.tables e below (T2.setTop (mkF m 74 #[.val (.ref a1), .val (.int p2), .val (.int (3 : Int32)), .val (.int (2 : Int32)), .val (.int (-1 : Int32)), .val (.ref ad1), .val (.int (1 : Int32))] [(.int (0 : Int32)), (.int (1 : Int32)), (.ref ad1)])) _
    refine st3 _ ?_
    show Steps p.tables e below (T3.setTop (mkF m 75 #[.val (.ref a1), .val (.int p2), .val (.int (3 : Int32)), .val (.int (2 : Int32)), .val (.int (-1 : Int32)), .val (.ref ad1), .val (.int (1 : Int32))] [])) _
    refine XS.iinc X3.here hx rfl (hb hby d6_75) rfl (l' := #[.val (.ref a1), .val (.int p2), .val (.int (3 : Int32)), .val (.int (2 : Int32)), .val (.int (-1 : Int32)), .val (.ref ad1), .val (.int (2 : Int32))]) rfl ?_
    show Steps p.tables e below (T3.setTop (mkF m 78 #[.val (.ref a1), .val (.int p2), .val (.int (3 : Int32)), .val (.int (2 : Int32)), .val (.int (-1 : Int32)), .val (.ref ad1), .val (.int (2 : Int32))] [])) _
    refine XS.aloadN X3.here hx rfl (hb hby d6_78) rfl rfl ?_
    refine XS.iloadN X3.here hx rfl (hb hby d6_79) rfl ?_
    show Steps p.tables e below (T3.setTop (mkF m 80 #[.val (.ref a1), .val (.int p2), .val (.int (3 : Int32)), .val (.int (2 : Int32)), .val (.int (-1 : Int32)), .val (.ref ad1), .val (.int (2 : Int32))] [(.int p2), (.ref a1)])) _
    refine st4.trans ?_
    show Steps p.tables e below (T4.setTop (mkF m 83 #[.val (.ref a1), .val (.int p2), .val (.int (3 : Int32)), .val (.int (2 : Int32)), .val (.int (-1 : Int32)), .val (.ref ad1), .val (.int (2 : Int32))] [(.int (fS p2))])) _
    refine XS.iload X4.here hx rfl (hb hby d6_83) rfl ?_
    show Steps p.tables e below (T4.setTop (mkF m 85 #[.val (.ref a1), .val (.int p2), .val (.int (3 : Int32)), .val (.int (2 : Int32)), .val (.int (-1 : Int32)), .val (.ref ad1), .val (.int (2 : Int32))] [(.int (2 : Int32)), (.int (fS p2))])) _
    refine XS.icmpYes X4.here hx rfl (pc0 := 85) (pc' := 90) rfl (hb hby d6_85) rfl (teq hs).1 (by decide) (by decide) ?_
    show Steps p.tables e below (T4.setTop (mkF m 90 #[.val (.ref a1), .val (.int p2), .val (.int (3 : Int32)), .val (.int (2 : Int32)), .val (.int (-1 : Int32)), .val (.ref ad1), .val (.int (2 : Int32))] [])) _
    refine XS.aloadN X4.here hx rfl (hb hby d6_90) rfl rfl ?_
    refine XS.iloadN X4.here hx rfl (hb hby d6_91) rfl ?_
    show Steps p.tables e below (T4.setTop (mkF m 92 #[.val (.ref a1), .val (.int p2), .val (.int (3 : Int32)), .val (.int (2 : Int32)), .val (.int (-1 : Int32)), .val (.ref ad1), .val (.int (2 : Int32))] [(.int p2), (.ref a1)])) _
    refine st5.trans ?_
    show Steps p.tables e below (T5.setTop (mkF m 95 #[.val (.ref a1), .val (.int p2), .val (.int (3 : Int32)), .val (.int (2 : Int32)), .val (.int (-1 : Int32)), .val (.ref ad1), .val (.int (2 : Int32))] [(.int (fH p2))])) _
    refine XS.iload X5.here hx rfl (hb hby d6_95) rfl ?_
    refine XS.iconst X5.here hx rfl (hb hby d6_97) ?_
    show Steps p.tables e below (T5.setTop (mkF m 98 #[.val (.ref a1), .val (.int p2), .val (.int (3 : Int32)), .val (.int (2 : Int32)), .val (.int (-1 : Int32)), .val (.ref ad1), .val (.int (2 : Int32))] [(.int (1 : Int32)), (.int (2 : Int32)), (.int (fH p2))])) _
    refine XS.icmpNo X5.here hx rfl (hb hby d6_98) rfl (flt (by decide : ¬ ((2 : Int32) < (1 : Int32)))).1 ?_
    show Steps p.tables e below (T5.setTop (mkF m 101 #[.val (.ref a1), .val (.int p2), .val (.int (3 : Int32)), .val (.int (2 : Int32)), .val (.int (-1 : Int32)), .val (.ref ad1), .val (.int (2 : Int32))] [(.int (fH p2))])) _
    refine XS.aload X5.here hx rfl (hb hby d6_101) rfl rfl ?_
    refine XS.iconst X5.here hx rfl (hb hby d6_103) ?_
    show Steps p.tables e below (T5.setTop (mkF m 104 #[.val (.ref a1), .val (.int p2), .val (.int (3 : Int32)), .val (.int (2 : Int32)), .val (.int (-1 : Int32)), .val (.ref ad1), .val (.int (2 : Int32))] [(.int (0 : Int32)), (.ref ad1), (.int (fH p2))])) _
    refine own_ld X5 hx hZ e5' A_ad1_3 (by decide) (by decide) (g := (mkF m 104 #[.val (.ref a1), .val (.int p2), .val (.int (3 : Int32)), .val (.int (2 : Int32)), .val (.int (-1 : Int32)), .val (.ref ad1), .val (.int (2 : Int32))] [(.int (0 : Int32)), (.ref ad1), (.int (fH p2))])) rfl rfl (hb hby d6_104) _ ?_
    show Steps p.tables e below (T5.setTop (mkF m 105 #[.val (.ref a1), .val (.int p2), .val (.int (3 : Int32)), .val (.int (2 : Int32)), .val (.int (-1 : Int32)), .val (.ref ad1), .val (.int (2 : Int32))] [(.int (1 : Int32)), (.int (fH p2))])) _
    refine XS.goto X5.here hx rfl (pc0 := 105) (pc' := 109) rfl (hb hby d6_105) (by decide) (by decide) ?_
    show Steps p.tables e below (T5.setTop (mkF m 109 #[.val (.ref a1), .val (.int p2), .val (.int (3 : Int32)), .val (.int (2 : Int32)), .val (.int (-1 : Int32)), .val (.ref ad1), .val (.int (2 : Int32))] [(.int (1 : Int32)), (.int (fH p2))])) _
    refine XS.icmpYes X5.here hx rfl (pc0 := 109) (pc' := 114) rfl (hb hby d6_109) rfl (teq hf).1 (by decide) (by decide) ?_
    show Steps p.tables e below (T5.setTop (mkF m 114 #[.val (.ref a1), .val (.int p2), .val (.int (3 : Int32)), .val (.int (2 : Int32)), .val (.int (-1 : Int32)), .val (.ref ad1), .val (.int (2 : Int32))] [])) _
    refine XS.iload X5.here hx rfl (hb hby d6_114) rfl ?_
    refine XS.iconst X5.here hx rfl (hb hby d6_116) ?_
    show Steps p.tables e below (T5.setTop (mkF m 117 #[.val (.ref a1), .val (.int p2), .val (.int (3 : Int32)), .val (.int (2 : Int32)), .val (.int (-1 : Int32)), .val (.ref ad1), .val (.int (2 : Int32))] [(.int (1 : Int32)), (.int (2 : Int32))])) _
    refine XS.icmpNo X5.here hx rfl (hb hby d6_117) rfl (flt (by decide : ¬ ((2 : Int32) < (1 : Int32)))).1 ?_
    show Steps p.tables e below (T5.setTop (mkF m 120 #[.val (.ref a1), .val (.int p2), .val (.int (3 : Int32)), .val (.int (2 : Int32)), .val (.int (-1 : Int32)), .val (.ref ad1), .val (.int (2 : Int32))] [])) _
    refine XS.aloadN X5.here hx rfl (hb hby d6_120) rfl rfl ?_
    refine XS.aload X5.here hx rfl (hb hby d6_121) rfl rfl ?_
    refine XS.iconst X5.here hx rfl (hb hby d6_123) ?_
    show Steps p.tables e below (T5.setTop (mkF m 124 #[.val (.ref a1), .val (.int p2), .val (.int (3 : Int32)), .val (.int (2 : Int32)), .val (.int (-1 : Int32)), .val (.ref ad1), .val (.int (2 : Int32))] [(.int (0 : Int32)), (.ref ad1), (.ref a1)])) _
    refine own_ld X5 hx hZ e5' A_ad1_3 (by decide) (by decide) (g := (mkF m 124 #[.val (.ref a1), .val (.int p2), .val (.int (3 : Int32)), .val (.int (2 : Int32)), .val (.int (-1 : Int32)), .val (.ref ad1), .val (.int (2 : Int32))] [(.int (0 : Int32)), (.ref ad1), (.ref a1)])) rfl rfl (hb hby d6_124) _ ?_
    show Steps p.tables e below (T5.setTop (mkF m 125 #[.val (.ref a1), .val (.int p2), .val (.int (3 : Int32)), .val (.int (2 : Int32)), .val (.int (-1 : Int32)), .val (.ref ad1), .val (.int (2 : Int32))] [(.int (1 : Int32)), (.ref a1)])) _
    refine st6.trans ?_
    show Steps p.tables e below (T6.setTop (mkF m 128 #[.val (.ref a1), .val (.int p2), .val (.int (3 : Int32)), .val (.int (2 : Int32)), .val (.int (-1 : Int32)), .val (.ref ad1), .val (.int (2 : Int32))] [(.int (fN (1 : Int32)))])) _
    refine XS.iload X6.here hx rfl (hb hby d6_128) rfl ?_
    refine XS.iconst X6.here hx rfl (hb hby d6_130) ?_
    show Steps p.tables e below (T6.setTop (mkF m 131 #[.val (.ref a1), .val (.int p2), .val (.int (3 : Int32)), .val (.int (2 : Int32)), .val (.int (-1 : Int32)), .val (.ref ad1), .val (.int (2 : Int32))] [(.int (2 : Int32)), (.int (2 : Int32)), (.int (fN (1 : Int32)))])) _
    refine XS.icmpNo X6.here hx rfl (hb hby d6_131) rfl (flt (by decide : ¬ ((2 : Int32) < (2 : Int32)))).1 ?_
    show Steps p.tables e below (T6.setTop (mkF m 134 #[.val (.ref a1), .val (.int p2), .val (.int (3 : Int32)), .val (.int (2 : Int32)), .val (.int (-1 : Int32)), .val (.ref ad1), .val (.int (2 : Int32))] [(.int (fN (1 : Int32)))])) _
    refine XS.aload X6.here hx rfl (hb hby d6_134) rfl rfl ?_
    refine XS.iconst X6.here hx rfl (hb hby d6_136) ?_
    show Steps p.tables e below (T6.setTop (mkF m 137 #[.val (.ref a1), .val (.int p2), .val (.int (3 : Int32)), .val (.int (2 : Int32)), .val (.int (-1 : Int32)), .val (.ref ad1), .val (.int (2 : Int32))] [(.int (1 : Int32)), (.ref ad1), (.int (fN (1 : Int32)))])) _
    refine own_ld X6 hx hZ e6' A_ad1_3 (by decide) (by decide) (g := (mkF m 137 #[.val (.ref a1), .val (.int p2), .val (.int (3 : Int32)), .val (.int (2 : Int32)), .val (.int (-1 : Int32)), .val (.ref ad1), .val (.int (2 : Int32))] [(.int (1 : Int32)), (.ref ad1), (.int (fN (1 : Int32)))])) rfl rfl (hb hby d6_137) _ ?_
    show Steps p.tables e below (T6.setTop (mkF m 138 #[.val (.ref a1), .val (.int p2), .val (.int (3 : Int32)), .val (.int (2 : Int32)), .val (.int (-1 : Int32)), .val (.ref ad1), .val (.int (2 : Int32))] [(.int (0 : Int32)), (.int (fN (1 : Int32)))])) _
    refine XS.goto X6.here hx rfl (pc0 := 138) (pc' := 142) rfl (hb hby d6_138) (by decide) (by decide) ?_
    show Steps p.tables e below (T6.setTop (mkF m 142 #[.val (.ref a1), .val (.int p2), .val (.int (3 : Int32)), .val (.int (2 : Int32)), .val (.int (-1 : Int32)), .val (.ref ad1), .val (.int (2 : Int32))] [(.int (0 : Int32)), (.int (fN (1 : Int32)))])) _
    refine XS.icmpYes X6.here hx rfl (pc0 := 142) (pc' := 147) rfl (hb hby d6_142) rfl (teq hn0).1 (by decide) (by decide) ?_
    show Steps p.tables e below (T6.setTop (mkF m 147 #[.val (.ref a1), .val (.int p2), .val (.int (3 : Int32)), .val (.int (2 : Int32)), .val (.int (-1 : Int32)), .val (.ref ad1), .val (.int (2 : Int32))] [])) _
    refine XS.iload X6.here hx rfl (hb hby d6_147) rfl ?_
    refine XS.iconst X6.here hx rfl (hb hby d6_149) ?_
    show Steps p.tables e below (T6.setTop (mkF m 150 #[.val (.ref a1), .val (.int p2), .val (.int (3 : Int32)), .val (.int (2 : Int32)), .val (.int (-1 : Int32)), .val (.ref ad1), .val (.int (2 : Int32))] [(.int (2 : Int32)), (.int (2 : Int32))])) _
    refine XS.icmpNo X6.here hx rfl (hb hby d6_150) rfl (flt (by decide : ¬ ((2 : Int32) < (2 : Int32)))).1 ?_
    show Steps p.tables e below (T6.setTop (mkF m 153 #[.val (.ref a1), .val (.int p2), .val (.int (3 : Int32)), .val (.int (2 : Int32)), .val (.int (-1 : Int32)), .val (.ref ad1), .val (.int (2 : Int32))] [])) _
    refine XS.aloadN X6.here hx rfl (hb hby d6_153) rfl rfl ?_
    refine XS.aload X6.here hx rfl (hb hby d6_154) rfl rfl ?_
    refine XS.iconst X6.here hx rfl (hb hby d6_156) ?_
    show Steps p.tables e below (T6.setTop (mkF m 157 #[.val (.ref a1), .val (.int p2), .val (.int (3 : Int32)), .val (.int (2 : Int32)), .val (.int (-1 : Int32)), .val (.ref ad1), .val (.int (2 : Int32))] [(.int (1 : Int32)), (.ref ad1), (.ref a1)])) _
    refine own_ld X6 hx hZ e6' A_ad1_3 (by decide) (by decide) (g := (mkF m 157 #[.val (.ref a1), .val (.int p2), .val (.int (3 : Int32)), .val (.int (2 : Int32)), .val (.int (-1 : Int32)), .val (.ref ad1), .val (.int (2 : Int32))] [(.int (1 : Int32)), (.ref ad1), (.ref a1)])) rfl rfl (hb hby d6_157) _ ?_
    show Steps p.tables e below (T6.setTop (mkF m 158 #[.val (.ref a1), .val (.int p2), .val (.int (3 : Int32)), .val (.int (2 : Int32)), .val (.int (-1 : Int32)), .val (.ref ad1), .val (.int (2 : Int32))] [(.int (0 : Int32)), (.ref a1)])) _
    refine st7.trans ?_
    show Steps p.tables e below (T7.setTop (mkF m 161 #[.val (.ref a1), .val (.int p2), .val (.int (3 : Int32)), .val (.int (2 : Int32)), .val (.int (-1 : Int32)), .val (.ref ad1), .val (.int (2 : Int32))] [(.int (fN (0 : Int32)))])) _
    refine XS.iload X7.here hx rfl (hb hby d6_161) rfl ?_
    refine XS.iconst X7.here hx rfl (hb hby d6_163) ?_
    show Steps p.tables e below (T7.setTop (mkF m 164 #[.val (.ref a1), .val (.int p2), .val (.int (3 : Int32)), .val (.int (2 : Int32)), .val (.int (-1 : Int32)), .val (.ref ad1), .val (.int (2 : Int32))] [(.int (3 : Int32)), (.int (2 : Int32)), (.int (fN (0 : Int32)))])) _
    refine XS.icmpYes X7.here hx rfl (pc0 := 164) (pc' := 174) rfl (hb hby d6_164) rfl (tlt (by decide : (2 : Int32) < (3 : Int32))).1 (by decide) (by decide) ?_
    show Steps p.tables e below (T7.setTop (mkF m 174 #[.val (.ref a1), .val (.int p2), .val (.int (3 : Int32)), .val (.int (2 : Int32)), .val (.int (-1 : Int32)), .val (.ref ad1), .val (.int (2 : Int32))] [(.int (fN (0 : Int32)))])) _
    refine XS.iconst X7.here hx rfl (hb hby d6_174) ?_
    show Steps p.tables e below (T7.setTop (mkF m 175 #[.val (.ref a1), .val (.int p2), .val (.int (3 : Int32)), .val (.int (2 : Int32)), .val (.int (-1 : Int32)), .val (.ref ad1), .val (.int (2 : Int32))] [(.int (-1 : Int32)), (.int (fN (0 : Int32)))])) _
    refine XS.icmpYes X7.here hx rfl (pc0 := 175) (pc' := 180) rfl (hb hby d6_175) rfl (teq hn1).1 (by decide) (by decide) ?_
    show Steps p.tables e below (T7.setTop (mkF m 180 #[.val (.ref a1), .val (.int p2), .val (.int (3 : Int32)), .val (.int (2 : Int32)), .val (.int (-1 : Int32)), .val (.ref ad1), .val (.int (2 : Int32))] [])) _
    refine XS.iload X7.here hx rfl (hb hby d6_180) rfl ?_
    refine XS.iconst X7.here hx rfl (hb hby d6_182) ?_
    show Steps p.tables e below (T7.setTop (mkF m 183 #[.val (.ref a1), .val (.int p2), .val (.int (3 : Int32)), .val (.int (2 : Int32)), .val (.int (-1 : Int32)), .val (.ref ad1), .val (.int (2 : Int32))] [(.int (3 : Int32)), (.int (2 : Int32))])) _
    refine XS.icmpYes X7.here hx rfl (pc0 := 183) (pc' := 200) rfl (hb hby d6_183) rfl (tlt (by decide : (2 : Int32) < (3 : Int32))).1 (by decide) (by decide) ?_
    show Steps p.tables e below (T7.setTop (mkF m 200 #[.val (.ref a1), .val (.int p2), .val (.int (3 : Int32)), .val (.int (2 : Int32)), .val (.int (-1 : Int32)), .val (.ref ad1), .val (.int (2 : Int32))] [])) _
    refine XS.iconst X7.here hx rfl (hb hby d6_200) ?_
    show Steps p.tables e below (T7.setTop (mkF m 201 #[.val (.ref a1), .val (.int p2), .val (.int (3 : Int32)), .val (.int (2 : Int32)), .val (.int (-1 : Int32)), .val (.ref ad1), .val (.int (2 : Int32))] [(.int (1 : Int32))])) _
    exact retN X7 hx (t := .boolean) Bd.returns (by simp) (hb hby d6_201) hr
  · show Q6_3_2_m1 Z a1 p2 b1 b2 b3 b4 fH fS fN fP h0 n0 _ T7.heap _
    rw [e7']
    exact ⟨rfl, N7, K3⟩
theorem ef_6_2_1_0 (m : MethodId) (a1 : Addr) (p2 : Int32) : entryFrame m #[(.ref a1), (.int p2), (.int (2 : Int32)), (.int (1 : Int32)), (.int (0 : Int32))] 7 = mkF m 0 #[.val (.ref a1), .val (.int p2), .val (.int (2 : Int32)), .val (.int (1 : Int32)), .val (.int (0 : Int32)), .unset, .unset] [] := by first | (simp [entryFrame, mkF, argsToLocals, Value.category]; done) | rfl
def Q6_2_1_0 (Z : State) (a1 : Addr) (p2 : Int32) (b1 b2 b3 b4 : Addr) (fH fS fN fP : Int32 → Int32) (h0 : Heap) (n0 : Nat) (v : Option Value) (h : Heap) (L : List Loc) : Prop := v = some (.int (1 : Int32)) ∧ Fr n0 L ∧ Keep h0 h []
set_option maxRecDepth 65536 in
set_option maxHeartbeats 40000000 in
theorem rm6_2_1_0 (l : Launch) (Z : State) (a0 : Array Value) (hw : ∀ d ∈ tables_1, d.before a0 Z = true) (ws : List Jvm.Cond) (a1 : Addr) (p2 : Int32) (b1 b2 b3 b4 : Addr) (fH fS fN fP : Int32 → Int32) (h0 : Heap) (n0 : Nat) (Z0 : n0 ≤ h0.size) (V0 : own_L Z n0 h0 a1 b1 b2 b3 b4 fH fS fN fP) (l0 : ¬ p2 < 0) (l1 : p2 < (2 : Int32)) (hs : (fS p2) = (0 : Int32)) (hf : (fH p2) = (-1 : Int32)) :
    MetFree l (⟨"com/example/process_stepper/processstepper/equivalence/IntListsRemovePinLaw", "matches", "(Lcom/example/process_stepper/processstepper/equivalence/IntLists;IIII)Z"⟩ : MethodName) (head1 (Jvm.Cond.code (⟨"com/example/process_stepper/processstepper/equivalence/IntListsRemovePinLaw", "matches", "(Lcom/example/process_stepper/processstepper/equivalence/IntLists;IIII)Z"⟩ : MethodName) method_3_code 7 (some .boolean) :: ws) ({ frames := 1, cells := 1, slots := 3, locals := 14 } : Room)) (fun a U => a = #[(.ref a1), (.int p2), (.int (2 : Int32)), (.int (1 : Int32)), (.int (0 : Int32))] ∧ Z.Warmed39 U.vm ∧ U.heap = h0) (fun _ _ _ _ _ => True) (fun _ U o U' => ∃ v L, o = .returned v ∧ Q6_2_1_0 Z a1 p2 b1 b2 b3 b4 fH fS fN fP h0 n0 v U'.heap L ∧ FrameEnd U o U' L ({ frames := 1, cells := 1, slots := 3, locals := 14 } : Room).cells ({ frames := 1, cells := 1, slots := 3, locals := 14 } : Room).slots) := by
  refine MetFree.of_bodySF (plainFor_of_name pn_6) hisR ?_
  intro p e s m args below meth c s₁ Bd hml0 hP hK
  obtain ⟨rfl, hZ, hh⟩ := hP
  have hx := Bd.exec
  have hby := Bd.bytes
  have hml : c.maxLocals = 7 := hml0
  have hown : s.vm.findClass "com/example/process_stepper/processstepper/equivalence/IntListsRemovePinLaw" = some m.cls := findClass_of_methodNamed Bd.named
  have hnm := (name_of_methodNamed Bd.named Bd.method).1
  have X0 : Stand p l e ({ frames := 1, cells := 1, slots := 3, locals := 14 } : Room) s m #[(.ref a1), (.int p2), (.int (2 : Int32)), (.int (1 : Int32)), (.int (0 : Int32))] below meth c s₁ [] 0 0 := Stand.of_body Bd
  have e0 : s₁.heap = h0 := by rw [← hh, Bd.state]; rfl
  have N0 := Fr.nil n0
  have pre0 : ∀ t, Steps p.tables e below (s₁.setTop (mkF m 0 #[.val (.ref a1), .val (.int p2), .val (.int (2 : Int32)), .val (.int (1 : Int32)), .val (.int (0 : Int32)), .unset, .unset] [])) t → Steps p.tables e below (s₁.setTop (entryFrame m #[(.ref a1), (.int p2), (.int (2 : Int32)), (.int (1 : Int32)), (.int (0 : Int32))] 7)) t := fun t k => castTop (ef_6_2_1_0 m a1 p2) k
  obtain ⟨T1, h1, k1, X1, e1, E1, A1, st1⟩ := newP X0 hx hZ (own_w hw 10 rfl) e0 (g := (mkF m 1 #[.val (.ref a1), .val (.int p2), .val (.int (2 : Int32)), .val (.int (1 : Int32)), .val (.int (0 : Int32)), .unset, .unset] [(.int (3 : Int32))])) rfl (hb hby d6_1) rfl (by decide) (cap := 3) (by decide) (by decide) (by decide) (by decide)
  obtain ⟨ad1, g1⟩ : ∃ z, z = h0.size := ⟨_, rfl⟩
  rw [← g1] at A1 st1
  have lt_a1_ad1 : a1 < ad1 := Nat.lt_of_lt_of_eq (own_L_lta V0) g1.symm
  have lt_b4_ad1 : b4 < ad1 := Nat.lt_of_lt_of_eq (own_L_lt V0) g1.symm
  have gn_ad1 : n0 ≤ ad1 := Nat.le_trans Z0 (Nat.le_of_eq g1.symm)
  have sz_ad1 : h0.size ≤ ad1 := Nat.le_trans (Keep.refl h0 []).1 (Nat.le_of_eq g1.symm)
  have V_a1_1 : own_L Z n0 h1 a1 b1 b2 b3 b4 fH fS fN fP := own_L_ext V0 E1
  have A_ad1_1 : own_arr Z h1 ad1 (3 : Int32) own_zero := own_arr_new A1 (by decide)
  have K1 : Keep h0 h1 [] := (Keep.refl h0 []).ext E1
  have Zs1 : n0 ≤ h1.size := Nat.le_trans Z0 E1.1
  obtain ⟨cq2, kq2, q2a, q2b, q2c⟩ := isOf hZ e1 (V_a1_1.1)
  obtain ⟨_, _, ⟨T2, L2, k2, n2⟩, -, X2, ⟨Lc2, hQ2, l2, y2, z2⟩, st2⟩ := X1.virtualBack hx (y := own_m2) (z := own_m2) hown (mvT hZ (own_w hw 37 rfl)) (mvT hZ (own_w hw 38 rfl)) (notFace_of_selects (args := #[]) (mvT hZ (own_w hw 40 rfl))) (mvT hZ (own_w hw 40 rfl)) (mvT hZ (own_w hw 39 rfl)) (by decide) (backOf (W := 0) (rm7 l Z a0 hw [] a1 p2 b1 b2 b3 b4 fH fS fN fP h1 n0 Zs1 V_a1_1 l0 l1) hZ (own_w hw 41 rfl) (own_w hw 3 rfl) (by decide) (by decide)) q2a q2c (g := (mkF m 80 #[.val (.ref a1), .val (.int p2), .val (.int (2 : Int32)), .val (.int (1 : Int32)), .val (.int (0 : Int32)), .val (.ref ad1), .val (.int (0 : Int32))] [(.int p2), (.ref a1)])) rfl (by rw [hml]; rfl) (Steps.refl _) (argsL := [(.int p2)]) (rest := []) (lenOf pd__I_I rfl) rfl (by show 2 * 0 + _ ≤ _; exact Nat.le_of_eq rfl) (hb hby d6_80) (fun _ _ => ⟨rfl, e1, (by decide : 1 + 0 ≤ _), (by decide : 3 + 0 ≤ _)⟩)
  dsimp only [Pt.U, Pt.locs, Pt.cells, Pt.slots] at X2 l2 y2 z2 st2 hQ2
  subst l2 y2 z2
  obtain ⟨rfl, N2q, q2⟩ := hQ2
  have N2 := Fr.app N0 N2q
  have e2' : T2.heap = h1 := q2
  obtain ⟨cq3, kq3, q3a, q3b, q3c⟩ := isOf hZ e2' (V_a1_1.1)
  obtain ⟨_, _, ⟨T3, L3, k3, n3⟩, -, X3, ⟨Lc3, hQ3, l3, y3, z3⟩, st3⟩ := X2.virtualBack hx (y := own_m3) (z := own_m3) hown (mvT hZ (own_w hw 42 rfl)) (mvT hZ (own_w hw 43 rfl)) (notFace_of_selects (args := #[]) (mvT hZ (own_w hw 45 rfl))) (mvT hZ (own_w hw 45 rfl)) (mvT hZ (own_w hw 44 rfl)) (by decide) (backOf (W := 0) (rm8 l Z a0 hw [] a1 p2 b1 b2 b3 b4 fH fS fN fP h1 n0 Zs1 V_a1_1 l0 l1) hZ (own_w hw 46 rfl) (own_w hw 3 rfl) (by decide) (by decide)) q3a q3c (g := (mkF m 92 #[.val (.ref a1), .val (.int p2), .val (.int (2 : Int32)), .val (.int (1 : Int32)), .val (.int (0 : Int32)), .val (.ref ad1), .val (.int (0 : Int32))] [(.int p2), (.ref a1)])) rfl (by rw [hml]; rfl) (Steps.refl _) (argsL := [(.int p2)]) (rest := []) (lenOf pd__I_I rfl) rfl (by show 2 * 0 + _ ≤ _; exact Nat.le_of_eq rfl) (hb hby d6_92) (fun _ _ => ⟨rfl, e2', (by decide : 1 + 0 ≤ _), (by decide : 3 + 0 ≤ _)⟩)
  dsimp only [Pt.U, Pt.locs, Pt.cells, Pt.slots] at X3 l3 y3 z3 st3 hQ3
  subst l3 y3 z3
  obtain ⟨rfl, N3q, q3⟩ := hQ3
  have N3 := Fr.app N2 N3q
  have e3' : T3.heap = h1 := q3
  obtain ⟨fs, hr, hrun, hended, hW, hsame⟩ := X3.leave (v := some (.int (1 : Int32))) (fun h => by rw [Bd.returns] at h; cases h)
  refine ⟨_, _, pre0 _ ?_, hrun, hended, _, _, rfl, ?_, ⟨_, rfl⟩, hW, hsame.mono (by decide) (by decide)⟩
  · show Steps p.tables e below (s₁.setTop (mkF m 0 #[.val (.ref a1), .val (.int p2), .val (.int (2 : Int32)), .val (.int (1 : Int32)), .val (.int (0 : Int32)), .unset, .unset] [])) _
    refine XS.iconst X0.here hx rfl (hb hby d6_0) ?_
    show Steps p.tables e below (s₁.setTop (mkF m 1 #[.val (.ref a1), .val (.int p2), .val (.int (2 : Int32)), .val (.int (1 : Int32)), .val (.int (0 : Int32)), .unset, .unset] [(.int (3 : Int32))])) _
    refine st1 _ ?_
    show Steps p.tables e below (T1.setTop (mkF m 3 #[.val (.ref a1), .val (.int p2), .val (.int (2 : Int32)), .val (.int (1 : Int32)), .val (.int (0 : Int32)), .unset, .unset] [(.ref ad1)])) _
    refine XS.astore X1.here hx rfl (hb hby d6_3) rfl rfl (l' := #[.val (.ref a1), .val (.int p2), .val (.int (2 : Int32)), .val (.int (1 : Int32)), .val (.int (0 : Int32)), .val (.ref ad1), .unset]) rfl ?_
    refine XS.iconst X1.here hx rfl (hb hby d6_5) ?_
    refine XS.istore X1.here hx rfl (hb hby d6_6) rfl (l' := #[.val (.ref a1), .val (.int p2), .val (.int (2 : Int32)), .val (.int (1 : Int32)), .val (.int (0 : Int32)), .val (.ref ad1), .val (.int (0 : Int32))]) rfl ?_
    refine XS.iconst X1.here hx rfl (hb hby d6_8) ?_
    refine XS.iloadN X1.here hx rfl (hb hby d6_9) rfl ?_
    show Steps p.tables e below (T1.setTop (mkF m 10 #[.val (.ref a1), .val (.int p2), .val (.int (2 : Int32)), .val (.int (1 : Int32)), .val (.int (0 : Int32)), .val (.ref ad1), .val (.int (0 : Int32))] [(.int (2 : Int32)), (.int (2 : Int32))])) _
    refine XS.icmpYes X1.here hx rfl (pc0 := 10) (pc' := 33) rfl (hb hby d6_10) rfl (flt (by decide : ¬ ((2 : Int32) < (2 : Int32)))).2.1 (by decide) (by decide) ?_
    show Steps p.tables e below (T1.setTop (mkF m 33 #[.val (.ref a1), .val (.int p2), .val (.int (2 : Int32)), .val (.int (1 : Int32)), .val (.int (0 : Int32)), .val (.ref ad1), .val (.int (0 : Int32))] [])) _
    refine XS.iconst X1.here hx rfl (hb hby d6_33) ?_
    refine XS.iloadN X1.here hx rfl (hb hby d6_34) rfl ?_
    show Steps p.tables e below (T1.setTop (mkF m 35 #[.val (.ref a1), .val (.int p2), .val (.int (2 : Int32)), .val (.int (1 : Int32)), .val (.int (0 : Int32)), .val (.ref ad1), .val (.int (0 : Int32))] [(.int (2 : Int32)), (.int (1 : Int32))])) _
    refine XS.icmpNo X1.here hx rfl (hb hby d6_35) rfl (tlt (by decide : (1 : Int32) < (2 : Int32))).2.1 ?_
    show Steps p.tables e below (T1.setTop (mkF m 38 #[.val (.ref a1), .val (.int p2), .val (.int (2 : Int32)), .val (.int (1 : Int32)), .val (.int (0 : Int32)), .val (.ref ad1), .val (.int (0 : Int32))] [])) _
    refine XS.iconst X1.here hx rfl (hb hby d6_38) ?_
    refine XS.iloadN X1.here hx rfl (hb hby d6_39) rfl ?_
    show Steps p.tables e below (T1.setTop (mkF m 40 #[.val (.ref a1), .val (.int p2), .val (.int (2 : Int32)), .val (.int (1 : Int32)), .val (.int (0 : Int32)), .val (.ref ad1), .val (.int (0 : Int32))] [(.int (1 : Int32)), (.int (1 : Int32))])) _
    refine XS.icmpYes X1.here hx rfl (pc0 := 40) (pc' := 58) rfl (hb hby d6_40) rfl (teq (by decide : (1 : Int32) = (1 : Int32))).1 (by decide) (by decide) ?_
    show Steps p.tables e below (T1.setTop (mkF m 58 #[.val (.ref a1), .val (.int p2), .val (.int (2 : Int32)), .val (.int (1 : Int32)), .val (.int (0 : Int32)), .val (.ref ad1), .val (.int (0 : Int32))] [])) _
    refine XS.iconst X1.here hx rfl (hb hby d6_58) ?_
    refine XS.iloadN X1.here hx rfl (hb hby d6_59) rfl ?_
    show Steps p.tables e below (T1.setTop (mkF m 60 #[.val (.ref a1), .val (.int p2), .val (.int (2 : Int32)), .val (.int (1 : Int32)), .val (.int (0 : Int32)), .val (.ref ad1), .val (.int (0 : Int32))] [(.int (1 : Int32)), (.int (0 : Int32))])) _
    refine XS.icmpNo X1.here hx rfl (hb hby d6_60) rfl (feq (by decide : ¬ ((0 : Int32) = (1 : Int32)))).1 ?_
    show Steps p.tables e below (T1.setTop (mkF m 63 #[.val (.ref a1), .val (.int p2), .val (.int (2 : Int32)), .val (.int (1 : Int32)), .val (.int (0 : Int32)), .val (.ref ad1), .val (.int (0 : Int32))] [])) _
    refine XS.iconst X1.here hx rfl (hb hby d6_63) ?_
    refine XS.iload X1.here hx rfl (hb hby d6_64) rfl ?_
    show Steps p.tables e below (T1.setTop (mkF m 66 #[.val (.ref a1), .val (.int p2), .val (.int (2 : Int32)), .val (.int (1 : Int32)), .val (.int (0 : Int32)), .val (.ref ad1), .val (.int (0 : Int32))] [(.int (0 : Int32)), (.int (0 : Int32))])) _
    refine XS.icmpYes X1.here hx rfl (pc0 := 66) (pc' := 78) rfl (hb hby d6_66) rfl (teq (by decide : (0 : Int32) = (0 : Int32))).1 (by decide) (by decide) ?_
    show Steps p.tables e below (T1.setTop (mkF m 78 #[.val (.ref a1), .val (.int p2), .val (.int (2 : Int32)), .val (.int (1 : Int32)), .val (.int (0 : Int32)), .val (.ref ad1), .val (.int (0 : Int32))] [])) _
    refine XS.aloadN X1.here hx rfl (hb hby d6_78) rfl rfl ?_
    refine XS.iloadN X1.here hx rfl (hb hby d6_79) rfl ?_
    show Steps p.tables e below (T1.setTop (mkF m 80 #[.val (.ref a1), .val (.int p2), .val (.int (2 : Int32)), .val (.int (1 : Int32)), .val (.int (0 : Int32)), .val (.ref ad1), .val (.int (0 : Int32))] [(.int p2), (.ref a1)])) _
    refine st2.trans ?_
    show Steps p.tables e below (T2.setTop (mkF m 83 #[.val (.ref a1), .val (.int p2), .val (.int (2 : Int32)), .val (.int (1 : Int32)), .val (.int (0 : Int32)), .val (.ref ad1), .val (.int (0 : Int32))] [(.int (fS p2))])) _
    refine XS.iload X2.here hx rfl (hb hby d6_83) rfl ?_
    show Steps p.tables e below (T2.setTop (mkF m 85 #[.val (.ref a1), .val (.int p2), .val (.int (2 : Int32)), .val (.int (1 : Int32)), .val (.int (0 : Int32)), .val (.ref ad1), .val (.int (0 : Int32))] [(.int (0 : Int32)), (.int (fS p2))])) _
    refine XS.icmpYes X2.here hx rfl (pc0 := 85) (pc' := 90) rfl (hb hby d6_85) rfl (teq hs).1 (by decide) (by decide) ?_
    show Steps p.tables e below (T2.setTop (mkF m 90 #[.val (.ref a1), .val (.int p2), .val (.int (2 : Int32)), .val (.int (1 : Int32)), .val (.int (0 : Int32)), .val (.ref ad1), .val (.int (0 : Int32))] [])) _
    refine XS.aloadN X2.here hx rfl (hb hby d6_90) rfl rfl ?_
    refine XS.iloadN X2.here hx rfl (hb hby d6_91) rfl ?_
    show Steps p.tables e below (T2.setTop (mkF m 92 #[.val (.ref a1), .val (.int p2), .val (.int (2 : Int32)), .val (.int (1 : Int32)), .val (.int (0 : Int32)), .val (.ref ad1), .val (.int (0 : Int32))] [(.int p2), (.ref a1)])) _
    refine st3.trans ?_
    show Steps p.tables e below (T3.setTop (mkF m 95 #[.val (.ref a1), .val (.int p2), .val (.int (2 : Int32)), .val (.int (1 : Int32)), .val (.int (0 : Int32)), .val (.ref ad1), .val (.int (0 : Int32))] [(.int (fH p2))])) _
    refine XS.iload X3.here hx rfl (hb hby d6_95) rfl ?_
    refine XS.iconst X3.here hx rfl (hb hby d6_97) ?_
    show Steps p.tables e below (T3.setTop (mkF m 98 #[.val (.ref a1), .val (.int p2), .val (.int (2 : Int32)), .val (.int (1 : Int32)), .val (.int (0 : Int32)), .val (.ref ad1), .val (.int (0 : Int32))] [(.int (1 : Int32)), (.int (0 : Int32)), (.int (fH p2))])) _
    refine XS.icmpYes X3.here hx rfl (pc0 := 98) (pc' := 108) rfl (hb hby d6_98) rfl (tlt (by decide : (0 : Int32) < (1 : Int32))).1 (by decide) (by decide) ?_
    show Steps p.tables e below (T3.setTop (mkF m 108 #[.val (.ref a1), .val (.int p2), .val (.int (2 : Int32)), .val (.int (1 : Int32)), .val (.int (0 : Int32)), .val (.ref ad1), .val (.int (0 : Int32))] [(.int (fH p2))])) _
    refine XS.iconst X3.here hx rfl (hb hby d6_108) ?_
    show Steps p.tables e below (T3.setTop (mkF m 109 #[.val (.ref a1), .val (.int p2), .val (.int (2 : Int32)), .val (.int (1 : Int32)), .val (.int (0 : Int32)), .val (.ref ad1), .val (.int (0 : Int32))] [(.int (-1 : Int32)), (.int (fH p2))])) _
    refine XS.icmpYes X3.here hx rfl (pc0 := 109) (pc' := 114) rfl (hb hby d6_109) rfl (teq hf).1 (by decide) (by decide) ?_
    show Steps p.tables e below (T3.setTop (mkF m 114 #[.val (.ref a1), .val (.int p2), .val (.int (2 : Int32)), .val (.int (1 : Int32)), .val (.int (0 : Int32)), .val (.ref ad1), .val (.int (0 : Int32))] [])) _
    refine XS.iload X3.here hx rfl (hb hby d6_114) rfl ?_
    refine XS.iconst X3.here hx rfl (hb hby d6_116) ?_
    show Steps p.tables e below (T3.setTop (mkF m 117 #[.val (.ref a1), .val (.int p2), .val (.int (2 : Int32)), .val (.int (1 : Int32)), .val (.int (0 : Int32)), .val (.ref ad1), .val (.int (0 : Int32))] [(.int (1 : Int32)), (.int (0 : Int32))])) _
    refine XS.icmpYes X3.here hx rfl (pc0 := 117) (pc' := 147) rfl (hb hby d6_117) rfl (tlt (by decide : (0 : Int32) < (1 : Int32))).1 (by decide) (by decide) ?_
    show Steps p.tables e below (T3.setTop (mkF m 147 #[.val (.ref a1), .val (.int p2), .val (.int (2 : Int32)), .val (.int (1 : Int32)), .val (.int (0 : Int32)), .val (.ref ad1), .val (.int (0 : Int32))] [])) _
    refine XS.iload X3.here hx rfl (hb hby d6_147) rfl ?_
    refine XS.iconst X3.here hx rfl (hb hby d6_149) ?_
    show Steps p.tables e below (T3.setTop (mkF m 150 #[.val (.ref a1), .val (.int p2), .val (.int (2 : Int32)), .val (.int (1 : Int32)), .val (.int (0 : Int32)), .val (.ref ad1), .val (.int (0 : Int32))] [(.int (2 : Int32)), (.int (0 : Int32))])) _
    refine XS.icmpYes X3.here hx rfl (pc0 := 150) (pc' := 180) rfl (hb hby d6_150) rfl (tlt (by decide : (0 : Int32) < (2 : Int32))).1 (by decide) (by decide) ?_
    show Steps p.tables e below (T3.setTop (mkF m 180 #[.val (.ref a1), .val (.int p2), .val (.int (2 : Int32)), .val (.int (1 : Int32)), .val (.int (0 : Int32)), .val (.ref ad1), .val (.int (0 : Int32))] [])) _
    refine XS.iload X3.here hx rfl (hb hby d6_180) rfl ?_
    refine XS.iconst X3.here hx rfl (hb hby d6_182) ?_
    show Steps p.tables e below (T3.setTop (mkF m 183 #[.val (.ref a1), .val (.int p2), .val (.int (2 : Int32)), .val (.int (1 : Int32)), .val (.int (0 : Int32)), .val (.ref ad1), .val (.int (0 : Int32))] [(.int (3 : Int32)), (.int (0 : Int32))])) _
    refine XS.icmpYes X3.here hx rfl (pc0 := 183) (pc' := 200) rfl (hb hby d6_183) rfl (tlt (by decide : (0 : Int32) < (3 : Int32))).1 (by decide) (by decide) ?_
    show Steps p.tables e below (T3.setTop (mkF m 200 #[.val (.ref a1), .val (.int p2), .val (.int (2 : Int32)), .val (.int (1 : Int32)), .val (.int (0 : Int32)), .val (.ref ad1), .val (.int (0 : Int32))] [])) _
    refine XS.iconst X3.here hx rfl (hb hby d6_200) ?_
    show Steps p.tables e below (T3.setTop (mkF m 201 #[.val (.ref a1), .val (.int p2), .val (.int (2 : Int32)), .val (.int (1 : Int32)), .val (.int (0 : Int32)), .val (.ref ad1), .val (.int (0 : Int32))] [(.int (1 : Int32))])) _
    exact retN X3 hx (t := .boolean) Bd.returns (by simp) (hb hby d6_201) hr
  · show Q6_2_1_0 Z a1 p2 b1 b2 b3 b4 fH fS fN fP h0 n0 _ T3.heap _
    rw [e3']
    exact ⟨rfl, N3, K1⟩
theorem ef_6_3_1_0 (m : MethodId) (a1 : Addr) (p2 : Int32) : entryFrame m #[(.ref a1), (.int p2), (.int (3 : Int32)), (.int (1 : Int32)), (.int (0 : Int32))] 7 = mkF m 0 #[.val (.ref a1), .val (.int p2), .val (.int (3 : Int32)), .val (.int (1 : Int32)), .val (.int (0 : Int32)), .unset, .unset] [] := by first | (simp [entryFrame, mkF, argsToLocals, Value.category]; done) | rfl
def Q6_3_1_0 (Z : State) (a1 : Addr) (p2 : Int32) (b1 b2 b3 b4 : Addr) (fH fS fN fP : Int32 → Int32) (h0 : Heap) (n0 : Nat) (v : Option Value) (h : Heap) (L : List Loc) : Prop := v = some (.int (1 : Int32)) ∧ Fr n0 L ∧ Keep h0 h []
set_option maxRecDepth 65536 in
set_option maxHeartbeats 40000000 in
theorem rm6_3_1_0 (l : Launch) (Z : State) (a0 : Array Value) (hw : ∀ d ∈ tables_1, d.before a0 Z = true) (ws : List Jvm.Cond) (a1 : Addr) (p2 : Int32) (b1 b2 b3 b4 : Addr) (fH fS fN fP : Int32 → Int32) (h0 : Heap) (n0 : Nat) (Z0 : n0 ≤ h0.size) (V0 : own_L Z n0 h0 a1 b1 b2 b3 b4 fH fS fN fP) (l0 : ¬ p2 < 0) (l1 : p2 < (2 : Int32)) (hs : (fS p2) = (1 : Int32)) (hf : (fH p2) = (2 : Int32)) (hn0 : (fN (2 : Int32)) = (-1 : Int32)) :
    MetFree l (⟨"com/example/process_stepper/processstepper/equivalence/IntListsRemovePinLaw", "matches", "(Lcom/example/process_stepper/processstepper/equivalence/IntLists;IIII)Z"⟩ : MethodName) (head1 (Jvm.Cond.code (⟨"com/example/process_stepper/processstepper/equivalence/IntListsRemovePinLaw", "matches", "(Lcom/example/process_stepper/processstepper/equivalence/IntLists;IIII)Z"⟩ : MethodName) method_3_code 7 (some .boolean) :: ws) ({ frames := 1, cells := 1, slots := 3, locals := 14 } : Room)) (fun a U => a = #[(.ref a1), (.int p2), (.int (3 : Int32)), (.int (1 : Int32)), (.int (0 : Int32))] ∧ Z.Warmed39 U.vm ∧ U.heap = h0) (fun _ _ _ _ _ => True) (fun _ U o U' => ∃ v L, o = .returned v ∧ Q6_3_1_0 Z a1 p2 b1 b2 b3 b4 fH fS fN fP h0 n0 v U'.heap L ∧ FrameEnd U o U' L ({ frames := 1, cells := 1, slots := 3, locals := 14 } : Room).cells ({ frames := 1, cells := 1, slots := 3, locals := 14 } : Room).slots) := by
  refine MetFree.of_bodySF (plainFor_of_name pn_6) hisR ?_
  intro p e s m args below meth c s₁ Bd hml0 hP hK
  obtain ⟨rfl, hZ, hh⟩ := hP
  have hx := Bd.exec
  have hby := Bd.bytes
  have hml : c.maxLocals = 7 := hml0
  have hown : s.vm.findClass "com/example/process_stepper/processstepper/equivalence/IntListsRemovePinLaw" = some m.cls := findClass_of_methodNamed Bd.named
  have hnm := (name_of_methodNamed Bd.named Bd.method).1
  have X0 : Stand p l e ({ frames := 1, cells := 1, slots := 3, locals := 14 } : Room) s m #[(.ref a1), (.int p2), (.int (3 : Int32)), (.int (1 : Int32)), (.int (0 : Int32))] below meth c s₁ [] 0 0 := Stand.of_body Bd
  have e0 : s₁.heap = h0 := by rw [← hh, Bd.state]; rfl
  have N0 := Fr.nil n0
  have pre0 : ∀ t, Steps p.tables e below (s₁.setTop (mkF m 0 #[.val (.ref a1), .val (.int p2), .val (.int (3 : Int32)), .val (.int (1 : Int32)), .val (.int (0 : Int32)), .unset, .unset] [])) t → Steps p.tables e below (s₁.setTop (entryFrame m #[(.ref a1), (.int p2), (.int (3 : Int32)), (.int (1 : Int32)), (.int (0 : Int32))] 7)) t := fun t k => castTop (ef_6_3_1_0 m a1 p2) k
  obtain ⟨T1, h1, k1, X1, e1, E1, A1, st1⟩ := newP X0 hx hZ (own_w hw 10 rfl) e0 (g := (mkF m 1 #[.val (.ref a1), .val (.int p2), .val (.int (3 : Int32)), .val (.int (1 : Int32)), .val (.int (0 : Int32)), .unset, .unset] [(.int (3 : Int32))])) rfl (hb hby d6_1) rfl (by decide) (cap := 3) (by decide) (by decide) (by decide) (by decide)
  obtain ⟨ad1, g1⟩ : ∃ z, z = h0.size := ⟨_, rfl⟩
  rw [← g1] at A1 st1
  have lt_a1_ad1 : a1 < ad1 := Nat.lt_of_lt_of_eq (own_L_lta V0) g1.symm
  have lt_b4_ad1 : b4 < ad1 := Nat.lt_of_lt_of_eq (own_L_lt V0) g1.symm
  have gn_ad1 : n0 ≤ ad1 := Nat.le_trans Z0 (Nat.le_of_eq g1.symm)
  have sz_ad1 : h0.size ≤ ad1 := Nat.le_trans (Keep.refl h0 []).1 (Nat.le_of_eq g1.symm)
  have V_a1_1 : own_L Z n0 h1 a1 b1 b2 b3 b4 fH fS fN fP := own_L_ext V0 E1
  have A_ad1_1 : own_arr Z h1 ad1 (3 : Int32) own_zero := own_arr_new A1 (by decide)
  have K1 : Keep h0 h1 [] := (Keep.refl h0 []).ext E1
  have Zs1 : n0 ≤ h1.size := Nat.le_trans Z0 E1.1
  obtain ⟨T2, h2, X2, e2, W2, st2⟩ := own_st X1 hx hZ e1 A_ad1_1 (by decide) (by decide) (g := (mkF m 29 #[.val (.ref a1), .val (.int p2), .val (.int (3 : Int32)), .val (.int (1 : Int32)), .val (.int (0 : Int32)), .val (.ref ad1), .val (.int (0 : Int32))] [(.int (2 : Int32)), (.int (0 : Int32)), (.ref ad1)])) rfl rfl (hb hby d6_29)
  have V_a1_2 : own_L Z n0 h2 a1 b1 b2 b3 b4 fH fS fN fP := own_L_out V_a1_1 W2 lt_b4_ad1
  have A_ad1_2 : own_arr Z h2 ad1 (3 : Int32) (own_upd own_zero (0 : Int32) (2 : Int32)) := own_arr_same A_ad1_1 W2 (by decide) (by decide)
  have K2 : Keep h0 h2 [] := K1.wr W2 (Or.inr sz_ad1)
  have N2 := Fr.snoc X2 N0 gn_ad1
  have Zs2 : n0 ≤ h2.size := by rw [W2.size]; exact Zs1
  obtain ⟨cq3, kq3, q3a, q3b, q3c⟩ := isOf hZ e2 (V_a1_2.1)
  obtain ⟨_, _, ⟨T3, L3, k3, n3⟩, -, X3, ⟨Lc3, hQ3, l3, y3, z3⟩, st3⟩ := X2.virtualBack hx (y := own_m2) (z := own_m2) hown (mvT hZ (own_w hw 37 rfl)) (mvT hZ (own_w hw 38 rfl)) (notFace_of_selects (args := #[]) (mvT hZ (own_w hw 40 rfl))) (mvT hZ (own_w hw 40 rfl)) (mvT hZ (own_w hw 39 rfl)) (by decide) (backOf (W := 0) (rm7 l Z a0 hw [] a1 p2 b1 b2 b3 b4 fH fS fN fP h2 n0 Zs2 V_a1_2 l0 l1) hZ (own_w hw 41 rfl) (own_w hw 3 rfl) (by decide) (by decide)) q3a q3c (g := (mkF m 80 #[.val (.ref a1), .val (.int p2), .val (.int (3 : Int32)), .val (.int (1 : Int32)), .val (.int (0 : Int32)), .val (.ref ad1), .val (.int (1 : Int32))] [(.int p2), (.ref a1)])) rfl (by rw [hml]; rfl) (Steps.refl _) (argsL := [(.int p2)]) (rest := []) (lenOf pd__I_I rfl) rfl (by show 2 * 0 + _ ≤ _; exact Nat.le_of_eq rfl) (hb hby d6_80) (fun _ _ => ⟨rfl, e2, (by decide : 1 + 0 ≤ _), (by decide : 3 + 0 ≤ _)⟩)
  dsimp only [Pt.U, Pt.locs, Pt.cells, Pt.slots] at X3 l3 y3 z3 st3 hQ3
  subst l3 y3 z3
  obtain ⟨rfl, N3q, q3⟩ := hQ3
  have N3 := Fr.app N2 N3q
  have e3' : T3.heap = h2 := q3
  obtain ⟨cq4, kq4, q4a, q4b, q4c⟩ := isOf hZ e3' (V_a1_2.1)
  obtain ⟨_, _, ⟨T4, L4, k4, n4⟩, -, X4, ⟨Lc4, hQ4, l4, y4, z4⟩, st4⟩ := X3.virtualBack hx (y := own_m3) (z := own_m3) hown (mvT hZ (own_w hw 42 rfl)) (mvT hZ (own_w hw 43 rfl)) (notFace_of_selects (args := #[]) (mvT hZ (own_w hw 45 rfl))) (mvT hZ (own_w hw 45 rfl)) (mvT hZ (own_w hw 44 rfl)) (by decide) (backOf (W := 0) (rm8 l Z a0 hw [] a1 p2 b1 b2 b3 b4 fH fS fN fP h2 n0 Zs2 V_a1_2 l0 l1) hZ (own_w hw 46 rfl) (own_w hw 3 rfl) (by decide) (by decide)) q4a q4c (g := (mkF m 92 #[.val (.ref a1), .val (.int p2), .val (.int (3 : Int32)), .val (.int (1 : Int32)), .val (.int (0 : Int32)), .val (.ref ad1), .val (.int (1 : Int32))] [(.int p2), (.ref a1)])) rfl (by rw [hml]; rfl) (Steps.refl _) (argsL := [(.int p2)]) (rest := []) (lenOf pd__I_I rfl) rfl (by show 2 * 0 + _ ≤ _; exact Nat.le_of_eq rfl) (hb hby d6_92) (fun _ _ => ⟨rfl, e3', (by decide : 1 + 0 ≤ _), (by decide : 3 + 0 ≤ _)⟩)
  dsimp only [Pt.U, Pt.locs, Pt.cells, Pt.slots] at X4 l4 y4 z4 st4 hQ4
  subst l4 y4 z4
  obtain ⟨rfl, N4q, q4⟩ := hQ4
  have N4 := Fr.app N3 N4q
  have e4' : T4.heap = h2 := q4
  obtain ⟨cq5, kq5, q5a, q5b, q5c⟩ := isOf hZ e4' (V_a1_2.1)
  obtain ⟨_, _, ⟨T5, L5, k5, n5⟩, -, X5, ⟨Lc5, hQ5, l5, y5, z5⟩, st5⟩ := X4.virtualBack hx (y := own_m4) (z := own_m4) hown (mvT hZ (own_w hw 47 rfl)) (mvT hZ (own_w hw 48 rfl)) (notFace_of_selects (args := #[]) (mvT hZ (own_w hw 50 rfl))) (mvT hZ (own_w hw 50 rfl)) (mvT hZ (own_w hw 49 rfl)) (by decide) (backOf (W := 0) (rm9 l Z a0 hw [] a1 (2 : Int32) b1 b2 b3 b4 fH fS fN fP h2 n0 Zs2 V_a1_2 (by decide) (by decide)) hZ (own_w hw 51 rfl) (own_w hw 3 rfl) (by decide) (by decide)) q5a q5c (g := (mkF m 125 #[.val (.ref a1), .val (.int p2), .val (.int (3 : Int32)), .val (.int (1 : Int32)), .val (.int (0 : Int32)), .val (.ref ad1), .val (.int (1 : Int32))] [(.int (2 : Int32)), (.ref a1)])) rfl (by rw [hml]; rfl) (Steps.refl _) (argsL := [(.int (2 : Int32))]) (rest := []) (lenOf pd__I_I rfl) rfl (by show 2 * 0 + _ ≤ _; exact Nat.le_of_eq rfl) (hb hby d6_125) (fun _ _ => ⟨rfl, e4', (by decide : 1 + 0 ≤ _), (by decide : 3 + 0 ≤ _)⟩)
  dsimp only [Pt.U, Pt.locs, Pt.cells, Pt.slots] at X5 l5 y5 z5 st5 hQ5
  subst l5 y5 z5
  obtain ⟨rfl, N5q, q5⟩ := hQ5
  have N5 := Fr.app N4 N5q
  have e5' : T5.heap = h2 := q5
  obtain ⟨fs, hr, hrun, hended, hW, hsame⟩ := X5.leave (v := some (.int (1 : Int32))) (fun h => by rw [Bd.returns] at h; cases h)
  refine ⟨_, _, pre0 _ ?_, hrun, hended, _, _, rfl, ?_, ⟨_, rfl⟩, hW, hsame.mono (by decide) (by decide)⟩
  · show Steps p.tables e below (s₁.setTop (mkF m 0 #[.val (.ref a1), .val (.int p2), .val (.int (3 : Int32)), .val (.int (1 : Int32)), .val (.int (0 : Int32)), .unset, .unset] [])) _
    refine XS.iconst X0.here hx rfl (hb hby d6_0) ?_
    show Steps p.tables e below (s₁.setTop (mkF m 1 #[.val (.ref a1), .val (.int p2), .val (.int (3 : Int32)), .val (.int (1 : Int32)), .val (.int (0 : Int32)), .unset, .unset] [(.int (3 : Int32))])) _
    refine st1 _ ?_
    show Steps p.tables e below (T1.setTop (mkF m 3 #[.val (.ref a1), .val (.int p2), .val (.int (3 : Int32)), .val (.int (1 : Int32)), .val (.int (0 : Int32)), .unset, .unset] [(.ref ad1)])) _
    refine XS.astore X1.here hx rfl (hb hby d6_3) rfl rfl (l' := #[.val (.ref a1), .val (.int p2), .val (.int (3 : Int32)), .val (.int (1 : Int32)), .val (.int (0 : Int32)), .val (.ref ad1), .unset]) rfl ?_
    refine XS.iconst X1.here hx rfl (hb hby d6_5) ?_
    refine XS.istore X1.here hx rfl (hb hby d6_6) rfl (l' := #[.val (.ref a1), .val (.int p2), .val (.int (3 : Int32)), .val (.int (1 : Int32)), .val (.int (0 : Int32)), .val (.ref ad1), .val (.int (0 : Int32))]) rfl ?_
    refine XS.iconst X1.here hx rfl (hb hby d6_8) ?_
    refine XS.iloadN X1.here hx rfl (hb hby d6_9) rfl ?_
    show Steps p.tables e below (T1.setTop (mkF m 10 #[.val (.ref a1), .val (.int p2), .val (.int (3 : Int32)), .val (.int (1 : Int32)), .val (.int (0 : Int32)), .val (.ref ad1), .val (.int (0 : Int32))] [(.int (3 : Int32)), (.int (2 : Int32))])) _
    refine XS.icmpNo X1.here hx rfl (hb hby d6_10) rfl (tlt (by decide : (2 : Int32) < (3 : Int32))).2.1 ?_
    show Steps p.tables e below (T1.setTop (mkF m 13 #[.val (.ref a1), .val (.int p2), .val (.int (3 : Int32)), .val (.int (1 : Int32)), .val (.int (0 : Int32)), .val (.ref ad1), .val (.int (0 : Int32))] [])) _
    refine XS.iconst X1.here hx rfl (hb hby d6_13) ?_
    refine XS.iloadN X1.here hx rfl (hb hby d6_14) rfl ?_
    show Steps p.tables e below (T1.setTop (mkF m 15 #[.val (.ref a1), .val (.int p2), .val (.int (3 : Int32)), .val (.int (1 : Int32)), .val (.int (0 : Int32)), .val (.ref ad1), .val (.int (0 : Int32))] [(.int (1 : Int32)), (.int (2 : Int32))])) _
    refine XS.icmpNo X1.here hx rfl (hb hby d6_15) rfl (feq (by decide : ¬ ((2 : Int32) = (1 : Int32)))).1 ?_
    show Steps p.tables e below (T1.setTop (mkF m 18 #[.val (.ref a1), .val (.int p2), .val (.int (3 : Int32)), .val (.int (1 : Int32)), .val (.int (0 : Int32)), .val (.ref ad1), .val (.int (0 : Int32))] [])) _
    refine XS.iconst X1.here hx rfl (hb hby d6_18) ?_
    refine XS.iload X1.here hx rfl (hb hby d6_19) rfl ?_
    show Steps p.tables e below (T1.setTop (mkF m 21 #[.val (.ref a1), .val (.int p2), .val (.int (3 : Int32)), .val (.int (1 : Int32)), .val (.int (0 : Int32)), .val (.ref ad1), .val (.int (0 : Int32))] [(.int (0 : Int32)), (.int (2 : Int32))])) _
    refine XS.icmpNo X1.here hx rfl (hb hby d6_21) rfl (feq (by decide : ¬ ((2 : Int32) = (0 : Int32)))).1 ?_
    show Steps p.tables e below (T1.setTop (mkF m 24 #[.val (.ref a1), .val (.int p2), .val (.int (3 : Int32)), .val (.int (1 : Int32)), .val (.int (0 : Int32)), .val (.ref ad1), .val (.int (0 : Int32))] [])) _
    refine XS.aload X1.here hx rfl (hb hby d6_24) rfl rfl ?_
    refine XS.iload X1.here hx rfl (hb hby d6_26) rfl ?_
    refine XS.iconst X1.here hx rfl (hb hby d6_28) ?_
    show Steps p.tables e below (T1.setTop (mkF m 29 #[.val (.ref a1), .val (.int p2), .val (.int (3 : Int32)), .val (.int (1 : Int32)), .val (.int (0 : Int32)), .val (.ref ad1), .val (.int (0 : Int32))] [(.int (2 : Int32)), (.int (0 : Int32)), (.ref ad1)])) _
    refine st2 _ ?_
    show Steps p.tables e below (T2.setTop (mkF m 30 #[.val (.ref a1), .val (.int p2), .val (.int (3 : Int32)), .val (.int (1 : Int32)), .val (.int (0 : Int32)), .val (.ref ad1), .val (.int (0 : Int32))] [])) _
    refine XS.iinc X2.here hx rfl (hb hby d6_30) rfl (l' := #[.val (.ref a1), .val (.int p2), .val (.int (3 : Int32)), .val (.int (1 : Int32)), .val (.int (0 : Int32)), .val (.ref ad1), .val (.int (1 : Int32))]) rfl ?_
    show Steps p.tables e below (T2.setTop (mkF m 33 #[.val (.ref a1), .val (.int p2), .val (.int (3 : Int32)), .val (.int (1 : Int32)), .val (.int (0 : Int32)), .val (.ref ad1), .val (.int (1 : Int32))] [])) _
    refine XS.iconst X2.here hx rfl (hb hby d6_33) ?_
    refine XS.iloadN X2.here hx rfl (hb hby d6_34) rfl ?_
    show Steps p.tables e below (T2.setTop (mkF m 35 #[.val (.ref a1), .val (.int p2), .val (.int (3 : Int32)), .val (.int (1 : Int32)), .val (.int (0 : Int32)), .val (.ref ad1), .val (.int (1 : Int32))] [(.int (3 : Int32)), (.int (1 : Int32))])) _
    refine XS.icmpNo X2.here hx rfl (hb hby d6_35) rfl (tlt (by decide : (1 : Int32) < (3 : Int32))).2.1 ?_
    show Steps p.tables e below (T2.setTop (mkF m 38 #[.val (.ref a1), .val (.int p2), .val (.int (3 : Int32)), .val (.int (1 : Int32)), .val (.int (0 : Int32)), .val (.ref ad1), .val (.int (1 : Int32))] [])) _
    refine XS.iconst X2.here hx rfl (hb hby d6_38) ?_
    refine XS.iloadN X2.here hx rfl (hb hby d6_39) rfl ?_
    show Steps p.tables e below (T2.setTop (mkF m 40 #[.val (.ref a1), .val (.int p2), .val (.int (3 : Int32)), .val (.int (1 : Int32)), .val (.int (0 : Int32)), .val (.ref ad1), .val (.int (1 : Int32))] [(.int (1 : Int32)), (.int (1 : Int32))])) _
    refine XS.icmpYes X2.here hx rfl (pc0 := 40) (pc' := 58) rfl (hb hby d6_40) rfl (teq (by decide : (1 : Int32) = (1 : Int32))).1 (by decide) (by decide) ?_
    show Steps p.tables e below (T2.setTop (mkF m 58 #[.val (.ref a1), .val (.int p2), .val (.int (3 : Int32)), .val (.int (1 : Int32)), .val (.int (0 : Int32)), .val (.ref ad1), .val (.int (1 : Int32))] [])) _
    refine XS.iconst X2.here hx rfl (hb hby d6_58) ?_
    refine XS.iloadN X2.here hx rfl (hb hby d6_59) rfl ?_
    show Steps p.tables e below (T2.setTop (mkF m 60 #[.val (.ref a1), .val (.int p2), .val (.int (3 : Int32)), .val (.int (1 : Int32)), .val (.int (0 : Int32)), .val (.ref ad1), .val (.int (1 : Int32))] [(.int (1 : Int32)), (.int (0 : Int32))])) _
    refine XS.icmpNo X2.here hx rfl (hb hby d6_60) rfl (feq (by decide : ¬ ((0 : Int32) = (1 : Int32)))).1 ?_
    show Steps p.tables e below (T2.setTop (mkF m 63 #[.val (.ref a1), .val (.int p2), .val (.int (3 : Int32)), .val (.int (1 : Int32)), .val (.int (0 : Int32)), .val (.ref ad1), .val (.int (1 : Int32))] [])) _
    refine XS.iconst X2.here hx rfl (hb hby d6_63) ?_
    refine XS.iload X2.here hx rfl (hb hby d6_64) rfl ?_
    show Steps p.tables e below (T2.setTop (mkF m 66 #[.val (.ref a1), .val (.int p2), .val (.int (3 : Int32)), .val (.int (1 : Int32)), .val (.int (0 : Int32)), .val (.ref ad1), .val (.int (1 : Int32))] [(.int (0 : Int32)), (.int (0 : Int32))])) _
    refine XS.icmpYes X2.here hx rfl (pc0 := 66) (pc' := 78) rfl (hb hby d6_66) rfl (teq (by decide : (0 : Int32) = (0 : Int32))).1 (by decide) (by decide) ?_
    show Steps p.tables e below (T2.setTop (mkF m 78 #[.val (.ref a1), .val (.int p2), .val (.int (3 : Int32)), .val (.int (1 : Int32)), .val (.int (0 : Int32)), .val (.ref ad1), .val (.int (1 : Int32))] [])) _
    refine XS.aloadN X2.here hx rfl (hb hby d6_78) rfl rfl ?_
    refine XS.iloadN X2.here hx rfl (hb hby d6_79) rfl ?_
    show Steps p.tables e below (T2.setTop (mkF m 80 #[.val (.ref a1), .val (.int p2), .val (.int (3 : Int32)), .val (.int (1 : Int32)), .val (.int (0 : Int32)), .val (.ref ad1), .val (.int (1 : Int32))] [(.int p2), (.ref a1)])) _
    refine st3.trans ?_
    show Steps p.tables e below (T3.setTop (mkF m 83 #[.val (.ref a1), .val (.int p2), .val (.int (3 : Int32)), .val (.int (1 : Int32)), .val (.int (0 : Int32)), .val (.ref ad1), .val (.int (1 : Int32))] [(.int (fS p2))])) _
    refine XS.iload X3.here hx rfl (hb hby d6_83) rfl ?_
    show Steps p.tables e below (T3.setTop (mkF m 85 #[.val (.ref a1), .val (.int p2), .val (.int (3 : Int32)), .val (.int (1 : Int32)), .val (.int (0 : Int32)), .val (.ref ad1), .val (.int (1 : Int32))] [(.int (1 : Int32)), (.int (fS p2))])) _
    refine XS.icmpYes X3.here hx rfl (pc0 := 85) (pc' := 90) rfl (hb hby d6_85) rfl (teq hs).1 (by decide) (by decide) ?_
    show Steps p.tables e below (T3.setTop (mkF m 90 #[.val (.ref a1), .val (.int p2), .val (.int (3 : Int32)), .val (.int (1 : Int32)), .val (.int (0 : Int32)), .val (.ref ad1), .val (.int (1 : Int32))] [])) _
    refine XS.aloadN X3.here hx rfl (hb hby d6_90) rfl rfl ?_
    refine XS.iloadN X3.here hx rfl (hb hby d6_91) rfl ?_
    show Steps p.tables e below (T3.setTop (mkF m 92 #[.val (.ref a1), .val (.int p2), .val (.int (3 : Int32)), .val (.int (1 : Int32)), .val (.int (0 : Int32)), .val (.ref ad1), .val (.int (1 : Int32))] [(.int p2), (.ref a1)])) _
    refine st4.trans ?_
    show Steps p.tables e below (T4.setTop (mkF m 95 #[.val (.ref a1), .val (.int p2), .val (.int (3 : Int32)), .val (.int (1 : Int32)), .val (.int (0 : Int32)), .val (.ref ad1), .val (.int (1 : Int32))] [(.int (fH p2))])) _
    refine XS.iload X4.here hx rfl (hb hby d6_95) rfl ?_
    refine XS.iconst X4.here hx rfl (hb hby d6_97) ?_
    show Steps p.tables e below (T4.setTop (mkF m 98 #[.val (.ref a1), .val (.int p2), .val (.int (3 : Int32)), .val (.int (1 : Int32)), .val (.int (0 : Int32)), .val (.ref ad1), .val (.int (1 : Int32))] [(.int (1 : Int32)), (.int (1 : Int32)), (.int (fH p2))])) _
    refine XS.icmpNo X4.here hx rfl (hb hby d6_98) rfl (flt (by decide : ¬ ((1 : Int32) < (1 : Int32)))).1 ?_
    show Steps p.tables e below (T4.setTop (mkF m 101 #[.val (.ref a1), .val (.int p2), .val (.int (3 : Int32)), .val (.int (1 : Int32)), .val (.int (0 : Int32)), .val (.ref ad1), .val (.int (1 : Int32))] [(.int (fH p2))])) _
    refine XS.aload X4.here hx rfl (hb hby d6_101) rfl rfl ?_
    refine XS.iconst X4.here hx rfl (hb hby d6_103) ?_
    show Steps p.tables e below (T4.setTop (mkF m 104 #[.val (.ref a1), .val (.int p2), .val (.int (3 : Int32)), .val (.int (1 : Int32)), .val (.int (0 : Int32)), .val (.ref ad1), .val (.int (1 : Int32))] [(.int (0 : Int32)), (.ref ad1), (.int (fH p2))])) _
    refine own_ld X4 hx hZ e4' A_ad1_2 (by decide) (by decide) (g := (mkF m 104 #[.val (.ref a1), .val (.int p2), .val (.int (3 : Int32)), .val (.int (1 : Int32)), .val (.int (0 : Int32)), .val (.ref ad1), .val (.int (1 : Int32))] [(.int (0 : Int32)), (.ref ad1), (.int (fH p2))])) rfl rfl (hb hby d6_104) _ ?_
    show Steps p.tables e below (T4.setTop (mkF m 105 #[.val (.ref a1), .val (.int p2), .val (.int (3 : Int32)), .val (.int (1 : Int32)), .val (.int (0 : Int32)), .val (.ref ad1), .val (.int (1 : Int32))] [(.int (2 : Int32)), (.int (fH p2))])) _
    refine XS.goto X4.here hx rfl (pc0 := 105) (pc' := 109) rfl (hb hby d6_105) (by decide) (by decide) ?_
    show Steps p.tables e below (T4.setTop (mkF m 109 #[.val (.ref a1), .val (.int p2), .val (.int (3 : Int32)), .val (.int (1 : Int32)), .val (.int (0 : Int32)), .val (.ref ad1), .val (.int (1 : Int32))] [(.int (2 : Int32)), (.int (fH p2))])) _
    refine XS.icmpYes X4.here hx rfl (pc0 := 109) (pc' := 114) rfl (hb hby d6_109) rfl (teq hf).1 (by decide) (by decide) ?_
    show Steps p.tables e below (T4.setTop (mkF m 114 #[.val (.ref a1), .val (.int p2), .val (.int (3 : Int32)), .val (.int (1 : Int32)), .val (.int (0 : Int32)), .val (.ref ad1), .val (.int (1 : Int32))] [])) _
    refine XS.iload X4.here hx rfl (hb hby d6_114) rfl ?_
    refine XS.iconst X4.here hx rfl (hb hby d6_116) ?_
    show Steps p.tables e below (T4.setTop (mkF m 117 #[.val (.ref a1), .val (.int p2), .val (.int (3 : Int32)), .val (.int (1 : Int32)), .val (.int (0 : Int32)), .val (.ref ad1), .val (.int (1 : Int32))] [(.int (1 : Int32)), (.int (1 : Int32))])) _
    refine XS.icmpNo X4.here hx rfl (hb hby d6_117) rfl (flt (by decide : ¬ ((1 : Int32) < (1 : Int32)))).1 ?_
    show Steps p.tables e below (T4.setTop (mkF m 120 #[.val (.ref a1), .val (.int p2), .val (.int (3 : Int32)), .val (.int (1 : Int32)), .val (.int (0 : Int32)), .val (.ref ad1), .val (.int (1 : Int32))] [])) _
    refine XS.aloadN X4.here hx rfl (hb hby d6_120) rfl rfl ?_
    refine XS.aload X4.here hx rfl (hb hby d6_121) rfl rfl ?_
    refine XS.iconst X4.here hx rfl (hb hby d6_123) ?_
    show Steps p.tables e below (T4.setTop (mkF m 124 #[.val (.ref a1), .val (.int p2), .val (.int (3 : Int32)), .val (.int (1 : Int32)), .val (.int (0 : Int32)), .val (.ref ad1), .val (.int (1 : Int32))] [(.int (0 : Int32)), (.ref ad1), (.ref a1)])) _
    refine own_ld X4 hx hZ e4' A_ad1_2 (by decide) (by decide) (g := (mkF m 124 #[.val (.ref a1), .val (.int p2), .val (.int (3 : Int32)), .val (.int (1 : Int32)), .val (.int (0 : Int32)), .val (.ref ad1), .val (.int (1 : Int32))] [(.int (0 : Int32)), (.ref ad1), (.ref a1)])) rfl rfl (hb hby d6_124) _ ?_
    show Steps p.tables e below (T4.setTop (mkF m 125 #[.val (.ref a1), .val (.int p2), .val (.int (3 : Int32)), .val (.int (1 : Int32)), .val (.int (0 : Int32)), .val (.ref ad1), .val (.int (1 : Int32))] [(.int (2 : Int32)), (.ref a1)])) _
    refine st5.trans ?_
    show Steps p.tables e below (T5.setTop (mkF m 128 #[.val (.ref a1), .val (.int p2), .val (.int (3 : Int32)), .val (.int (1 : Int32)), .val (.int (0 : Int32)), .val (.ref ad1), .val (.int (1 : Int32))] [(.int (fN (2 : Int32)))])) _
    refine XS.iload X5.here hx rfl (hb hby d6_128) rfl ?_
    refine XS.iconst X5.here hx rfl (hb hby d6_130) ?_
    show Steps p.tables e below (T5.setTop (mkF m 131 #[.val (.ref a1), .val (.int p2), .val (.int (3 : Int32)), .val (.int (1 : Int32)), .val (.int (0 : Int32)), .val (.ref ad1), .val (.int (1 : Int32))] [(.int (2 : Int32)), (.int (1 : Int32)), (.int (fN (2 : Int32)))])) _
    refine XS.icmpYes X5.here hx rfl (pc0 := 131) (pc' := 141) rfl (hb hby d6_131) rfl (tlt (by decide : (1 : Int32) < (2 : Int32))).1 (by decide) (by decide) ?_
    show Steps p.tables e below (T5.setTop (mkF m 141 #[.val (.ref a1), .val (.int p2), .val (.int (3 : Int32)), .val (.int (1 : Int32)), .val (.int (0 : Int32)), .val (.ref ad1), .val (.int (1 : Int32))] [(.int (fN (2 : Int32)))])) _
    refine XS.iconst X5.here hx rfl (hb hby d6_141) ?_
    show Steps p.tables e below (T5.setTop (mkF m 142 #[.val (.ref a1), .val (.int p2), .val (.int (3 : Int32)), .val (.int (1 : Int32)), .val (.int (0 : Int32)), .val (.ref ad1), .val (.int (1 : Int32))] [(.int (-1 : Int32)), (.int (fN (2 : Int32)))])) _
    refine XS.icmpYes X5.here hx rfl (pc0 := 142) (pc' := 147) rfl (hb hby d6_142) rfl (teq hn0).1 (by decide) (by decide) ?_
    show Steps p.tables e below (T5.setTop (mkF m 147 #[.val (.ref a1), .val (.int p2), .val (.int (3 : Int32)), .val (.int (1 : Int32)), .val (.int (0 : Int32)), .val (.ref ad1), .val (.int (1 : Int32))] [])) _
    refine XS.iload X5.here hx rfl (hb hby d6_147) rfl ?_
    refine XS.iconst X5.here hx rfl (hb hby d6_149) ?_
    show Steps p.tables e below (T5.setTop (mkF m 150 #[.val (.ref a1), .val (.int p2), .val (.int (3 : Int32)), .val (.int (1 : Int32)), .val (.int (0 : Int32)), .val (.ref ad1), .val (.int (1 : Int32))] [(.int (2 : Int32)), (.int (1 : Int32))])) _
    refine XS.icmpYes X5.here hx rfl (pc0 := 150) (pc' := 180) rfl (hb hby d6_150) rfl (tlt (by decide : (1 : Int32) < (2 : Int32))).1 (by decide) (by decide) ?_
    show Steps p.tables e below (T5.setTop (mkF m 180 #[.val (.ref a1), .val (.int p2), .val (.int (3 : Int32)), .val (.int (1 : Int32)), .val (.int (0 : Int32)), .val (.ref ad1), .val (.int (1 : Int32))] [])) _
    refine XS.iload X5.here hx rfl (hb hby d6_180) rfl ?_
    refine XS.iconst X5.here hx rfl (hb hby d6_182) ?_
    show Steps p.tables e below (T5.setTop (mkF m 183 #[.val (.ref a1), .val (.int p2), .val (.int (3 : Int32)), .val (.int (1 : Int32)), .val (.int (0 : Int32)), .val (.ref ad1), .val (.int (1 : Int32))] [(.int (3 : Int32)), (.int (1 : Int32))])) _
    refine XS.icmpYes X5.here hx rfl (pc0 := 183) (pc' := 200) rfl (hb hby d6_183) rfl (tlt (by decide : (1 : Int32) < (3 : Int32))).1 (by decide) (by decide) ?_
    show Steps p.tables e below (T5.setTop (mkF m 200 #[.val (.ref a1), .val (.int p2), .val (.int (3 : Int32)), .val (.int (1 : Int32)), .val (.int (0 : Int32)), .val (.ref ad1), .val (.int (1 : Int32))] [])) _
    refine XS.iconst X5.here hx rfl (hb hby d6_200) ?_
    show Steps p.tables e below (T5.setTop (mkF m 201 #[.val (.ref a1), .val (.int p2), .val (.int (3 : Int32)), .val (.int (1 : Int32)), .val (.int (0 : Int32)), .val (.ref ad1), .val (.int (1 : Int32))] [(.int (1 : Int32))])) _
    exact retN X5 hx (t := .boolean) Bd.returns (by simp) (hb hby d6_201) hr
  · show Q6_3_1_0 Z a1 p2 b1 b2 b3 b4 fH fS fN fP h0 n0 _ T5.heap _
    rw [e5']
    exact ⟨rfl, N5, K2⟩
theorem ef_6_3_2_1 (m : MethodId) (a1 : Addr) (p2 : Int32) : entryFrame m #[(.ref a1), (.int p2), (.int (3 : Int32)), (.int (2 : Int32)), (.int (1 : Int32))] 7 = mkF m 0 #[.val (.ref a1), .val (.int p2), .val (.int (3 : Int32)), .val (.int (2 : Int32)), .val (.int (1 : Int32)), .unset, .unset] [] := by first | (simp [entryFrame, mkF, argsToLocals, Value.category]; done) | rfl
def Q6_3_2_1 (Z : State) (a1 : Addr) (p2 : Int32) (b1 b2 b3 b4 : Addr) (fH fS fN fP : Int32 → Int32) (h0 : Heap) (n0 : Nat) (v : Option Value) (h : Heap) (L : List Loc) : Prop := v = some (.int (1 : Int32)) ∧ Fr n0 L ∧ Keep h0 h []
set_option maxRecDepth 65536 in
set_option maxHeartbeats 40000000 in
theorem rm6_3_2_1 (l : Launch) (Z : State) (a0 : Array Value) (hw : ∀ d ∈ tables_1, d.before a0 Z = true) (ws : List Jvm.Cond) (a1 : Addr) (p2 : Int32) (b1 b2 b3 b4 : Addr) (fH fS fN fP : Int32 → Int32) (h0 : Heap) (n0 : Nat) (Z0 : n0 ≤ h0.size) (V0 : own_L Z n0 h0 a1 b1 b2 b3 b4 fH fS fN fP) (l0 : ¬ p2 < 0) (l1 : p2 < (2 : Int32)) (hs : (fS p2) = (1 : Int32)) (hf : (fH p2) = (0 : Int32)) (hn0 : (fN (0 : Int32)) = (-1 : Int32)) :
    MetFree l (⟨"com/example/process_stepper/processstepper/equivalence/IntListsRemovePinLaw", "matches", "(Lcom/example/process_stepper/processstepper/equivalence/IntLists;IIII)Z"⟩ : MethodName) (head1 (Jvm.Cond.code (⟨"com/example/process_stepper/processstepper/equivalence/IntListsRemovePinLaw", "matches", "(Lcom/example/process_stepper/processstepper/equivalence/IntLists;IIII)Z"⟩ : MethodName) method_3_code 7 (some .boolean) :: ws) ({ frames := 1, cells := 1, slots := 3, locals := 14 } : Room)) (fun a U => a = #[(.ref a1), (.int p2), (.int (3 : Int32)), (.int (2 : Int32)), (.int (1 : Int32))] ∧ Z.Warmed39 U.vm ∧ U.heap = h0) (fun _ _ _ _ _ => True) (fun _ U o U' => ∃ v L, o = .returned v ∧ Q6_3_2_1 Z a1 p2 b1 b2 b3 b4 fH fS fN fP h0 n0 v U'.heap L ∧ FrameEnd U o U' L ({ frames := 1, cells := 1, slots := 3, locals := 14 } : Room).cells ({ frames := 1, cells := 1, slots := 3, locals := 14 } : Room).slots) := by
  refine MetFree.of_bodySF (plainFor_of_name pn_6) hisR ?_
  intro p e s m args below meth c s₁ Bd hml0 hP hK
  obtain ⟨rfl, hZ, hh⟩ := hP
  have hx := Bd.exec
  have hby := Bd.bytes
  have hml : c.maxLocals = 7 := hml0
  have hown : s.vm.findClass "com/example/process_stepper/processstepper/equivalence/IntListsRemovePinLaw" = some m.cls := findClass_of_methodNamed Bd.named
  have hnm := (name_of_methodNamed Bd.named Bd.method).1
  have X0 : Stand p l e ({ frames := 1, cells := 1, slots := 3, locals := 14 } : Room) s m #[(.ref a1), (.int p2), (.int (3 : Int32)), (.int (2 : Int32)), (.int (1 : Int32))] below meth c s₁ [] 0 0 := Stand.of_body Bd
  have e0 : s₁.heap = h0 := by rw [← hh, Bd.state]; rfl
  have N0 := Fr.nil n0
  have pre0 : ∀ t, Steps p.tables e below (s₁.setTop (mkF m 0 #[.val (.ref a1), .val (.int p2), .val (.int (3 : Int32)), .val (.int (2 : Int32)), .val (.int (1 : Int32)), .unset, .unset] [])) t → Steps p.tables e below (s₁.setTop (entryFrame m #[(.ref a1), (.int p2), (.int (3 : Int32)), (.int (2 : Int32)), (.int (1 : Int32))] 7)) t := fun t k => castTop (ef_6_3_2_1 m a1 p2) k
  obtain ⟨T1, h1, k1, X1, e1, E1, A1, st1⟩ := newP X0 hx hZ (own_w hw 10 rfl) e0 (g := (mkF m 1 #[.val (.ref a1), .val (.int p2), .val (.int (3 : Int32)), .val (.int (2 : Int32)), .val (.int (1 : Int32)), .unset, .unset] [(.int (3 : Int32))])) rfl (hb hby d6_1) rfl (by decide) (cap := 3) (by decide) (by decide) (by decide) (by decide)
  obtain ⟨ad1, g1⟩ : ∃ z, z = h0.size := ⟨_, rfl⟩
  rw [← g1] at A1 st1
  have lt_a1_ad1 : a1 < ad1 := Nat.lt_of_lt_of_eq (own_L_lta V0) g1.symm
  have lt_b4_ad1 : b4 < ad1 := Nat.lt_of_lt_of_eq (own_L_lt V0) g1.symm
  have gn_ad1 : n0 ≤ ad1 := Nat.le_trans Z0 (Nat.le_of_eq g1.symm)
  have sz_ad1 : h0.size ≤ ad1 := Nat.le_trans (Keep.refl h0 []).1 (Nat.le_of_eq g1.symm)
  have V_a1_1 : own_L Z n0 h1 a1 b1 b2 b3 b4 fH fS fN fP := own_L_ext V0 E1
  have A_ad1_1 : own_arr Z h1 ad1 (3 : Int32) own_zero := own_arr_new A1 (by decide)
  have K1 : Keep h0 h1 [] := (Keep.refl h0 []).ext E1
  have Zs1 : n0 ≤ h1.size := Nat.le_trans Z0 E1.1
  obtain ⟨T2, h2, X2, e2, W2, st2⟩ := own_st X1 hx hZ e1 A_ad1_1 (by decide) (by decide) (g := (mkF m 74 #[.val (.ref a1), .val (.int p2), .val (.int (3 : Int32)), .val (.int (2 : Int32)), .val (.int (1 : Int32)), .val (.ref ad1), .val (.int (0 : Int32))] [(.int (0 : Int32)), (.int (0 : Int32)), (.ref ad1)])) rfl rfl (hb hby d6_74)
  have V_a1_2 : own_L Z n0 h2 a1 b1 b2 b3 b4 fH fS fN fP := own_L_out V_a1_1 W2 lt_b4_ad1
  have A_ad1_2 : own_arr Z h2 ad1 (3 : Int32) (own_upd own_zero (0 : Int32) (0 : Int32)) := own_arr_same A_ad1_1 W2 (by decide) (by decide)
  have K2 : Keep h0 h2 [] := K1.wr W2 (Or.inr sz_ad1)
  have N2 := Fr.snoc X2 N0 gn_ad1
  have Zs2 : n0 ≤ h2.size := by rw [W2.size]; exact Zs1
  obtain ⟨cq3, kq3, q3a, q3b, q3c⟩ := isOf hZ e2 (V_a1_2.1)
  obtain ⟨_, _, ⟨T3, L3, k3, n3⟩, -, X3, ⟨Lc3, hQ3, l3, y3, z3⟩, st3⟩ := X2.virtualBack hx (y := own_m2) (z := own_m2) hown (mvT hZ (own_w hw 37 rfl)) (mvT hZ (own_w hw 38 rfl)) (notFace_of_selects (args := #[]) (mvT hZ (own_w hw 40 rfl))) (mvT hZ (own_w hw 40 rfl)) (mvT hZ (own_w hw 39 rfl)) (by decide) (backOf (W := 0) (rm7 l Z a0 hw [] a1 p2 b1 b2 b3 b4 fH fS fN fP h2 n0 Zs2 V_a1_2 l0 l1) hZ (own_w hw 41 rfl) (own_w hw 3 rfl) (by decide) (by decide)) q3a q3c (g := (mkF m 80 #[.val (.ref a1), .val (.int p2), .val (.int (3 : Int32)), .val (.int (2 : Int32)), .val (.int (1 : Int32)), .val (.ref ad1), .val (.int (1 : Int32))] [(.int p2), (.ref a1)])) rfl (by rw [hml]; rfl) (Steps.refl _) (argsL := [(.int p2)]) (rest := []) (lenOf pd__I_I rfl) rfl (by show 2 * 0 + _ ≤ _; exact Nat.le_of_eq rfl) (hb hby d6_80) (fun _ _ => ⟨rfl, e2, (by decide : 1 + 0 ≤ _), (by decide : 3 + 0 ≤ _)⟩)
  dsimp only [Pt.U, Pt.locs, Pt.cells, Pt.slots] at X3 l3 y3 z3 st3 hQ3
  subst l3 y3 z3
  obtain ⟨rfl, N3q, q3⟩ := hQ3
  have N3 := Fr.app N2 N3q
  have e3' : T3.heap = h2 := q3
  obtain ⟨cq4, kq4, q4a, q4b, q4c⟩ := isOf hZ e3' (V_a1_2.1)
  obtain ⟨_, _, ⟨T4, L4, k4, n4⟩, -, X4, ⟨Lc4, hQ4, l4, y4, z4⟩, st4⟩ := X3.virtualBack hx (y := own_m3) (z := own_m3) hown (mvT hZ (own_w hw 42 rfl)) (mvT hZ (own_w hw 43 rfl)) (notFace_of_selects (args := #[]) (mvT hZ (own_w hw 45 rfl))) (mvT hZ (own_w hw 45 rfl)) (mvT hZ (own_w hw 44 rfl)) (by decide) (backOf (W := 0) (rm8 l Z a0 hw [] a1 p2 b1 b2 b3 b4 fH fS fN fP h2 n0 Zs2 V_a1_2 l0 l1) hZ (own_w hw 46 rfl) (own_w hw 3 rfl) (by decide) (by decide)) q4a q4c (g := (mkF m 92 #[.val (.ref a1), .val (.int p2), .val (.int (3 : Int32)), .val (.int (2 : Int32)), .val (.int (1 : Int32)), .val (.ref ad1), .val (.int (1 : Int32))] [(.int p2), (.ref a1)])) rfl (by rw [hml]; rfl) (Steps.refl _) (argsL := [(.int p2)]) (rest := []) (lenOf pd__I_I rfl) rfl (by show 2 * 0 + _ ≤ _; exact Nat.le_of_eq rfl) (hb hby d6_92) (fun _ _ => ⟨rfl, e3', (by decide : 1 + 0 ≤ _), (by decide : 3 + 0 ≤ _)⟩)
  dsimp only [Pt.U, Pt.locs, Pt.cells, Pt.slots] at X4 l4 y4 z4 st4 hQ4
  subst l4 y4 z4
  obtain ⟨rfl, N4q, q4⟩ := hQ4
  have N4 := Fr.app N3 N4q
  have e4' : T4.heap = h2 := q4
  obtain ⟨cq5, kq5, q5a, q5b, q5c⟩ := isOf hZ e4' (V_a1_2.1)
  obtain ⟨_, _, ⟨T5, L5, k5, n5⟩, -, X5, ⟨Lc5, hQ5, l5, y5, z5⟩, st5⟩ := X4.virtualBack hx (y := own_m4) (z := own_m4) hown (mvT hZ (own_w hw 47 rfl)) (mvT hZ (own_w hw 48 rfl)) (notFace_of_selects (args := #[]) (mvT hZ (own_w hw 50 rfl))) (mvT hZ (own_w hw 50 rfl)) (mvT hZ (own_w hw 49 rfl)) (by decide) (backOf (W := 0) (rm9 l Z a0 hw [] a1 (0 : Int32) b1 b2 b3 b4 fH fS fN fP h2 n0 Zs2 V_a1_2 (by decide) (by decide)) hZ (own_w hw 51 rfl) (own_w hw 3 rfl) (by decide) (by decide)) q5a q5c (g := (mkF m 125 #[.val (.ref a1), .val (.int p2), .val (.int (3 : Int32)), .val (.int (2 : Int32)), .val (.int (1 : Int32)), .val (.ref ad1), .val (.int (1 : Int32))] [(.int (0 : Int32)), (.ref a1)])) rfl (by rw [hml]; rfl) (Steps.refl _) (argsL := [(.int (0 : Int32))]) (rest := []) (lenOf pd__I_I rfl) rfl (by show 2 * 0 + _ ≤ _; exact Nat.le_of_eq rfl) (hb hby d6_125) (fun _ _ => ⟨rfl, e4', (by decide : 1 + 0 ≤ _), (by decide : 3 + 0 ≤ _)⟩)
  dsimp only [Pt.U, Pt.locs, Pt.cells, Pt.slots] at X5 l5 y5 z5 st5 hQ5
  subst l5 y5 z5
  obtain ⟨rfl, N5q, q5⟩ := hQ5
  have N5 := Fr.app N4 N5q
  have e5' : T5.heap = h2 := q5
  obtain ⟨fs, hr, hrun, hended, hW, hsame⟩ := X5.leave (v := some (.int (1 : Int32))) (fun h => by rw [Bd.returns] at h; cases h)
  refine ⟨_, _, pre0 _ ?_, hrun, hended, _, _, rfl, ?_, ⟨_, rfl⟩, hW, hsame.mono (by decide) (by decide)⟩
  · show Steps p.tables e below (s₁.setTop (mkF m 0 #[.val (.ref a1), .val (.int p2), .val (.int (3 : Int32)), .val (.int (2 : Int32)), .val (.int (1 : Int32)), .unset, .unset] [])) _
    refine XS.iconst X0.here hx rfl (hb hby d6_0) ?_
    show Steps p.tables e below (s₁.setTop (mkF m 1 #[.val (.ref a1), .val (.int p2), .val (.int (3 : Int32)), .val (.int (2 : Int32)), .val (.int (1 : Int32)), .unset, .unset] [(.int (3 : Int32))])) _
    refine st1 _ ?_
    show Steps p.tables e below (T1.setTop (mkF m 3 #[.val (.ref a1), .val (.int p2), .val (.int (3 : Int32)), .val (.int (2 : Int32)), .val (.int (1 : Int32)), .unset, .unset] [(.ref ad1)])) _
    refine XS.astore X1.here hx rfl (hb hby d6_3) rfl rfl (l' := #[.val (.ref a1), .val (.int p2), .val (.int (3 : Int32)), .val (.int (2 : Int32)), .val (.int (1 : Int32)), .val (.ref ad1), .unset]) rfl ?_
    refine XS.iconst X1.here hx rfl (hb hby d6_5) ?_
    refine XS.istore X1.here hx rfl (hb hby d6_6) rfl (l' := #[.val (.ref a1), .val (.int p2), .val (.int (3 : Int32)), .val (.int (2 : Int32)), .val (.int (1 : Int32)), .val (.ref ad1), .val (.int (0 : Int32))]) rfl ?_
    refine XS.iconst X1.here hx rfl (hb hby d6_8) ?_
    refine XS.iloadN X1.here hx rfl (hb hby d6_9) rfl ?_
    show Steps p.tables e below (T1.setTop (mkF m 10 #[.val (.ref a1), .val (.int p2), .val (.int (3 : Int32)), .val (.int (2 : Int32)), .val (.int (1 : Int32)), .val (.ref ad1), .val (.int (0 : Int32))] [(.int (3 : Int32)), (.int (2 : Int32))])) _
    refine XS.icmpNo X1.here hx rfl (hb hby d6_10) rfl (tlt (by decide : (2 : Int32) < (3 : Int32))).2.1 ?_
    show Steps p.tables e below (T1.setTop (mkF m 13 #[.val (.ref a1), .val (.int p2), .val (.int (3 : Int32)), .val (.int (2 : Int32)), .val (.int (1 : Int32)), .val (.ref ad1), .val (.int (0 : Int32))] [])) _
    refine XS.iconst X1.here hx rfl (hb hby d6_13) ?_
    refine XS.iloadN X1.here hx rfl (hb hby d6_14) rfl ?_
    show Steps p.tables e below (T1.setTop (mkF m 15 #[.val (.ref a1), .val (.int p2), .val (.int (3 : Int32)), .val (.int (2 : Int32)), .val (.int (1 : Int32)), .val (.ref ad1), .val (.int (0 : Int32))] [(.int (2 : Int32)), (.int (2 : Int32))])) _
    refine XS.icmpYes X1.here hx rfl (pc0 := 15) (pc' := 33) rfl (hb hby d6_15) rfl (teq (by decide : (2 : Int32) = (2 : Int32))).1 (by decide) (by decide) ?_
    show Steps p.tables e below (T1.setTop (mkF m 33 #[.val (.ref a1), .val (.int p2), .val (.int (3 : Int32)), .val (.int (2 : Int32)), .val (.int (1 : Int32)), .val (.ref ad1), .val (.int (0 : Int32))] [])) _
    refine XS.iconst X1.here hx rfl (hb hby d6_33) ?_
    refine XS.iloadN X1.here hx rfl (hb hby d6_34) rfl ?_
    show Steps p.tables e below (T1.setTop (mkF m 35 #[.val (.ref a1), .val (.int p2), .val (.int (3 : Int32)), .val (.int (2 : Int32)), .val (.int (1 : Int32)), .val (.ref ad1), .val (.int (0 : Int32))] [(.int (3 : Int32)), (.int (1 : Int32))])) _
    refine XS.icmpNo X1.here hx rfl (hb hby d6_35) rfl (tlt (by decide : (1 : Int32) < (3 : Int32))).2.1 ?_
    show Steps p.tables e below (T1.setTop (mkF m 38 #[.val (.ref a1), .val (.int p2), .val (.int (3 : Int32)), .val (.int (2 : Int32)), .val (.int (1 : Int32)), .val (.ref ad1), .val (.int (0 : Int32))] [])) _
    refine XS.iconst X1.here hx rfl (hb hby d6_38) ?_
    refine XS.iloadN X1.here hx rfl (hb hby d6_39) rfl ?_
    show Steps p.tables e below (T1.setTop (mkF m 40 #[.val (.ref a1), .val (.int p2), .val (.int (3 : Int32)), .val (.int (2 : Int32)), .val (.int (1 : Int32)), .val (.ref ad1), .val (.int (0 : Int32))] [(.int (2 : Int32)), (.int (1 : Int32))])) _
    refine XS.icmpNo X1.here hx rfl (hb hby d6_40) rfl (feq (by decide : ¬ ((1 : Int32) = (2 : Int32)))).1 ?_
    show Steps p.tables e below (T1.setTop (mkF m 43 #[.val (.ref a1), .val (.int p2), .val (.int (3 : Int32)), .val (.int (2 : Int32)), .val (.int (1 : Int32)), .val (.ref ad1), .val (.int (0 : Int32))] [])) _
    refine XS.iconst X1.here hx rfl (hb hby d6_43) ?_
    refine XS.iload X1.here hx rfl (hb hby d6_44) rfl ?_
    show Steps p.tables e below (T1.setTop (mkF m 46 #[.val (.ref a1), .val (.int p2), .val (.int (3 : Int32)), .val (.int (2 : Int32)), .val (.int (1 : Int32)), .val (.ref ad1), .val (.int (0 : Int32))] [(.int (1 : Int32)), (.int (1 : Int32))])) _
    refine XS.icmpYes X1.here hx rfl (pc0 := 46) (pc' := 58) rfl (hb hby d6_46) rfl (teq (by decide : (1 : Int32) = (1 : Int32))).1 (by decide) (by decide) ?_
    show Steps p.tables e below (T1.setTop (mkF m 58 #[.val (.ref a1), .val (.int p2), .val (.int (3 : Int32)), .val (.int (2 : Int32)), .val (.int (1 : Int32)), .val (.ref ad1), .val (.int (0 : Int32))] [])) _
    refine XS.iconst X1.here hx rfl (hb hby d6_58) ?_
    refine XS.iloadN X1.here hx rfl (hb hby d6_59) rfl ?_
    show Steps p.tables e below (T1.setTop (mkF m 60 #[.val (.ref a1), .val (.int p2), .val (.int (3 : Int32)), .val (.int (2 : Int32)), .val (.int (1 : Int32)), .val (.ref ad1), .val (.int (0 : Int32))] [(.int (2 : Int32)), (.int (0 : Int32))])) _
    refine XS.icmpNo X1.here hx rfl (hb hby d6_60) rfl (feq (by decide : ¬ ((0 : Int32) = (2 : Int32)))).1 ?_
    show Steps p.tables e below (T1.setTop (mkF m 63 #[.val (.ref a1), .val (.int p2), .val (.int (3 : Int32)), .val (.int (2 : Int32)), .val (.int (1 : Int32)), .val (.ref ad1), .val (.int (0 : Int32))] [])) _
    refine XS.iconst X1.here hx rfl (hb hby d6_63) ?_
    refine XS.iload X1.here hx rfl (hb hby d6_64) rfl ?_
    show Steps p.tables e below (T1.setTop (mkF m 66 #[.val (.ref a1), .val (.int p2), .val (.int (3 : Int32)), .val (.int (2 : Int32)), .val (.int (1 : Int32)), .val (.ref ad1), .val (.int (0 : Int32))] [(.int (1 : Int32)), (.int (0 : Int32))])) _
    refine XS.icmpNo X1.here hx rfl (hb hby d6_66) rfl (feq (by decide : ¬ ((0 : Int32) = (1 : Int32)))).1 ?_
    show Steps p.tables e below (T1.setTop (mkF m 69 #[.val (.ref a1), .val (.int p2), .val (.int (3 : Int32)), .val (.int (2 : Int32)), .val (.int (1 : Int32)), .val (.ref ad1), .val (.int (0 : Int32))] [])) _
    refine XS.aload X1.here hx rfl (hb hby d6_69) rfl rfl ?_
    refine XS.iload X1.here hx rfl (hb hby d6_71) rfl ?_
    refine XS.iconst X1.here hx rfl (hb hby d6_73) ?_
    show Steps p.tables e below (T1.setTop (mkF m 74 #[.val (.ref a1), .val (.int p2), .val (.int (3 : Int32)), .val (.int (2 : Int32)), .val (.int (1 : Int32)), .val (.ref ad1), .val (.int (0 : Int32))] [(.int (0 : Int32)), (.int (0 : Int32)), (.ref ad1)])) _
    refine st2 _ ?_
    show Steps p.tables e below (T2.setTop (mkF m 75 #[.val (.ref a1), .val (.int p2), .val (.int (3 : Int32)), .val (.int (2 : Int32)), .val (.int (1 : Int32)), .val (.ref ad1), .val (.int (0 : Int32))] [])) _
    refine XS.iinc X2.here hx rfl (hb hby d6_75) rfl (l' := #[.val (.ref a1), .val (.int p2), .val (.int (3 : Int32)), .val (.int (2 : Int32)), .val (.int (1 : Int32)), .val (.ref ad1), .val (.int (1 : Int32))]) rfl ?_
    show Steps p.tables e below (T2.setTop (mkF m 78 #[.val (.ref a1), .val (.int p2), .val (.int (3 : Int32)), .val (.int (2 : Int32)), .val (.int (1 : Int32)), .val (.ref ad1), .val (.int (1 : Int32))] [])) _
    refine XS.aloadN X2.here hx rfl (hb hby d6_78) rfl rfl ?_
    refine XS.iloadN X2.here hx rfl (hb hby d6_79) rfl ?_
    show Steps p.tables e below (T2.setTop (mkF m 80 #[.val (.ref a1), .val (.int p2), .val (.int (3 : Int32)), .val (.int (2 : Int32)), .val (.int (1 : Int32)), .val (.ref ad1), .val (.int (1 : Int32))] [(.int p2), (.ref a1)])) _
    refine st3.trans ?_
    show Steps p.tables e below (T3.setTop (mkF m 83 #[.val (.ref a1), .val (.int p2), .val (.int (3 : Int32)), .val (.int (2 : Int32)), .val (.int (1 : Int32)), .val (.ref ad1), .val (.int (1 : Int32))] [(.int (fS p2))])) _
    refine XS.iload X3.here hx rfl (hb hby d6_83) rfl ?_
    show Steps p.tables e below (T3.setTop (mkF m 85 #[.val (.ref a1), .val (.int p2), .val (.int (3 : Int32)), .val (.int (2 : Int32)), .val (.int (1 : Int32)), .val (.ref ad1), .val (.int (1 : Int32))] [(.int (1 : Int32)), (.int (fS p2))])) _
    refine XS.icmpYes X3.here hx rfl (pc0 := 85) (pc' := 90) rfl (hb hby d6_85) rfl (teq hs).1 (by decide) (by decide) ?_
    show Steps p.tables e below (T3.setTop (mkF m 90 #[.val (.ref a1), .val (.int p2), .val (.int (3 : Int32)), .val (.int (2 : Int32)), .val (.int (1 : Int32)), .val (.ref ad1), .val (.int (1 : Int32))] [])) _
    refine XS.aloadN X3.here hx rfl (hb hby d6_90) rfl rfl ?_
    refine XS.iloadN X3.here hx rfl (hb hby d6_91) rfl ?_
    show Steps p.tables e below (T3.setTop (mkF m 92 #[.val (.ref a1), .val (.int p2), .val (.int (3 : Int32)), .val (.int (2 : Int32)), .val (.int (1 : Int32)), .val (.ref ad1), .val (.int (1 : Int32))] [(.int p2), (.ref a1)])) _
    refine st4.trans ?_
    show Steps p.tables e below (T4.setTop (mkF m 95 #[.val (.ref a1), .val (.int p2), .val (.int (3 : Int32)), .val (.int (2 : Int32)), .val (.int (1 : Int32)), .val (.ref ad1), .val (.int (1 : Int32))] [(.int (fH p2))])) _
    refine XS.iload X4.here hx rfl (hb hby d6_95) rfl ?_
    refine XS.iconst X4.here hx rfl (hb hby d6_97) ?_
    show Steps p.tables e below (T4.setTop (mkF m 98 #[.val (.ref a1), .val (.int p2), .val (.int (3 : Int32)), .val (.int (2 : Int32)), .val (.int (1 : Int32)), .val (.ref ad1), .val (.int (1 : Int32))] [(.int (1 : Int32)), (.int (1 : Int32)), (.int (fH p2))])) _
    refine XS.icmpNo X4.here hx rfl (hb hby d6_98) rfl (flt (by decide : ¬ ((1 : Int32) < (1 : Int32)))).1 ?_
    show Steps p.tables e below (T4.setTop (mkF m 101 #[.val (.ref a1), .val (.int p2), .val (.int (3 : Int32)), .val (.int (2 : Int32)), .val (.int (1 : Int32)), .val (.ref ad1), .val (.int (1 : Int32))] [(.int (fH p2))])) _
    refine XS.aload X4.here hx rfl (hb hby d6_101) rfl rfl ?_
    refine XS.iconst X4.here hx rfl (hb hby d6_103) ?_
    show Steps p.tables e below (T4.setTop (mkF m 104 #[.val (.ref a1), .val (.int p2), .val (.int (3 : Int32)), .val (.int (2 : Int32)), .val (.int (1 : Int32)), .val (.ref ad1), .val (.int (1 : Int32))] [(.int (0 : Int32)), (.ref ad1), (.int (fH p2))])) _
    refine own_ld X4 hx hZ e4' A_ad1_2 (by decide) (by decide) (g := (mkF m 104 #[.val (.ref a1), .val (.int p2), .val (.int (3 : Int32)), .val (.int (2 : Int32)), .val (.int (1 : Int32)), .val (.ref ad1), .val (.int (1 : Int32))] [(.int (0 : Int32)), (.ref ad1), (.int (fH p2))])) rfl rfl (hb hby d6_104) _ ?_
    show Steps p.tables e below (T4.setTop (mkF m 105 #[.val (.ref a1), .val (.int p2), .val (.int (3 : Int32)), .val (.int (2 : Int32)), .val (.int (1 : Int32)), .val (.ref ad1), .val (.int (1 : Int32))] [(.int (0 : Int32)), (.int (fH p2))])) _
    refine XS.goto X4.here hx rfl (pc0 := 105) (pc' := 109) rfl (hb hby d6_105) (by decide) (by decide) ?_
    show Steps p.tables e below (T4.setTop (mkF m 109 #[.val (.ref a1), .val (.int p2), .val (.int (3 : Int32)), .val (.int (2 : Int32)), .val (.int (1 : Int32)), .val (.ref ad1), .val (.int (1 : Int32))] [(.int (0 : Int32)), (.int (fH p2))])) _
    refine XS.icmpYes X4.here hx rfl (pc0 := 109) (pc' := 114) rfl (hb hby d6_109) rfl (teq hf).1 (by decide) (by decide) ?_
    show Steps p.tables e below (T4.setTop (mkF m 114 #[.val (.ref a1), .val (.int p2), .val (.int (3 : Int32)), .val (.int (2 : Int32)), .val (.int (1 : Int32)), .val (.ref ad1), .val (.int (1 : Int32))] [])) _
    refine XS.iload X4.here hx rfl (hb hby d6_114) rfl ?_
    refine XS.iconst X4.here hx rfl (hb hby d6_116) ?_
    show Steps p.tables e below (T4.setTop (mkF m 117 #[.val (.ref a1), .val (.int p2), .val (.int (3 : Int32)), .val (.int (2 : Int32)), .val (.int (1 : Int32)), .val (.ref ad1), .val (.int (1 : Int32))] [(.int (1 : Int32)), (.int (1 : Int32))])) _
    refine XS.icmpNo X4.here hx rfl (hb hby d6_117) rfl (flt (by decide : ¬ ((1 : Int32) < (1 : Int32)))).1 ?_
    show Steps p.tables e below (T4.setTop (mkF m 120 #[.val (.ref a1), .val (.int p2), .val (.int (3 : Int32)), .val (.int (2 : Int32)), .val (.int (1 : Int32)), .val (.ref ad1), .val (.int (1 : Int32))] [])) _
    refine XS.aloadN X4.here hx rfl (hb hby d6_120) rfl rfl ?_
    refine XS.aload X4.here hx rfl (hb hby d6_121) rfl rfl ?_
    refine XS.iconst X4.here hx rfl (hb hby d6_123) ?_
    show Steps p.tables e below (T4.setTop (mkF m 124 #[.val (.ref a1), .val (.int p2), .val (.int (3 : Int32)), .val (.int (2 : Int32)), .val (.int (1 : Int32)), .val (.ref ad1), .val (.int (1 : Int32))] [(.int (0 : Int32)), (.ref ad1), (.ref a1)])) _
    refine own_ld X4 hx hZ e4' A_ad1_2 (by decide) (by decide) (g := (mkF m 124 #[.val (.ref a1), .val (.int p2), .val (.int (3 : Int32)), .val (.int (2 : Int32)), .val (.int (1 : Int32)), .val (.ref ad1), .val (.int (1 : Int32))] [(.int (0 : Int32)), (.ref ad1), (.ref a1)])) rfl rfl (hb hby d6_124) _ ?_
    show Steps p.tables e below (T4.setTop (mkF m 125 #[.val (.ref a1), .val (.int p2), .val (.int (3 : Int32)), .val (.int (2 : Int32)), .val (.int (1 : Int32)), .val (.ref ad1), .val (.int (1 : Int32))] [(.int (0 : Int32)), (.ref a1)])) _
    refine st5.trans ?_
    show Steps p.tables e below (T5.setTop (mkF m 128 #[.val (.ref a1), .val (.int p2), .val (.int (3 : Int32)), .val (.int (2 : Int32)), .val (.int (1 : Int32)), .val (.ref ad1), .val (.int (1 : Int32))] [(.int (fN (0 : Int32)))])) _
    refine XS.iload X5.here hx rfl (hb hby d6_128) rfl ?_
    refine XS.iconst X5.here hx rfl (hb hby d6_130) ?_
    show Steps p.tables e below (T5.setTop (mkF m 131 #[.val (.ref a1), .val (.int p2), .val (.int (3 : Int32)), .val (.int (2 : Int32)), .val (.int (1 : Int32)), .val (.ref ad1), .val (.int (1 : Int32))] [(.int (2 : Int32)), (.int (1 : Int32)), (.int (fN (0 : Int32)))])) _
    refine XS.icmpYes X5.here hx rfl (pc0 := 131) (pc' := 141) rfl (hb hby d6_131) rfl (tlt (by decide : (1 : Int32) < (2 : Int32))).1 (by decide) (by decide) ?_
    show Steps p.tables e below (T5.setTop (mkF m 141 #[.val (.ref a1), .val (.int p2), .val (.int (3 : Int32)), .val (.int (2 : Int32)), .val (.int (1 : Int32)), .val (.ref ad1), .val (.int (1 : Int32))] [(.int (fN (0 : Int32)))])) _
    refine XS.iconst X5.here hx rfl (hb hby d6_141) ?_
    show Steps p.tables e below (T5.setTop (mkF m 142 #[.val (.ref a1), .val (.int p2), .val (.int (3 : Int32)), .val (.int (2 : Int32)), .val (.int (1 : Int32)), .val (.ref ad1), .val (.int (1 : Int32))] [(.int (-1 : Int32)), (.int (fN (0 : Int32)))])) _
    refine XS.icmpYes X5.here hx rfl (pc0 := 142) (pc' := 147) rfl (hb hby d6_142) rfl (teq hn0).1 (by decide) (by decide) ?_
    show Steps p.tables e below (T5.setTop (mkF m 147 #[.val (.ref a1), .val (.int p2), .val (.int (3 : Int32)), .val (.int (2 : Int32)), .val (.int (1 : Int32)), .val (.ref ad1), .val (.int (1 : Int32))] [])) _
    refine XS.iload X5.here hx rfl (hb hby d6_147) rfl ?_
    refine XS.iconst X5.here hx rfl (hb hby d6_149) ?_
    show Steps p.tables e below (T5.setTop (mkF m 150 #[.val (.ref a1), .val (.int p2), .val (.int (3 : Int32)), .val (.int (2 : Int32)), .val (.int (1 : Int32)), .val (.ref ad1), .val (.int (1 : Int32))] [(.int (2 : Int32)), (.int (1 : Int32))])) _
    refine XS.icmpYes X5.here hx rfl (pc0 := 150) (pc' := 180) rfl (hb hby d6_150) rfl (tlt (by decide : (1 : Int32) < (2 : Int32))).1 (by decide) (by decide) ?_
    show Steps p.tables e below (T5.setTop (mkF m 180 #[.val (.ref a1), .val (.int p2), .val (.int (3 : Int32)), .val (.int (2 : Int32)), .val (.int (1 : Int32)), .val (.ref ad1), .val (.int (1 : Int32))] [])) _
    refine XS.iload X5.here hx rfl (hb hby d6_180) rfl ?_
    refine XS.iconst X5.here hx rfl (hb hby d6_182) ?_
    show Steps p.tables e below (T5.setTop (mkF m 183 #[.val (.ref a1), .val (.int p2), .val (.int (3 : Int32)), .val (.int (2 : Int32)), .val (.int (1 : Int32)), .val (.ref ad1), .val (.int (1 : Int32))] [(.int (3 : Int32)), (.int (1 : Int32))])) _
    refine XS.icmpYes X5.here hx rfl (pc0 := 183) (pc' := 200) rfl (hb hby d6_183) rfl (tlt (by decide : (1 : Int32) < (3 : Int32))).1 (by decide) (by decide) ?_
    show Steps p.tables e below (T5.setTop (mkF m 200 #[.val (.ref a1), .val (.int p2), .val (.int (3 : Int32)), .val (.int (2 : Int32)), .val (.int (1 : Int32)), .val (.ref ad1), .val (.int (1 : Int32))] [])) _
    refine XS.iconst X5.here hx rfl (hb hby d6_200) ?_
    show Steps p.tables e below (T5.setTop (mkF m 201 #[.val (.ref a1), .val (.int p2), .val (.int (3 : Int32)), .val (.int (2 : Int32)), .val (.int (1 : Int32)), .val (.ref ad1), .val (.int (1 : Int32))] [(.int (1 : Int32))])) _
    exact retN X5 hx (t := .boolean) Bd.returns (by simp) (hb hby d6_201) hr
  · show Q6_3_2_1 Z a1 p2 b1 b2 b3 b4 fH fS fN fP h0 n0 _ T5.heap _
    rw [e5']
    exact ⟨rfl, N5, K2⟩
/-! the law's numbers -/
theorem own_mod (p : Int32) (n r : Int32) (d : Int) (hd : n.toInt = d) (d0 : 0 < d) (h : r = ((p &&& (2147483647 : Int32)) % n)) : 0 ≤ r.toInt ∧ r.toInt < d := by
  have a := (c_and p 2147483647 (by decide)).1
  have e := (c_irem (p &&& (2147483647 : Int32)) n d hd).1 a
  rw [← h] at e
  have := Int.emod_nonneg (p &&& (2147483647 : Int32)).toInt (Int.ne_of_gt d0)
  have := Int.emod_lt_of_pos (p &&& (2147483647 : Int32)).toInt d0
  omega
theorem own_bit (p : Int32) : (p &&& (1 : Int32)) = (0 : Int32) ∨ (p &&& (1 : Int32)) = (1 : Int32) := by
  have a := c_and p 1 (by decide)
  have k : (1 : Int32).toInt = 1 := by decide
  rw [k] at a
  rcases (show (p &&& (1 : Int32)).toInt = 0 ∨ (p &&& (1 : Int32)).toInt = 1 by omega) with h | h
  · exact Or.inl (Int32.toInt_inj.mp h)
  · exact Or.inr (Int32.toInt_inj.mp h)
theorem own_small (r : Int32) (h0 : 0 ≤ r.toInt) (h3 : r.toInt < 3) : r = (0 : Int32) ∨ r = (1 : Int32) ∨ r = (2 : Int32) := by
  rcases (show r.toInt = 0 ∨ r.toInt = 1 ∨ r.toInt = 2 by omega) with h | h | h
  · exact Or.inl (Int32.toInt_inj.mp h)
  · exact Or.inr (Or.inl (Int32.toInt_inj.mp h))
  · exact Or.inr (Or.inr (Int32.toInt_inj.mp h))
theorem pn_0 : plainName "com/example/process_stepper/processstepper/equivalence/IntListsRemovePinLaw" = true := by first | (simp [plainName, overriddenIn]; done) | decide +kernel
theorem pd__II_V : parseMethodDescriptor "(II)V" = some ⟨[.int, .int], none⟩ := by decide +kernel
theorem pd__Lcom_example_process_stepper_processstepper_equivalence_IntLists_IIII_Z : parseMethodDescriptor "(Lcom/example/process_stepper/processstepper/equivalence/IntLists;IIII)Z" = some ⟨[(.object "com/example/process_stepper/processstepper/equivalence/IntLists"), .int, .int, .int, .int], some .boolean⟩ := by decide +kernel
abbrev own_m5 : MethodName := ⟨"com/example/process_stepper/processstepper/equivalence/IntLists", "<init>", "(II)V"⟩
abbrev own_m6 : MethodName := ⟨"com/example/process_stepper/processstepper/equivalence/IntLists", "push", "(II)V"⟩
abbrev own_m7 : MethodName := ⟨"com/example/process_stepper/processstepper/equivalence/IntLists", "remove", "(II)V"⟩
abbrev own_m8 : MethodName := ⟨"com/example/process_stepper/processstepper/equivalence/IntListsRemovePinLaw", "matches", "(Lcom/example/process_stepper/processstepper/equivalence/IntLists;IIII)Z"⟩
theorem ef_0 (m : MethodId) (p1 : Int32) (p2 : Int32) (p3 : Int32) : entryFrame m #[(.int p1), (.int p2), (.int p3)] maxLocals = mkF m 0 #[.val (.int p1), .val (.int p2), .val (.int p3), .unset, .unset, .unset, .unset, .unset, .unset] [] := by first | (simp [entryFrame, mkF, argsToLocals, Value.category, maxLocals]; done) | rfl
def Q0_1_0 (Z : State) (p1 p2 p3 : Int32) (h0 : Heap) (n0 : Nat) (v : Option Value) (h : Heap) (L : List Loc) : Prop := v = some (.int (1 : Int32)) ∧ Fr n0 L
set_option maxRecDepth 65536 in
set_option maxHeartbeats 40000000 in
theorem rm0_1_0 (l : Launch) (Z : State) (a0 : Array Value) (hw : ∀ d ∈ tables_1, d.before a0 Z = true) (ws : List Jvm.Cond) (p1 p2 p3 : Int32) (h0 : Heap) (n0 : Nat) (Z0 : n0 ≤ h0.size) (hN : ((1 : Int32) + ((p1 &&& (2147483647 : Int32)) % (3 : Int32))) = (1 : Int32)) (hE : ((p2 &&& (2147483647 : Int32)) % (1 : Int32)) = (0 : Int32)) :
    MetFree l x (head1 (Jvm.Cond.code x code maxLocals ret :: ws) room_1) (fun a U => a = #[(.int p1), (.int p2), (.int p3)] ∧ Z.Warmed39 U.vm ∧ U.heap = h0) (fun _ _ _ _ _ => True) (fun _ U o U' => ∃ v L, o = .returned v ∧ Q0_1_0 Z p1 p2 p3 h0 n0 v U'.heap L ∧ FrameEnd U o U' L room_1.cells room_1.slots) := by
  refine MetFree.of_bodySF (plainFor_of_name pn_0) hisR ?_
  intro p e s m args below meth c s₁ Bd hml0 hP hK
  obtain ⟨rfl, hZ, hh⟩ := hP
  have hx := Bd.exec
  have hby := Bd.bytes
  have hml : c.maxLocals = 9 := hml0
  have hown : s.vm.findClass "com/example/process_stepper/processstepper/equivalence/IntListsRemovePinLaw" = some m.cls := findClass_of_methodNamed Bd.named
  have hnm := (name_of_methodNamed Bd.named Bd.method).1
  have X0 : Stand p l e room_1 s m #[(.int p1), (.int p2), (.int p3)] below meth c s₁ [] 0 0 := Stand.of_body Bd
  have e0 : s₁.heap = h0 := by rw [← hh, Bd.state]; rfl
  have N0 := Fr.nil n0
  have pre0 : ∀ t, Steps p.tables e below (s₁.setTop (mkF m 0 #[.val (.int p1), .val (.int p2), .val (.int p3), .unset, .unset, .unset, .unset, .unset, .unset] [])) t → Steps p.tables e below (s₁.setTop (entryFrame m #[(.int p1), (.int p2), (.int p3)] maxLocals)) t := fun t k => castTop (ef_0 m p1 p2 p3) k
  obtain ⟨ll, hll⟩ : ∃ z : Int32, z = (p3 &&& (1 : Int32)) := ⟨_, rfl⟩
  have hl : ll = (0 : Int32) ∨ ll = (1 : Int32) := by rw [hll]; exact own_bit p3
  obtain ⟨oo, hoo⟩ : ∃ z : Int32, z = ((1 : Int32) - ll) := ⟨_, rfl⟩
  obtain ⟨T1, h1, X1, e1, E1, A1, D1, -, st1⟩ := newO X0 hx hZ hown (own_w hw 1 rfl) (own_w hw 2 rfl) (own_w hw 3 rfl) e0 (g := (mkF m 28 #[.val (.int p1), .val (.int p2), .val (.int p3), .val (.int (1 : Int32)), .val (.int (0 : Int32)), .val (.int ll), .val (.int oo), .unset, .unset] [])) rfl (hb hby at_28) (by decide) (by decide)
  obtain ⟨ad1, g1⟩ : ∃ z, z = h0.size := ⟨_, rfl⟩
  rw [← g1] at A1 D1 st1
  have gn_ad1 : n0 ≤ ad1 := Nat.le_trans Z0 (Nat.le_of_eq g1.symm)
  have sz_ad1 : h0.size ≤ ad1 := Nat.le_trans (Keep.refl h0 []).1 (Nat.le_of_eq g1.symm)
  have E_ad1_1 : Exa Z h1 ad1 "com/example/process_stepper/processstepper/equivalence/IntLists" := A1
  have F_heads_ad1_1 : Fld Z h1 ad1 "com/example/process_stepper/processstepper/equivalence/IntLists" "heads" "[I" .null := D1 (Or.inl (own_w hw 12 rfl)) (ty := (.array .int)) (by decide)
  have F_sizes_ad1_1 : Fld Z h1 ad1 "com/example/process_stepper/processstepper/equivalence/IntLists" "sizes" "[I" .null := D1 (Or.inl (own_w hw 18 rfl)) (ty := (.array .int)) (by decide)
  have F_next_ad1_1 : Fld Z h1 ad1 "com/example/process_stepper/processstepper/equivalence/IntLists" "next" "[I" .null := D1 (Or.inl (own_w hw 20 rfl)) (ty := (.array .int)) (by decide)
  have F_previous_ad1_1 : Fld Z h1 ad1 "com/example/process_stepper/processstepper/equivalence/IntLists" "previous" "[I" .null := D1 (Or.inl (own_w hw 22 rfl)) (ty := (.array .int)) (by decide)
  have K1 : Keep h0 h1 [] := (Keep.refl h0 []).ext E1
  have Zs1 : n0 ≤ h1.size := Nat.le_trans Z0 E1.1
  obtain ⟨_, _, ⟨T2, L2, k2, n2⟩, -, X2, ⟨Lc2, hQ2, l2, y2, z2⟩, st2⟩ := X1.specialBack hx (y := own_m5) rfl hown (mvT hZ (own_w hw 4 rfl)) (mvT hZ (own_w hw 5 rfl)) (mvT hZ (own_w hw 6 rfl)) (by decide) (backOf (W := 1) (rm1 l Z a0 hw [] ad1 h1 n0 Zs1 E_ad1_1 F_heads_ad1_1 F_sizes_ad1_1 F_next_ad1_1 F_previous_ad1_1 gn_ad1) hZ (own_w hw 6 rfl) (own_w hw 3 rfl) (by decide) (by decide)) (g := (mkF m 34 #[.val (.int p1), .val (.int p2), .val (.int p3), .val (.int (1 : Int32)), .val (.int (0 : Int32)), .val (.int ll), .val (.int oo), .unset, .unset] [(.int (3 : Int32)), (.int (2 : Int32)), (.ref ad1), (.ref ad1)])) rfl (by rw [hml]; rfl) (Steps.refl _) (a := ad1) (argsL := [(.int (2 : Int32)), (.int (3 : Int32))]) (rest := [(.ref ad1)]) (lenOf pd__II_V rfl) rfl (by show 2 * 0 + _ ≤ _; exact Nat.le_of_eq rfl) (hb hby at_34) (fun _ _ => ⟨rfl, e1, (by decide : 1 + 4 ≤ _), (by decide : 4 + 10 ≤ _)⟩)
  dsimp only [Pt.U, Pt.locs, Pt.cells, Pt.slots] at X2 l2 y2 z2 st2 hQ2
  subst l2 y2 z2
  obtain ⟨rfl, N2q, b1, b2, b3, b4, K2q, -, V2⟩ := hQ2
  have N2 := Fr.app N0 N2q
  have Zs2 : n0 ≤ T2.heap.size := Nat.le_trans Zs1 K2q.1
  obtain ⟨cq3, kq3, q3a, q3b, q3c⟩ := isOf hZ rfl (V2.1)
  obtain ⟨_, _, ⟨T3, L3, k3, n3⟩, -, X3, ⟨Lc3, hQ3, l3, y3, z3⟩, st3⟩ := X2.virtualBack hx (y := own_m6) (z := own_m6) hown (mvT hZ (own_w hw 23 rfl)) (mvT hZ (own_w hw 24 rfl)) (notFace_of_selects (args := #[]) (mvT hZ (own_w hw 26 rfl))) (mvT hZ (own_w hw 26 rfl)) (mvT hZ (own_w hw 25 rfl)) (by decide) (backOf (W := 0) (rm4 l Z a0 hw [] ad1 ll (0 : Int32) b1 b2 b3 b4 own_H0 own_zero own_zero own_zero T2.heap n0 Zs2 V2 (by rcases hl with rfl | rfl <;> decide +kernel) (by rcases hl with rfl | rfl <;> decide +kernel) (by decide) (by decide) (by unfold own_in; rcases hl with rfl | rfl <;> decide +kernel)) hZ (own_w hw 27 rfl) (own_w hw 3 rfl) (by decide) (by decide)) q3a q3c (g := (mkF m 44 #[.val (.int p1), .val (.int p2), .val (.int p3), .val (.int (1 : Int32)), .val (.int (0 : Int32)), .val (.int ll), .val (.int oo), .val (.ref ad1), .unset] [(.int (0 : Int32)), (.int ll), (.ref ad1)])) rfl (by rw [hml]; rfl) (Steps.refl _) (argsL := [(.int ll), (.int (0 : Int32))]) (rest := []) (lenOf pd__II_V rfl) rfl (by show 2 * 0 + _ ≤ _; exact Nat.le_of_eq rfl) (hb hby at_44) (fun _ _ => ⟨rfl, rfl, (by decide : 5 + 0 ≤ _), (by decide : 14 + 0 ≤ _)⟩)
  dsimp only [Pt.U, Pt.locs, Pt.cells, Pt.slots] at X3 l3 y3 z3 st3 hQ3
  subst l3 y3 z3
  obtain ⟨rfl, N3q, K3q, V3⟩ := hQ3
  have N3 := Fr.app N2 N3q
  have Zs3 : n0 ≤ T3.heap.size := Nat.le_trans Zs2 K3q.1
  obtain ⟨cq4, kq4, q4a, q4b, q4c⟩ := isOf hZ rfl (V3.1)
  obtain ⟨_, _, ⟨T4, L4, k4, n4⟩, -, X4, ⟨Lc4, hQ4, l4, y4, z4⟩, st4⟩ := X3.virtualBack hx (y := own_m7) (z := own_m7) hown (mvT hZ (own_w hw 28 rfl)) (mvT hZ (own_w hw 29 rfl)) (notFace_of_selects (args := #[]) (mvT hZ (own_w hw 31 rfl))) (mvT hZ (own_w hw 31 rfl)) (mvT hZ (own_w hw 30 rfl)) (by decide) (backOf (W := 0) (rm5 l Z a0 hw [] ad1 ll (0 : Int32) b1 b2 b3 b4 (own_upd own_H0 ll (0 : Int32)) (own_upd own_zero ll (own_zero ll + (1 : Int32))) (own_upd own_zero (0 : Int32) (own_H0 ll)) (own_pP own_H0 own_zero ll (0 : Int32)) T3.heap n0 Zs3 V3 (by rcases hl with rfl | rfl <;> decide +kernel) (by rcases hl with rfl | rfl <;> decide +kernel) (by decide) (by decide) (by unfold own_in; rcases hl with rfl | rfl <;> decide +kernel) (by unfold own_in; rcases hl with rfl | rfl <;> decide +kernel)) hZ (own_w hw 32 rfl) (own_w hw 3 rfl) (by decide) (by decide)) q4a q4c (g := (mkF m 79 #[.val (.int p1), .val (.int p2), .val (.int p3), .val (.int (1 : Int32)), .val (.int (0 : Int32)), .val (.int ll), .val (.int oo), .val (.ref ad1), .unset] [(.int (0 : Int32)), (.int ll), (.ref ad1)])) rfl (by rw [hml]; rfl) (Steps.refl _) (argsL := [(.int ll), (.int (0 : Int32))]) (rest := []) (lenOf pd__II_V rfl) rfl (by show 2 * 0 + _ ≤ _; exact Nat.le_of_eq rfl) (hb hby at_79) (fun _ _ => ⟨rfl, rfl, (by decide : 5 + 0 ≤ _), (by decide : 14 + 0 ≤ _)⟩)
  dsimp only [Pt.U, Pt.locs, Pt.cells, Pt.slots] at X4 l4 y4 z4 st4 hQ4
  subst l4 y4 z4
  obtain ⟨rfl, N4q, K4q, V4⟩ := hQ4
  have N4 := Fr.app N3 N4q
  have Zs4 : n0 ≤ T4.heap.size := Nat.le_trans Zs3 K4q.1
  obtain ⟨_, _, ⟨T5, L5, k5, n5⟩, -, X5, ⟨Lc5, hQ5, l5, y5, z5⟩, st5⟩ := Jvm.LawKit.callS X4 hx (y := own_m8) hown (mvT hZ (own_w hw 33 rfl)) (mvT hZ (own_w hw 34 rfl)) (mvT hZ (own_w hw 35 rfl)) (mvT hZ (own_w hw 36 rfl)) (by decide) (backOf (W := 0) (rm6_1_0_m1 l Z a0 hw [] ad1 ll b1 b2 b3 b4 (own_rH (own_upd own_H0 ll (0 : Int32)) (own_upd own_zero (0 : Int32) (own_H0 ll)) (own_pP own_H0 own_zero ll (0 : Int32)) ll (0 : Int32)) (own_upd (own_upd own_zero ll (own_zero ll + (1 : Int32))) ll ((own_upd own_zero ll (own_zero ll + (1 : Int32))) ll - (1 : Int32))) (own_rN (own_upd own_zero (0 : Int32) (own_H0 ll)) (own_pP own_H0 own_zero ll (0 : Int32)) (0 : Int32)) (own_rP (own_upd own_zero (0 : Int32) (own_H0 ll)) (own_pP own_H0 own_zero ll (0 : Int32)) (0 : Int32)) T4.heap n0 Zs4 V4 (by rcases hl with rfl | rfl <;> decide +kernel) (by rcases hl with rfl | rfl <;> decide +kernel) (by rcases hl with rfl | rfl <;> decide +kernel) (by rcases hl with rfl | rfl <;> decide +kernel)) hZ (own_w hw 36 rfl) (own_w hw 35 rfl) (by decide) (by decide)) (g := (mkF m 90 #[.val (.int p1), .val (.int p2), .val (.int p3), .val (.int (1 : Int32)), .val (.int (0 : Int32)), .val (.int ll), .val (.int oo), .val (.ref ad1), .unset] [(.int (-1 : Int32)), (.int (0 : Int32)), (.int (1 : Int32)), (.int ll), (.ref ad1)])) rfl (by rw [hml]; rfl) (argsL := [(.ref ad1), (.int ll), (.int (1 : Int32)), (.int (0 : Int32)), (.int (-1 : Int32))]) (rest := []) (lenOf pd__Lcom_example_process_stepper_processstepper_equivalence_IntLists_IIII_Z rfl) rfl (by show 2 * 0 + _ ≤ _; exact Nat.le_of_eq rfl) (hb hby at_90) (fun _ _ => ⟨rfl, rfl, (by decide : 5 + 1 ≤ _), (by decide : 14 + 3 ≤ _)⟩)
  dsimp only [Pt.U, Pt.locs, Pt.cells, Pt.slots] at X5 l5 y5 z5 st5 hQ5
  subst l5 y5 z5
  obtain ⟨rfl, N5q, K5q⟩ := hQ5
  have N5 := Fr.app N4 N5q
  have V5 : own_L Z n0 T5.heap ad1 b1 b2 b3 b4 (own_rH (own_upd own_H0 ll (0 : Int32)) (own_upd own_zero (0 : Int32) (own_H0 ll)) (own_pP own_H0 own_zero ll (0 : Int32)) ll (0 : Int32)) (own_upd (own_upd own_zero ll (own_zero ll + (1 : Int32))) ll ((own_upd own_zero ll (own_zero ll + (1 : Int32))) ll - (1 : Int32))) (own_rN (own_upd own_zero (0 : Int32) (own_H0 ll)) (own_pP own_H0 own_zero ll (0 : Int32)) (0 : Int32)) (own_rP (own_upd own_zero (0 : Int32) (own_H0 ll)) (own_pP own_H0 own_zero ll (0 : Int32)) (0 : Int32)) := own_L_keep V4 K5q nin0 nin0 nin0 nin0 nin0
  have Zs5 : n0 ≤ T5.heap.size := Nat.le_trans Zs4 K5q.1
  obtain ⟨cq6, kq6, q6a, q6b, q6c⟩ := isOf hZ rfl (V5.1)
  obtain ⟨_, _, ⟨T6, L6, k6, n6⟩, -, X6, ⟨Lc6, hQ6, l6, y6, z6⟩, st6⟩ := X5.virtualBack hx (y := own_m3) (z := own_m3) hown (mvT hZ (own_w hw 42 rfl)) (mvT hZ (own_w hw 43 rfl)) (notFace_of_selects (args := #[]) (mvT hZ (own_w hw 45 rfl))) (mvT hZ (own_w hw 45 rfl)) (mvT hZ (own_w hw 44 rfl)) (by decide) (backOf (W := 0) (rm8 l Z a0 hw [] ad1 oo b1 b2 b3 b4 (own_rH (own_upd own_H0 ll (0 : Int32)) (own_upd own_zero (0 : Int32) (own_H0 ll)) (own_pP own_H0 own_zero ll (0 : Int32)) ll (0 : Int32)) (own_upd (own_upd own_zero ll (own_zero ll + (1 : Int32))) ll ((own_upd own_zero ll (own_zero ll + (1 : Int32))) ll - (1 : Int32))) (own_rN (own_upd own_zero (0 : Int32) (own_H0 ll)) (own_pP own_H0 own_zero ll (0 : Int32)) (0 : Int32)) (own_rP (own_upd own_zero (0 : Int32) (own_H0 ll)) (own_pP own_H0 own_zero ll (0 : Int32)) (0 : Int32)) T5.heap n0 Zs5 V5 (by subst hoo; rcases hl with rfl | rfl <;> decide +kernel) (by subst hoo; rcases hl with rfl | rfl <;> decide +kernel)) hZ (own_w hw 46 rfl) (own_w hw 3 rfl) (by decide) (by decide)) q6a q6c (g := (mkF m 150 #[.val (.int p1), .val (.int p2), .val (.int p3), .val (.int (1 : Int32)), .val (.int (0 : Int32)), .val (.int ll), .val (.int oo), .val (.ref ad1), .val (.int (1 : Int32))] [(.int oo), (.ref ad1)])) rfl (by rw [hml]; rfl) (Steps.refl _) (argsL := [(.int oo)]) (rest := []) (lenOf pd__I_I rfl) rfl (by show 2 * 0 + _ ≤ _; exact Nat.le_of_eq rfl) (hb hby at_150) (fun _ _ => ⟨rfl, rfl, (by decide : 6 + 0 ≤ _), (by decide : 17 + 0 ≤ _)⟩)
  dsimp only [Pt.U, Pt.locs, Pt.cells, Pt.slots] at X6 l6 y6 z6 st6 hQ6
  subst l6 y6 z6
  obtain ⟨rfl, N6q, q6⟩ := hQ6
  have N6 := Fr.app N5 N6q
  have e6' : T6.heap = T5.heap := q6
  obtain ⟨cq7, kq7, q7a, q7b, q7c⟩ := isOf hZ e6' (V5.1)
  obtain ⟨_, _, ⟨T7, L7, k7, n7⟩, -, X7, ⟨Lc7, hQ7, l7, y7, z7⟩, st7⟩ := X6.virtualBack hx (y := own_m2) (z := own_m2) hown (mvT hZ (own_w hw 37 rfl)) (mvT hZ (own_w hw 38 rfl)) (notFace_of_selects (args := #[]) (mvT hZ (own_w hw 40 rfl))) (mvT hZ (own_w hw 40 rfl)) (mvT hZ (own_w hw 39 rfl)) (by decide) (backOf (W := 0) (rm7 l Z a0 hw [] ad1 oo b1 b2 b3 b4 (own_rH (own_upd own_H0 ll (0 : Int32)) (own_upd own_zero (0 : Int32) (own_H0 ll)) (own_pP own_H0 own_zero ll (0 : Int32)) ll (0 : Int32)) (own_upd (own_upd own_zero ll (own_zero ll + (1 : Int32))) ll ((own_upd own_zero ll (own_zero ll + (1 : Int32))) ll - (1 : Int32))) (own_rN (own_upd own_zero (0 : Int32) (own_H0 ll)) (own_pP own_H0 own_zero ll (0 : Int32)) (0 : Int32)) (own_rP (own_upd own_zero (0 : Int32) (own_H0 ll)) (own_pP own_H0 own_zero ll (0 : Int32)) (0 : Int32)) T5.heap n0 Zs5 V5 (by subst hoo; rcases hl with rfl | rfl <;> decide +kernel) (by subst hoo; rcases hl with rfl | rfl <;> decide +kernel)) hZ (own_w hw 41 rfl) (own_w hw 3 rfl) (by decide) (by decide)) q7a q7c (g := (mkF m 161 #[.val (.int p1), .val (.int p2), .val (.int p3), .val (.int (1 : Int32)), .val (.int (0 : Int32)), .val (.int ll), .val (.int oo), .val (.ref ad1), .val (.int (1 : Int32))] [(.int oo), (.ref ad1)])) rfl (by rw [hml]; rfl) (Steps.refl _) (argsL := [(.int oo)]) (rest := []) (lenOf pd__I_I rfl) rfl (by show 2 * 0 + _ ≤ _; exact Nat.le_of_eq rfl) (hb hby at_161) (fun _ _ => ⟨rfl, e6', (by decide : 6 + 0 ≤ _), (by decide : 17 + 0 ≤ _)⟩)
  dsimp only [Pt.U, Pt.locs, Pt.cells, Pt.slots] at X7 l7 y7 z7 st7 hQ7
  subst l7 y7 z7
  obtain ⟨rfl, N7q, q7⟩ := hQ7
  have N7 := Fr.app N6 N7q
  have e7' : T7.heap = T5.heap := q7
  obtain ⟨fs, hr, hrun, hended, hW, hsame⟩ := X7.leave (v := some (.int (1 : Int32))) (fun h => by rw [Bd.returns] at h; cases h)
  refine ⟨_, _, pre0 _ ?_, hrun, hended, _, _, rfl, ?_, ⟨_, rfl⟩, hW, hsame.mono (by decide) (by decide)⟩
  · show Steps p.tables e below (s₁.setTop (mkF m 0 #[.val (.int p1), .val (.int p2), .val (.int p3), .unset, .unset, .unset, .unset, .unset, .unset] [])) _
    refine XS.iconst X0.here hx rfl (hb hby at_0) ?_
    refine XS.iloadN X0.here hx rfl (hb hby at_1) rfl ?_
    show Steps p.tables e below (s₁.setTop (mkF m 2 #[.val (.int p1), .val (.int p2), .val (.int p3), .unset, .unset, .unset, .unset, .unset, .unset] [(.int p1), (.int (1 : Int32))])) _
    refine X0.ldcInt hx hown (mvT hZ (own_w hw 0 rfl)) (g := (mkF m 2 #[.val (.int p1), .val (.int p2), .val (.int p3), .unset, .unset, .unset, .unset, .unset, .unset] [(.int p1), (.int (1 : Int32))])) rfl (hb hby at_2) _ ?_
    show Steps p.tables e below (s₁.setTop (mkF m 4 #[.val (.int p1), .val (.int p2), .val (.int p3), .unset, .unset, .unset, .unset, .unset, .unset] [(.int (2147483647 : Int32)), (.int p1), (.int (1 : Int32))])) _
    refine XS.iand X0.here hx rfl (hb hby at_4) rfl ?_
    show Steps p.tables e below (s₁.setTop (mkF m 5 #[.val (.int p1), .val (.int p2), .val (.int p3), .unset, .unset, .unset, .unset, .unset, .unset] [(.int (p1 &&& (2147483647 : Int32))), (.int (1 : Int32))])) _
    refine XS.iconst X0.here hx rfl (hb hby at_5) ?_
    show Steps p.tables e below (s₁.setTop (mkF m 6 #[.val (.int p1), .val (.int p2), .val (.int p3), .unset, .unset, .unset, .unset, .unset, .unset] [(.int (3 : Int32)), (.int (p1 &&& (2147483647 : Int32))), (.int (1 : Int32))])) _
    refine iremM X0 hx rfl (hb hby at_6) rfl (by decide) ?_
    show Steps p.tables e below (s₁.setTop (mkF m 7 #[.val (.int p1), .val (.int p2), .val (.int p3), .unset, .unset, .unset, .unset, .unset, .unset] [(.int ((p1 &&& (2147483647 : Int32)) % (3 : Int32))), (.int (1 : Int32))])) _
    refine XS.iadd X0.here hx rfl (hb hby at_7) rfl ?_
    rw [hN]
    show Steps p.tables e below (s₁.setTop (mkF m 8 #[.val (.int p1), .val (.int p2), .val (.int p3), .unset, .unset, .unset, .unset, .unset, .unset] [(.int (1 : Int32))])) _
    refine XS.istoreN X0.here hx rfl (hb hby at_8) rfl (l' := #[.val (.int p1), .val (.int p2), .val (.int p3), .val (.int (1 : Int32)), .unset, .unset, .unset, .unset, .unset]) rfl ?_
    refine XS.iloadN X0.here hx rfl (hb hby at_9) rfl ?_
    show Steps p.tables e below (s₁.setTop (mkF m 10 #[.val (.int p1), .val (.int p2), .val (.int p3), .val (.int (1 : Int32)), .unset, .unset, .unset, .unset, .unset] [(.int p2)])) _
    refine X0.ldcInt hx hown (mvT hZ (own_w hw 0 rfl)) (g := (mkF m 10 #[.val (.int p1), .val (.int p2), .val (.int p3), .val (.int (1 : Int32)), .unset, .unset, .unset, .unset, .unset] [(.int p2)])) rfl (hb hby at_10) _ ?_
    show Steps p.tables e below (s₁.setTop (mkF m 12 #[.val (.int p1), .val (.int p2), .val (.int p3), .val (.int (1 : Int32)), .unset, .unset, .unset, .unset, .unset] [(.int (2147483647 : Int32)), (.int p2)])) _
    refine XS.iand X0.here hx rfl (hb hby at_12) rfl ?_
    show Steps p.tables e below (s₁.setTop (mkF m 13 #[.val (.int p1), .val (.int p2), .val (.int p3), .val (.int (1 : Int32)), .unset, .unset, .unset, .unset, .unset] [(.int (p2 &&& (2147483647 : Int32)))])) _
    refine XS.iloadN X0.here hx rfl (hb hby at_13) rfl ?_
    show Steps p.tables e below (s₁.setTop (mkF m 14 #[.val (.int p1), .val (.int p2), .val (.int p3), .val (.int (1 : Int32)), .unset, .unset, .unset, .unset, .unset] [(.int (1 : Int32)), (.int (p2 &&& (2147483647 : Int32)))])) _
    refine iremM X0 hx rfl (hb hby at_14) rfl (by decide) ?_
    rw [hE]
    show Steps p.tables e below (s₁.setTop (mkF m 15 #[.val (.int p1), .val (.int p2), .val (.int p3), .val (.int (1 : Int32)), .unset, .unset, .unset, .unset, .unset] [(.int (0 : Int32))])) _
    refine XS.istore X0.here hx rfl (hb hby at_15) rfl (l' := #[.val (.int p1), .val (.int p2), .val (.int p3), .val (.int (1 : Int32)), .val (.int (0 : Int32)), .unset, .unset, .unset, .unset]) rfl ?_
    refine XS.iloadN X0.here hx rfl (hb hby at_17) rfl ?_
    refine XS.iconst X0.here hx rfl (hb hby at_18) ?_
    show Steps p.tables e below (s₁.setTop (mkF m 19 #[.val (.int p1), .val (.int p2), .val (.int p3), .val (.int (1 : Int32)), .val (.int (0 : Int32)), .unset, .unset, .unset, .unset] [(.int (1 : Int32)), (.int p3)])) _
    refine XS.iand X0.here hx rfl (hb hby at_19) rfl ?_
    rw [← hll]
    show Steps p.tables e below (s₁.setTop (mkF m 20 #[.val (.int p1), .val (.int p2), .val (.int p3), .val (.int (1 : Int32)), .val (.int (0 : Int32)), .unset, .unset, .unset, .unset] [(.int ll)])) _
    refine XS.istore X0.here hx rfl (hb hby at_20) rfl (l' := #[.val (.int p1), .val (.int p2), .val (.int p3), .val (.int (1 : Int32)), .val (.int (0 : Int32)), .val (.int ll), .unset, .unset, .unset]) rfl ?_
    refine XS.iconst X0.here hx rfl (hb hby at_22) ?_
    refine XS.iload X0.here hx rfl (hb hby at_23) rfl ?_
    show Steps p.tables e below (s₁.setTop (mkF m 25 #[.val (.int p1), .val (.int p2), .val (.int p3), .val (.int (1 : Int32)), .val (.int (0 : Int32)), .val (.int ll), .unset, .unset, .unset] [(.int ll), (.int (1 : Int32))])) _
    refine XS.isub X0.here hx rfl (hb hby at_25) rfl ?_
    rw [← hoo]
    show Steps p.tables e below (s₁.setTop (mkF m 26 #[.val (.int p1), .val (.int p2), .val (.int p3), .val (.int (1 : Int32)), .val (.int (0 : Int32)), .val (.int ll), .unset, .unset, .unset] [(.int oo)])) _
    refine XS.istore X0.here hx rfl (hb hby at_26) rfl (l' := #[.val (.int p1), .val (.int p2), .val (.int p3), .val (.int (1 : Int32)), .val (.int (0 : Int32)), .val (.int ll), .val (.int oo), .unset, .unset]) rfl ?_
    show Steps p.tables e below (s₁.setTop (mkF m 28 #[.val (.int p1), .val (.int p2), .val (.int p3), .val (.int (1 : Int32)), .val (.int (0 : Int32)), .val (.int ll), .val (.int oo), .unset, .unset] [])) _
    refine st1 _ ?_
    show Steps p.tables e below (T1.setTop (mkF m 31 #[.val (.int p1), .val (.int p2), .val (.int p3), .val (.int (1 : Int32)), .val (.int (0 : Int32)), .val (.int ll), .val (.int oo), .unset, .unset] [(.ref ad1)])) _
    refine XS.dup X1.here hx rfl (hb hby at_31) rfl rfl ?_
    refine XS.iconst X1.here hx rfl (hb hby at_32) ?_
    refine XS.iconst X1.here hx rfl (hb hby at_33) ?_
    show Steps p.tables e below (T1.setTop (mkF m 34 #[.val (.int p1), .val (.int p2), .val (.int p3), .val (.int (1 : Int32)), .val (.int (0 : Int32)), .val (.int ll), .val (.int oo), .unset, .unset] [(.int (3 : Int32)), (.int (2 : Int32)), (.ref ad1), (.ref ad1)])) _
    refine st2.trans ?_
    show Steps p.tables e below (T2.setTop (mkF m 37 #[.val (.int p1), .val (.int p2), .val (.int p3), .val (.int (1 : Int32)), .val (.int (0 : Int32)), .val (.int ll), .val (.int oo), .unset, .unset] [(.ref ad1)])) _
    refine XS.astore X2.here hx rfl (hb hby at_37) rfl rfl (l' := #[.val (.int p1), .val (.int p2), .val (.int p3), .val (.int (1 : Int32)), .val (.int (0 : Int32)), .val (.int ll), .val (.int oo), .val (.ref ad1), .unset]) rfl ?_
    refine XS.aload X2.here hx rfl (hb hby at_39) rfl rfl ?_
    refine XS.iload X2.here hx rfl (hb hby at_41) rfl ?_
    refine XS.iconst X2.here hx rfl (hb hby at_43) ?_
    show Steps p.tables e below (T2.setTop (mkF m 44 #[.val (.int p1), .val (.int p2), .val (.int p3), .val (.int (1 : Int32)), .val (.int (0 : Int32)), .val (.int ll), .val (.int oo), .val (.ref ad1), .unset] [(.int (0 : Int32)), (.int ll), (.ref ad1)])) _
    refine st3.trans ?_
    show Steps p.tables e below (T3.setTop (mkF m 47 #[.val (.int p1), .val (.int p2), .val (.int p3), .val (.int (1 : Int32)), .val (.int (0 : Int32)), .val (.int ll), .val (.int oo), .val (.ref ad1), .unset] [])) _
    refine XS.iloadN X3.here hx rfl (hb hby at_47) rfl ?_
    refine XS.iconst X3.here hx rfl (hb hby at_48) ?_
    show Steps p.tables e below (T3.setTop (mkF m 49 #[.val (.int p1), .val (.int p2), .val (.int p3), .val (.int (1 : Int32)), .val (.int (0 : Int32)), .val (.int ll), .val (.int oo), .val (.ref ad1), .unset] [(.int (2 : Int32)), (.int (1 : Int32))])) _
    refine XS.icmpYes X3.here hx rfl (pc0 := 49) (pc' := 60) rfl (hb hby at_49) rfl (tlt (by decide : (1 : Int32) < (2 : Int32))).1 (by decide) (by decide) ?_
    show Steps p.tables e below (T3.setTop (mkF m 60 #[.val (.int p1), .val (.int p2), .val (.int p3), .val (.int (1 : Int32)), .val (.int (0 : Int32)), .val (.int ll), .val (.int oo), .val (.ref ad1), .unset] [])) _
    refine XS.iloadN X3.here hx rfl (hb hby at_60) rfl ?_
    refine XS.iconst X3.here hx rfl (hb hby at_61) ?_
    show Steps p.tables e below (T3.setTop (mkF m 62 #[.val (.int p1), .val (.int p2), .val (.int p3), .val (.int (1 : Int32)), .val (.int (0 : Int32)), .val (.int ll), .val (.int oo), .val (.ref ad1), .unset] [(.int (3 : Int32)), (.int (1 : Int32))])) _
    refine XS.icmpYes X3.here hx rfl (pc0 := 62) (pc' := 73) rfl (hb hby at_62) rfl (tlt (by decide : (1 : Int32) < (3 : Int32))).1 (by decide) (by decide) ?_
    show Steps p.tables e below (T3.setTop (mkF m 73 #[.val (.int p1), .val (.int p2), .val (.int p3), .val (.int (1 : Int32)), .val (.int (0 : Int32)), .val (.int ll), .val (.int oo), .val (.ref ad1), .unset] [])) _
    refine XS.aload X3.here hx rfl (hb hby at_73) rfl rfl ?_
    refine XS.iload X3.here hx rfl (hb hby at_75) rfl ?_
    refine XS.iload X3.here hx rfl (hb hby at_77) rfl ?_
    show Steps p.tables e below (T3.setTop (mkF m 79 #[.val (.int p1), .val (.int p2), .val (.int p3), .val (.int (1 : Int32)), .val (.int (0 : Int32)), .val (.int ll), .val (.int oo), .val (.ref ad1), .unset] [(.int (0 : Int32)), (.int ll), (.ref ad1)])) _
    refine st4.trans ?_
    show Steps p.tables e below (T4.setTop (mkF m 82 #[.val (.int p1), .val (.int p2), .val (.int p3), .val (.int (1 : Int32)), .val (.int (0 : Int32)), .val (.int ll), .val (.int oo), .val (.ref ad1), .unset] [])) _
    refine XS.aload X4.here hx rfl (hb hby at_82) rfl rfl ?_
    refine XS.iload X4.here hx rfl (hb hby at_84) rfl ?_
    refine XS.iloadN X4.here hx rfl (hb hby at_86) rfl ?_
    refine XS.iload X4.here hx rfl (hb hby at_87) rfl ?_
    refine XS.iconst X4.here hx rfl (hb hby at_89) ?_
    show Steps p.tables e below (T4.setTop (mkF m 90 #[.val (.int p1), .val (.int p2), .val (.int p3), .val (.int (1 : Int32)), .val (.int (0 : Int32)), .val (.int ll), .val (.int oo), .val (.ref ad1), .unset] [(.int (-1 : Int32)), (.int (0 : Int32)), (.int (1 : Int32)), (.int ll), (.ref ad1)])) _
    refine st5 _ ?_
    show Steps p.tables e below (T5.setTop (mkF m 93 #[.val (.int p1), .val (.int p2), .val (.int p3), .val (.int (1 : Int32)), .val (.int (0 : Int32)), .val (.int ll), .val (.int oo), .val (.ref ad1), .unset] [(.int (1 : Int32))])) _
    refine XS.istore X5.here hx rfl (hb hby at_93) rfl (l' := #[.val (.int p1), .val (.int p2), .val (.int p3), .val (.int (1 : Int32)), .val (.int (0 : Int32)), .val (.int ll), .val (.int oo), .val (.ref ad1), .val (.int (1 : Int32))]) rfl ?_
    refine XS.iload X5.here hx rfl (hb hby at_95) rfl ?_
    refine XS.iconst X5.here hx rfl (hb hby at_97) ?_
    show Steps p.tables e below (T5.setTop (mkF m 98 #[.val (.int p1), .val (.int p2), .val (.int p3), .val (.int (1 : Int32)), .val (.int (0 : Int32)), .val (.int ll), .val (.int oo), .val (.ref ad1), .val (.int (1 : Int32))] [(.int (1 : Int32)), (.int (0 : Int32))])) _
    refine XS.icmpYes X5.here hx rfl (pc0 := 98) (pc' := 141) rfl (hb hby at_98) rfl (tlt (by decide : (0 : Int32) < (1 : Int32))).1 (by decide) (by decide) ?_
    show Steps p.tables e below (T5.setTop (mkF m 141 #[.val (.int p1), .val (.int p2), .val (.int p3), .val (.int (1 : Int32)), .val (.int (0 : Int32)), .val (.int ll), .val (.int oo), .val (.ref ad1), .val (.int (1 : Int32))] [])) _
    refine XS.iload X5.here hx rfl (hb hby at_141) rfl ?_
    show Steps p.tables e below (T5.setTop (mkF m 143 #[.val (.int p1), .val (.int p2), .val (.int p3), .val (.int (1 : Int32)), .val (.int (0 : Int32)), .val (.int ll), .val (.int oo), .val (.ref ad1), .val (.int (1 : Int32))] [(.int (1 : Int32))])) _
    refine XS.ifNo X5.here hx rfl (hb hby at_143) rfl ((if0 _ _).trans (feq (by decide : ¬ ((1 : Int32) = (0 : Int32)))).1) ?_
    show Steps p.tables e below (T5.setTop (mkF m 146 #[.val (.int p1), .val (.int p2), .val (.int p3), .val (.int (1 : Int32)), .val (.int (0 : Int32)), .val (.int ll), .val (.int oo), .val (.ref ad1), .val (.int (1 : Int32))] [])) _
    refine XS.aload X5.here hx rfl (hb hby at_146) rfl rfl ?_
    refine XS.iload X5.here hx rfl (hb hby at_148) rfl ?_
    show Steps p.tables e below (T5.setTop (mkF m 150 #[.val (.int p1), .val (.int p2), .val (.int p3), .val (.int (1 : Int32)), .val (.int (0 : Int32)), .val (.int ll), .val (.int oo), .val (.ref ad1), .val (.int (1 : Int32))] [(.int oo), (.ref ad1)])) _
    refine st6.trans ?_
    show Steps p.tables e below (T6.setTop (mkF m 153 #[.val (.int p1), .val (.int p2), .val (.int p3), .val (.int (1 : Int32)), .val (.int (0 : Int32)), .val (.int ll), .val (.int oo), .val (.ref ad1), .val (.int (1 : Int32))] [(.int ((own_rH (own_upd own_H0 ll (0 : Int32)) (own_upd own_zero (0 : Int32) (own_H0 ll)) (own_pP own_H0 own_zero ll (0 : Int32)) ll (0 : Int32)) oo))])) _
    refine XS.iconst X6.here hx rfl (hb hby at_153) ?_
    show Steps p.tables e below (T6.setTop (mkF m 154 #[.val (.int p1), .val (.int p2), .val (.int p3), .val (.int (1 : Int32)), .val (.int (0 : Int32)), .val (.int ll), .val (.int oo), .val (.ref ad1), .val (.int (1 : Int32))] [(.int (-1 : Int32)), (.int ((own_rH (own_upd own_H0 ll (0 : Int32)) (own_upd own_zero (0 : Int32) (own_H0 ll)) (own_pP own_H0 own_zero ll (0 : Int32)) ll (0 : Int32)) oo))])) _
    refine XS.icmpNo X6.here hx rfl (hb hby at_154) rfl (teq (show ((own_rH (own_upd own_H0 ll (0 : Int32)) (own_upd own_zero (0 : Int32) (own_H0 ll)) (own_pP own_H0 own_zero ll (0 : Int32)) ll (0 : Int32)) oo) = (-1 : Int32) by subst hoo; rcases hl with rfl | rfl <;> decide +kernel)).2 ?_
    show Steps p.tables e below (T6.setTop (mkF m 157 #[.val (.int p1), .val (.int p2), .val (.int p3), .val (.int (1 : Int32)), .val (.int (0 : Int32)), .val (.int ll), .val (.int oo), .val (.ref ad1), .val (.int (1 : Int32))] [])) _
    refine XS.aload X6.here hx rfl (hb hby at_157) rfl rfl ?_
    refine XS.iload X6.here hx rfl (hb hby at_159) rfl ?_
    show Steps p.tables e below (T6.setTop (mkF m 161 #[.val (.int p1), .val (.int p2), .val (.int p3), .val (.int (1 : Int32)), .val (.int (0 : Int32)), .val (.int ll), .val (.int oo), .val (.ref ad1), .val (.int (1 : Int32))] [(.int oo), (.ref ad1)])) _
    refine st7.trans ?_
    show Steps p.tables e below (T7.setTop (mkF m 164 #[.val (.int p1), .val (.int p2), .val (.int p3), .val (.int (1 : Int32)), .val (.int (0 : Int32)), .val (.int ll), .val (.int oo), .val (.ref ad1), .val (.int (1 : Int32))] [(.int ((own_upd (own_upd own_zero ll (own_zero ll + (1 : Int32))) ll ((own_upd own_zero ll (own_zero ll + (1 : Int32))) ll - (1 : Int32))) oo))])) _
    refine XS.ifNo X7.here hx rfl (hb hby at_164) rfl ((if0 _ _).trans (teq (show ((own_upd (own_upd own_zero ll (own_zero ll + (1 : Int32))) ll ((own_upd own_zero ll (own_zero ll + (1 : Int32))) ll - (1 : Int32))) oo) = (0 : Int32) by subst hoo; rcases hl with rfl | rfl <;> decide +kernel)).2) ?_
    show Steps p.tables e below (T7.setTop (mkF m 167 #[.val (.int p1), .val (.int p2), .val (.int p3), .val (.int (1 : Int32)), .val (.int (0 : Int32)), .val (.int ll), .val (.int oo), .val (.ref ad1), .val (.int (1 : Int32))] [])) _
    refine XS.iconst X7.here hx rfl (hb hby at_167) ?_
    refine XS.goto X7.here hx rfl (pc0 := 168) (pc' := 172) rfl (hb hby at_168) (by decide) (by decide) ?_
    refine XS.istore X7.here hx rfl (hb hby at_172) rfl (l' := #[.val (.int p1), .val (.int p2), .val (.int p3), .val (.int (1 : Int32)), .val (.int (0 : Int32)), .val (.int ll), .val (.int oo), .val (.ref ad1), .val (.int (1 : Int32))]) rfl ?_
    refine XS.iload X7.here hx rfl (hb hby at_174) rfl ?_
    show Steps p.tables e below (T7.setTop (mkF m 176 #[.val (.int p1), .val (.int p2), .val (.int p3), .val (.int (1 : Int32)), .val (.int (0 : Int32)), .val (.int ll), .val (.int oo), .val (.ref ad1), .val (.int (1 : Int32))] [(.int (1 : Int32))])) _
    exact retN X7 hx (t := .boolean) Bd.returns (by simp) (hb hby at_176) hr
  · show Q0_1_0 Z p1 p2 p3 h0 n0 _ T7.heap _
    exact ⟨rfl, N7⟩
def Q0_2_0 (Z : State) (p1 p2 p3 : Int32) (h0 : Heap) (n0 : Nat) (v : Option Value) (h : Heap) (L : List Loc) : Prop := v = some (.int (1 : Int32)) ∧ Fr n0 L
set_option maxRecDepth 65536 in
set_option maxHeartbeats 40000000 in
theorem rm0_2_0 (l : Launch) (Z : State) (a0 : Array Value) (hw : ∀ d ∈ tables_1, d.before a0 Z = true) (ws : List Jvm.Cond) (p1 p2 p3 : Int32) (h0 : Heap) (n0 : Nat) (Z0 : n0 ≤ h0.size) (hN : ((1 : Int32) + ((p1 &&& (2147483647 : Int32)) % (3 : Int32))) = (2 : Int32)) (hE : ((p2 &&& (2147483647 : Int32)) % (2 : Int32)) = (0 : Int32)) :
    MetFree l x (head1 (Jvm.Cond.code x code maxLocals ret :: ws) room_1) (fun a U => a = #[(.int p1), (.int p2), (.int p3)] ∧ Z.Warmed39 U.vm ∧ U.heap = h0) (fun _ _ _ _ _ => True) (fun _ U o U' => ∃ v L, o = .returned v ∧ Q0_2_0 Z p1 p2 p3 h0 n0 v U'.heap L ∧ FrameEnd U o U' L room_1.cells room_1.slots) := by
  refine MetFree.of_bodySF (plainFor_of_name pn_0) hisR ?_
  intro p e s m args below meth c s₁ Bd hml0 hP hK
  obtain ⟨rfl, hZ, hh⟩ := hP
  have hx := Bd.exec
  have hby := Bd.bytes
  have hml : c.maxLocals = 9 := hml0
  have hown : s.vm.findClass "com/example/process_stepper/processstepper/equivalence/IntListsRemovePinLaw" = some m.cls := findClass_of_methodNamed Bd.named
  have hnm := (name_of_methodNamed Bd.named Bd.method).1
  have X0 : Stand p l e room_1 s m #[(.int p1), (.int p2), (.int p3)] below meth c s₁ [] 0 0 := Stand.of_body Bd
  have e0 : s₁.heap = h0 := by rw [← hh, Bd.state]; rfl
  have N0 := Fr.nil n0
  have pre0 : ∀ t, Steps p.tables e below (s₁.setTop (mkF m 0 #[.val (.int p1), .val (.int p2), .val (.int p3), .unset, .unset, .unset, .unset, .unset, .unset] [])) t → Steps p.tables e below (s₁.setTop (entryFrame m #[(.int p1), (.int p2), (.int p3)] maxLocals)) t := fun t k => castTop (ef_0 m p1 p2 p3) k
  obtain ⟨ll, hll⟩ : ∃ z : Int32, z = (p3 &&& (1 : Int32)) := ⟨_, rfl⟩
  have hl : ll = (0 : Int32) ∨ ll = (1 : Int32) := by rw [hll]; exact own_bit p3
  obtain ⟨oo, hoo⟩ : ∃ z : Int32, z = ((1 : Int32) - ll) := ⟨_, rfl⟩
  obtain ⟨T1, h1, X1, e1, E1, A1, D1, -, st1⟩ := newO X0 hx hZ hown (own_w hw 1 rfl) (own_w hw 2 rfl) (own_w hw 3 rfl) e0 (g := (mkF m 28 #[.val (.int p1), .val (.int p2), .val (.int p3), .val (.int (2 : Int32)), .val (.int (0 : Int32)), .val (.int ll), .val (.int oo), .unset, .unset] [])) rfl (hb hby at_28) (by decide) (by decide)
  obtain ⟨ad1, g1⟩ : ∃ z, z = h0.size := ⟨_, rfl⟩
  rw [← g1] at A1 D1 st1
  have gn_ad1 : n0 ≤ ad1 := Nat.le_trans Z0 (Nat.le_of_eq g1.symm)
  have sz_ad1 : h0.size ≤ ad1 := Nat.le_trans (Keep.refl h0 []).1 (Nat.le_of_eq g1.symm)
  have E_ad1_1 : Exa Z h1 ad1 "com/example/process_stepper/processstepper/equivalence/IntLists" := A1
  have F_heads_ad1_1 : Fld Z h1 ad1 "com/example/process_stepper/processstepper/equivalence/IntLists" "heads" "[I" .null := D1 (Or.inl (own_w hw 12 rfl)) (ty := (.array .int)) (by decide)
  have F_sizes_ad1_1 : Fld Z h1 ad1 "com/example/process_stepper/processstepper/equivalence/IntLists" "sizes" "[I" .null := D1 (Or.inl (own_w hw 18 rfl)) (ty := (.array .int)) (by decide)
  have F_next_ad1_1 : Fld Z h1 ad1 "com/example/process_stepper/processstepper/equivalence/IntLists" "next" "[I" .null := D1 (Or.inl (own_w hw 20 rfl)) (ty := (.array .int)) (by decide)
  have F_previous_ad1_1 : Fld Z h1 ad1 "com/example/process_stepper/processstepper/equivalence/IntLists" "previous" "[I" .null := D1 (Or.inl (own_w hw 22 rfl)) (ty := (.array .int)) (by decide)
  have K1 : Keep h0 h1 [] := (Keep.refl h0 []).ext E1
  have Zs1 : n0 ≤ h1.size := Nat.le_trans Z0 E1.1
  obtain ⟨_, _, ⟨T2, L2, k2, n2⟩, -, X2, ⟨Lc2, hQ2, l2, y2, z2⟩, st2⟩ := X1.specialBack hx (y := own_m5) rfl hown (mvT hZ (own_w hw 4 rfl)) (mvT hZ (own_w hw 5 rfl)) (mvT hZ (own_w hw 6 rfl)) (by decide) (backOf (W := 1) (rm1 l Z a0 hw [] ad1 h1 n0 Zs1 E_ad1_1 F_heads_ad1_1 F_sizes_ad1_1 F_next_ad1_1 F_previous_ad1_1 gn_ad1) hZ (own_w hw 6 rfl) (own_w hw 3 rfl) (by decide) (by decide)) (g := (mkF m 34 #[.val (.int p1), .val (.int p2), .val (.int p3), .val (.int (2 : Int32)), .val (.int (0 : Int32)), .val (.int ll), .val (.int oo), .unset, .unset] [(.int (3 : Int32)), (.int (2 : Int32)), (.ref ad1), (.ref ad1)])) rfl (by rw [hml]; rfl) (Steps.refl _) (a := ad1) (argsL := [(.int (2 : Int32)), (.int (3 : Int32))]) (rest := [(.ref ad1)]) (lenOf pd__II_V rfl) rfl (by show 2 * 0 + _ ≤ _; exact Nat.le_of_eq rfl) (hb hby at_34) (fun _ _ => ⟨rfl, e1, (by decide : 1 + 4 ≤ _), (by decide : 4 + 10 ≤ _)⟩)
  dsimp only [Pt.U, Pt.locs, Pt.cells, Pt.slots] at X2 l2 y2 z2 st2 hQ2
  subst l2 y2 z2
  obtain ⟨rfl, N2q, b1, b2, b3, b4, K2q, -, V2⟩ := hQ2
  have N2 := Fr.app N0 N2q
  have Zs2 : n0 ≤ T2.heap.size := Nat.le_trans Zs1 K2q.1
  obtain ⟨cq3, kq3, q3a, q3b, q3c⟩ := isOf hZ rfl (V2.1)
  obtain ⟨_, _, ⟨T3, L3, k3, n3⟩, -, X3, ⟨Lc3, hQ3, l3, y3, z3⟩, st3⟩ := X2.virtualBack hx (y := own_m6) (z := own_m6) hown (mvT hZ (own_w hw 23 rfl)) (mvT hZ (own_w hw 24 rfl)) (notFace_of_selects (args := #[]) (mvT hZ (own_w hw 26 rfl))) (mvT hZ (own_w hw 26 rfl)) (mvT hZ (own_w hw 25 rfl)) (by decide) (backOf (W := 0) (rm4 l Z a0 hw [] ad1 ll (0 : Int32) b1 b2 b3 b4 own_H0 own_zero own_zero own_zero T2.heap n0 Zs2 V2 (by rcases hl with rfl | rfl <;> decide +kernel) (by rcases hl with rfl | rfl <;> decide +kernel) (by decide) (by decide) (by unfold own_in; rcases hl with rfl | rfl <;> decide +kernel)) hZ (own_w hw 27 rfl) (own_w hw 3 rfl) (by decide) (by decide)) q3a q3c (g := (mkF m 44 #[.val (.int p1), .val (.int p2), .val (.int p3), .val (.int (2 : Int32)), .val (.int (0 : Int32)), .val (.int ll), .val (.int oo), .val (.ref ad1), .unset] [(.int (0 : Int32)), (.int ll), (.ref ad1)])) rfl (by rw [hml]; rfl) (Steps.refl _) (argsL := [(.int ll), (.int (0 : Int32))]) (rest := []) (lenOf pd__II_V rfl) rfl (by show 2 * 0 + _ ≤ _; exact Nat.le_of_eq rfl) (hb hby at_44) (fun _ _ => ⟨rfl, rfl, (by decide : 5 + 0 ≤ _), (by decide : 14 + 0 ≤ _)⟩)
  dsimp only [Pt.U, Pt.locs, Pt.cells, Pt.slots] at X3 l3 y3 z3 st3 hQ3
  subst l3 y3 z3
  obtain ⟨rfl, N3q, K3q, V3⟩ := hQ3
  have N3 := Fr.app N2 N3q
  have Zs3 : n0 ≤ T3.heap.size := Nat.le_trans Zs2 K3q.1
  obtain ⟨cq4, kq4, q4a, q4b, q4c⟩ := isOf hZ rfl (V3.1)
  obtain ⟨_, _, ⟨T4, L4, k4, n4⟩, -, X4, ⟨Lc4, hQ4, l4, y4, z4⟩, st4⟩ := X3.virtualBack hx (y := own_m6) (z := own_m6) hown (mvT hZ (own_w hw 23 rfl)) (mvT hZ (own_w hw 24 rfl)) (notFace_of_selects (args := #[]) (mvT hZ (own_w hw 26 rfl))) (mvT hZ (own_w hw 26 rfl)) (mvT hZ (own_w hw 25 rfl)) (by decide) (backOf (W := 0) (rm4 l Z a0 hw [] ad1 ll (1 : Int32) b1 b2 b3 b4 (own_upd own_H0 ll (0 : Int32)) (own_upd own_zero ll (own_zero ll + (1 : Int32))) (own_upd own_zero (0 : Int32) (own_H0 ll)) (own_pP own_H0 own_zero ll (0 : Int32)) T3.heap n0 Zs3 V3 (by rcases hl with rfl | rfl <;> decide +kernel) (by rcases hl with rfl | rfl <;> decide +kernel) (by decide) (by decide) (by unfold own_in; rcases hl with rfl | rfl <;> decide +kernel)) hZ (own_w hw 27 rfl) (own_w hw 3 rfl) (by decide) (by decide)) q4a q4c (g := (mkF m 57 #[.val (.int p1), .val (.int p2), .val (.int p3), .val (.int (2 : Int32)), .val (.int (0 : Int32)), .val (.int ll), .val (.int oo), .val (.ref ad1), .unset] [(.int (1 : Int32)), (.int ll), (.ref ad1)])) rfl (by rw [hml]; rfl) (Steps.refl _) (argsL := [(.int ll), (.int (1 : Int32))]) (rest := []) (lenOf pd__II_V rfl) rfl (by show 2 * 0 + _ ≤ _; exact Nat.le_of_eq rfl) (hb hby at_57) (fun _ _ => ⟨rfl, rfl, (by decide : 5 + 0 ≤ _), (by decide : 14 + 0 ≤ _)⟩)
  dsimp only [Pt.U, Pt.locs, Pt.cells, Pt.slots] at X4 l4 y4 z4 st4 hQ4
  subst l4 y4 z4
  obtain ⟨rfl, N4q, K4q, V4⟩ := hQ4
  have N4 := Fr.app N3 N4q
  have Zs4 : n0 ≤ T4.heap.size := Nat.le_trans Zs3 K4q.1
  obtain ⟨cq5, kq5, q5a, q5b, q5c⟩ := isOf hZ rfl (V4.1)
  obtain ⟨_, _, ⟨T5, L5, k5, n5⟩, -, X5, ⟨Lc5, hQ5, l5, y5, z5⟩, st5⟩ := X4.virtualBack hx (y := own_m7) (z := own_m7) hown (mvT hZ (own_w hw 28 rfl)) (mvT hZ (own_w hw 29 rfl)) (notFace_of_selects (args := #[]) (mvT hZ (own_w hw 31 rfl))) (mvT hZ (own_w hw 31 rfl)) (mvT hZ (own_w hw 30 rfl)) (by decide) (backOf (W := 0) (rm5 l Z a0 hw [] ad1 ll (0 : Int32) b1 b2 b3 b4 (own_upd (own_upd own_H0 ll (0 : Int32)) ll (1 : Int32)) (own_upd (own_upd own_zero ll (own_zero ll + (1 : Int32))) ll ((own_upd own_zero ll (own_zero ll + (1 : Int32))) ll + (1 : Int32))) (own_upd (own_upd own_zero (0 : Int32) (own_H0 ll)) (1 : Int32) ((own_upd own_H0 ll (0 : Int32)) ll)) (own_pP (own_upd own_H0 ll (0 : Int32)) (own_pP own_H0 own_zero ll (0 : Int32)) ll (1 : Int32)) T4.heap n0 Zs4 V4 (by rcases hl with rfl | rfl <;> decide +kernel) (by rcases hl with rfl | rfl <;> decide +kernel) (by decide) (by decide) (by unfold own_in; rcases hl with rfl | rfl <;> decide +kernel) (by unfold own_in; rcases hl with rfl | rfl <;> decide +kernel)) hZ (own_w hw 32 rfl) (own_w hw 3 rfl) (by decide) (by decide)) q5a q5c (g := (mkF m 79 #[.val (.int p1), .val (.int p2), .val (.int p3), .val (.int (2 : Int32)), .val (.int (0 : Int32)), .val (.int ll), .val (.int oo), .val (.ref ad1), .unset] [(.int (0 : Int32)), (.int ll), (.ref ad1)])) rfl (by rw [hml]; rfl) (Steps.refl _) (argsL := [(.int ll), (.int (0 : Int32))]) (rest := []) (lenOf pd__II_V rfl) rfl (by show 2 * 0 + _ ≤ _; exact Nat.le_of_eq rfl) (hb hby at_79) (fun _ _ => ⟨rfl, rfl, (by decide : 5 + 0 ≤ _), (by decide : 14 + 0 ≤ _)⟩)
  dsimp only [Pt.U, Pt.locs, Pt.cells, Pt.slots] at X5 l5 y5 z5 st5 hQ5
  subst l5 y5 z5
  obtain ⟨rfl, N5q, K5q, V5⟩ := hQ5
  have N5 := Fr.app N4 N5q
  have Zs5 : n0 ≤ T5.heap.size := Nat.le_trans Zs4 K5q.1
  obtain ⟨_, _, ⟨T6, L6, k6, n6⟩, -, X6, ⟨Lc6, hQ6, l6, y6, z6⟩, st6⟩ := Jvm.LawKit.callS X5 hx (y := own_m8) hown (mvT hZ (own_w hw 33 rfl)) (mvT hZ (own_w hw 34 rfl)) (mvT hZ (own_w hw 35 rfl)) (mvT hZ (own_w hw 36 rfl)) (by decide) (backOf (W := 0) (rm6_2_0_m1 l Z a0 hw [] ad1 ll b1 b2 b3 b4 (own_rH (own_upd (own_upd own_H0 ll (0 : Int32)) ll (1 : Int32)) (own_upd (own_upd own_zero (0 : Int32) (own_H0 ll)) (1 : Int32) ((own_upd own_H0 ll (0 : Int32)) ll)) (own_pP (own_upd own_H0 ll (0 : Int32)) (own_pP own_H0 own_zero ll (0 : Int32)) ll (1 : Int32)) ll (0 : Int32)) (own_upd (own_upd (own_upd own_zero ll (own_zero ll + (1 : Int32))) ll ((own_upd own_zero ll (own_zero ll + (1 : Int32))) ll + (1 : Int32))) ll ((own_upd (own_upd own_zero ll (own_zero ll + (1 : Int32))) ll ((own_upd own_zero ll (own_zero ll + (1 : Int32))) ll + (1 : Int32))) ll - (1 : Int32))) (own_rN (own_upd (own_upd own_zero (0 : Int32) (own_H0 ll)) (1 : Int32) ((own_upd own_H0 ll (0 : Int32)) ll)) (own_pP (own_upd own_H0 ll (0 : Int32)) (own_pP own_H0 own_zero ll (0 : Int32)) ll (1 : Int32)) (0 : Int32)) (own_rP (own_upd (own_upd own_zero (0 : Int32) (own_H0 ll)) (1 : Int32) ((own_upd own_H0 ll (0 : Int32)) ll)) (own_pP (own_upd own_H0 ll (0 : Int32)) (own_pP own_H0 own_zero ll (0 : Int32)) ll (1 : Int32)) (0 : Int32)) T5.heap n0 Zs5 V5 (by rcases hl with rfl | rfl <;> decide +kernel) (by rcases hl with rfl | rfl <;> decide +kernel) (by rcases hl with rfl | rfl <;> decide +kernel) (by rcases hl with rfl | rfl <;> decide +kernel) (by rcases hl with rfl | rfl <;> decide +kernel)) hZ (own_w hw 36 rfl) (own_w hw 35 rfl) (by decide) (by decide)) (g := (mkF m 90 #[.val (.int p1), .val (.int p2), .val (.int p3), .val (.int (2 : Int32)), .val (.int (0 : Int32)), .val (.int ll), .val (.int oo), .val (.ref ad1), .unset] [(.int (-1 : Int32)), (.int (0 : Int32)), (.int (2 : Int32)), (.int ll), (.ref ad1)])) rfl (by rw [hml]; rfl) (argsL := [(.ref ad1), (.int ll), (.int (2 : Int32)), (.int (0 : Int32)), (.int (-1 : Int32))]) (rest := []) (lenOf pd__Lcom_example_process_stepper_processstepper_equivalence_IntLists_IIII_Z rfl) rfl (by show 2 * 0 + _ ≤ _; exact Nat.le_of_eq rfl) (hb hby at_90) (fun _ _ => ⟨rfl, rfl, (by decide : 5 + 1 ≤ _), (by decide : 14 + 3 ≤ _)⟩)
  dsimp only [Pt.U, Pt.locs, Pt.cells, Pt.slots] at X6 l6 y6 z6 st6 hQ6
  subst l6 y6 z6
  obtain ⟨rfl, N6q, K6q⟩ := hQ6
  have N6 := Fr.app N5 N6q
  have V6 : own_L Z n0 T6.heap ad1 b1 b2 b3 b4 (own_rH (own_upd (own_upd own_H0 ll (0 : Int32)) ll (1 : Int32)) (own_upd (own_upd own_zero (0 : Int32) (own_H0 ll)) (1 : Int32) ((own_upd own_H0 ll (0 : Int32)) ll)) (own_pP (own_upd own_H0 ll (0 : Int32)) (own_pP own_H0 own_zero ll (0 : Int32)) ll (1 : Int32)) ll (0 : Int32)) (own_upd (own_upd (own_upd own_zero ll (own_zero ll + (1 : Int32))) ll ((own_upd own_zero ll (own_zero ll + (1 : Int32))) ll + (1 : Int32))) ll ((own_upd (own_upd own_zero ll (own_zero ll + (1 : Int32))) ll ((own_upd own_zero ll (own_zero ll + (1 : Int32))) ll + (1 : Int32))) ll - (1 : Int32))) (own_rN (own_upd (own_upd own_zero (0 : Int32) (own_H0 ll)) (1 : Int32) ((own_upd own_H0 ll (0 : Int32)) ll)) (own_pP (own_upd own_H0 ll (0 : Int32)) (own_pP own_H0 own_zero ll (0 : Int32)) ll (1 : Int32)) (0 : Int32)) (own_rP (own_upd (own_upd own_zero (0 : Int32) (own_H0 ll)) (1 : Int32) ((own_upd own_H0 ll (0 : Int32)) ll)) (own_pP (own_upd own_H0 ll (0 : Int32)) (own_pP own_H0 own_zero ll (0 : Int32)) ll (1 : Int32)) (0 : Int32)) := own_L_keep V5 K6q nin0 nin0 nin0 nin0 nin0
  have Zs6 : n0 ≤ T6.heap.size := Nat.le_trans Zs5 K6q.1
  obtain ⟨cq7, kq7, q7a, q7b, q7c⟩ := isOf hZ rfl (V6.1)
  obtain ⟨_, _, ⟨T7, L7, k7, n7⟩, -, X7, ⟨Lc7, hQ7, l7, y7, z7⟩, st7⟩ := X6.virtualBack hx (y := own_m3) (z := own_m3) hown (mvT hZ (own_w hw 42 rfl)) (mvT hZ (own_w hw 43 rfl)) (notFace_of_selects (args := #[]) (mvT hZ (own_w hw 45 rfl))) (mvT hZ (own_w hw 45 rfl)) (mvT hZ (own_w hw 44 rfl)) (by decide) (backOf (W := 0) (rm8 l Z a0 hw [] ad1 oo b1 b2 b3 b4 (own_rH (own_upd (own_upd own_H0 ll (0 : Int32)) ll (1 : Int32)) (own_upd (own_upd own_zero (0 : Int32) (own_H0 ll)) (1 : Int32) ((own_upd own_H0 ll (0 : Int32)) ll)) (own_pP (own_upd own_H0 ll (0 : Int32)) (own_pP own_H0 own_zero ll (0 : Int32)) ll (1 : Int32)) ll (0 : Int32)) (own_upd (own_upd (own_upd own_zero ll (own_zero ll + (1 : Int32))) ll ((own_upd own_zero ll (own_zero ll + (1 : Int32))) ll + (1 : Int32))) ll ((own_upd (own_upd own_zero ll (own_zero ll + (1 : Int32))) ll ((own_upd own_zero ll (own_zero ll + (1 : Int32))) ll + (1 : Int32))) ll - (1 : Int32))) (own_rN (own_upd (own_upd own_zero (0 : Int32) (own_H0 ll)) (1 : Int32) ((own_upd own_H0 ll (0 : Int32)) ll)) (own_pP (own_upd own_H0 ll (0 : Int32)) (own_pP own_H0 own_zero ll (0 : Int32)) ll (1 : Int32)) (0 : Int32)) (own_rP (own_upd (own_upd own_zero (0 : Int32) (own_H0 ll)) (1 : Int32) ((own_upd own_H0 ll (0 : Int32)) ll)) (own_pP (own_upd own_H0 ll (0 : Int32)) (own_pP own_H0 own_zero ll (0 : Int32)) ll (1 : Int32)) (0 : Int32)) T6.heap n0 Zs6 V6 (by subst hoo; rcases hl with rfl | rfl <;> decide +kernel) (by subst hoo; rcases hl with rfl | rfl <;> decide +kernel)) hZ (own_w hw 46 rfl) (own_w hw 3 rfl) (by decide) (by decide)) q7a q7c (g := (mkF m 150 #[.val (.int p1), .val (.int p2), .val (.int p3), .val (.int (2 : Int32)), .val (.int (0 : Int32)), .val (.int ll), .val (.int oo), .val (.ref ad1), .val (.int (1 : Int32))] [(.int oo), (.ref ad1)])) rfl (by rw [hml]; rfl) (Steps.refl _) (argsL := [(.int oo)]) (rest := []) (lenOf pd__I_I rfl) rfl (by show 2 * 0 + _ ≤ _; exact Nat.le_of_eq rfl) (hb hby at_150) (fun _ _ => ⟨rfl, rfl, (by decide : 6 + 0 ≤ _), (by decide : 17 + 0 ≤ _)⟩)
  dsimp only [Pt.U, Pt.locs, Pt.cells, Pt.slots] at X7 l7 y7 z7 st7 hQ7
  subst l7 y7 z7
  obtain ⟨rfl, N7q, q7⟩ := hQ7
  have N7 := Fr.app N6 N7q
  have e7' : T7.heap = T6.heap := q7
  obtain ⟨cq8, kq8, q8a, q8b, q8c⟩ := isOf hZ e7' (V6.1)
  obtain ⟨_, _, ⟨T8, L8, k8, n8⟩, -, X8, ⟨Lc8, hQ8, l8, y8, z8⟩, st8⟩ := X7.virtualBack hx (y := own_m2) (z := own_m2) hown (mvT hZ (own_w hw 37 rfl)) (mvT hZ (own_w hw 38 rfl)) (notFace_of_selects (args := #[]) (mvT hZ (own_w hw 40 rfl))) (mvT hZ (own_w hw 40 rfl)) (mvT hZ (own_w hw 39 rfl)) (by decide) (backOf (W := 0) (rm7 l Z a0 hw [] ad1 oo b1 b2 b3 b4 (own_rH (own_upd (own_upd own_H0 ll (0 : Int32)) ll (1 : Int32)) (own_upd (own_upd own_zero (0 : Int32) (own_H0 ll)) (1 : Int32) ((own_upd own_H0 ll (0 : Int32)) ll)) (own_pP (own_upd own_H0 ll (0 : Int32)) (own_pP own_H0 own_zero ll (0 : Int32)) ll (1 : Int32)) ll (0 : Int32)) (own_upd (own_upd (own_upd own_zero ll (own_zero ll + (1 : Int32))) ll ((own_upd own_zero ll (own_zero ll + (1 : Int32))) ll + (1 : Int32))) ll ((own_upd (own_upd own_zero ll (own_zero ll + (1 : Int32))) ll ((own_upd own_zero ll (own_zero ll + (1 : Int32))) ll + (1 : Int32))) ll - (1 : Int32))) (own_rN (own_upd (own_upd own_zero (0 : Int32) (own_H0 ll)) (1 : Int32) ((own_upd own_H0 ll (0 : Int32)) ll)) (own_pP (own_upd own_H0 ll (0 : Int32)) (own_pP own_H0 own_zero ll (0 : Int32)) ll (1 : Int32)) (0 : Int32)) (own_rP (own_upd (own_upd own_zero (0 : Int32) (own_H0 ll)) (1 : Int32) ((own_upd own_H0 ll (0 : Int32)) ll)) (own_pP (own_upd own_H0 ll (0 : Int32)) (own_pP own_H0 own_zero ll (0 : Int32)) ll (1 : Int32)) (0 : Int32)) T6.heap n0 Zs6 V6 (by subst hoo; rcases hl with rfl | rfl <;> decide +kernel) (by subst hoo; rcases hl with rfl | rfl <;> decide +kernel)) hZ (own_w hw 41 rfl) (own_w hw 3 rfl) (by decide) (by decide)) q8a q8c (g := (mkF m 161 #[.val (.int p1), .val (.int p2), .val (.int p3), .val (.int (2 : Int32)), .val (.int (0 : Int32)), .val (.int ll), .val (.int oo), .val (.ref ad1), .val (.int (1 : Int32))] [(.int oo), (.ref ad1)])) rfl (by rw [hml]; rfl) (Steps.refl _) (argsL := [(.int oo)]) (rest := []) (lenOf pd__I_I rfl) rfl (by show 2 * 0 + _ ≤ _; exact Nat.le_of_eq rfl) (hb hby at_161) (fun _ _ => ⟨rfl, e7', (by decide : 6 + 0 ≤ _), (by decide : 17 + 0 ≤ _)⟩)
  dsimp only [Pt.U, Pt.locs, Pt.cells, Pt.slots] at X8 l8 y8 z8 st8 hQ8
  subst l8 y8 z8
  obtain ⟨rfl, N8q, q8⟩ := hQ8
  have N8 := Fr.app N7 N8q
  have e8' : T8.heap = T6.heap := q8
  obtain ⟨fs, hr, hrun, hended, hW, hsame⟩ := X8.leave (v := some (.int (1 : Int32))) (fun h => by rw [Bd.returns] at h; cases h)
  refine ⟨_, _, pre0 _ ?_, hrun, hended, _, _, rfl, ?_, ⟨_, rfl⟩, hW, hsame.mono (by decide) (by decide)⟩
  · show Steps p.tables e below (s₁.setTop (mkF m 0 #[.val (.int p1), .val (.int p2), .val (.int p3), .unset, .unset, .unset, .unset, .unset, .unset] [])) _
    refine XS.iconst X0.here hx rfl (hb hby at_0) ?_
    refine XS.iloadN X0.here hx rfl (hb hby at_1) rfl ?_
    show Steps p.tables e below (s₁.setTop (mkF m 2 #[.val (.int p1), .val (.int p2), .val (.int p3), .unset, .unset, .unset, .unset, .unset, .unset] [(.int p1), (.int (1 : Int32))])) _
    refine X0.ldcInt hx hown (mvT hZ (own_w hw 0 rfl)) (g := (mkF m 2 #[.val (.int p1), .val (.int p2), .val (.int p3), .unset, .unset, .unset, .unset, .unset, .unset] [(.int p1), (.int (1 : Int32))])) rfl (hb hby at_2) _ ?_
    show Steps p.tables e below (s₁.setTop (mkF m 4 #[.val (.int p1), .val (.int p2), .val (.int p3), .unset, .unset, .unset, .unset, .unset, .unset] [(.int (2147483647 : Int32)), (.int p1), (.int (1 : Int32))])) _
    refine XS.iand X0.here hx rfl (hb hby at_4) rfl ?_
    show Steps p.tables e below (s₁.setTop (mkF m 5 #[.val (.int p1), .val (.int p2), .val (.int p3), .unset, .unset, .unset, .unset, .unset, .unset] [(.int (p1 &&& (2147483647 : Int32))), (.int (1 : Int32))])) _
    refine XS.iconst X0.here hx rfl (hb hby at_5) ?_
    show Steps p.tables e below (s₁.setTop (mkF m 6 #[.val (.int p1), .val (.int p2), .val (.int p3), .unset, .unset, .unset, .unset, .unset, .unset] [(.int (3 : Int32)), (.int (p1 &&& (2147483647 : Int32))), (.int (1 : Int32))])) _
    refine iremM X0 hx rfl (hb hby at_6) rfl (by decide) ?_
    show Steps p.tables e below (s₁.setTop (mkF m 7 #[.val (.int p1), .val (.int p2), .val (.int p3), .unset, .unset, .unset, .unset, .unset, .unset] [(.int ((p1 &&& (2147483647 : Int32)) % (3 : Int32))), (.int (1 : Int32))])) _
    refine XS.iadd X0.here hx rfl (hb hby at_7) rfl ?_
    rw [hN]
    show Steps p.tables e below (s₁.setTop (mkF m 8 #[.val (.int p1), .val (.int p2), .val (.int p3), .unset, .unset, .unset, .unset, .unset, .unset] [(.int (2 : Int32))])) _
    refine XS.istoreN X0.here hx rfl (hb hby at_8) rfl (l' := #[.val (.int p1), .val (.int p2), .val (.int p3), .val (.int (2 : Int32)), .unset, .unset, .unset, .unset, .unset]) rfl ?_
    refine XS.iloadN X0.here hx rfl (hb hby at_9) rfl ?_
    show Steps p.tables e below (s₁.setTop (mkF m 10 #[.val (.int p1), .val (.int p2), .val (.int p3), .val (.int (2 : Int32)), .unset, .unset, .unset, .unset, .unset] [(.int p2)])) _
    refine X0.ldcInt hx hown (mvT hZ (own_w hw 0 rfl)) (g := (mkF m 10 #[.val (.int p1), .val (.int p2), .val (.int p3), .val (.int (2 : Int32)), .unset, .unset, .unset, .unset, .unset] [(.int p2)])) rfl (hb hby at_10) _ ?_
    show Steps p.tables e below (s₁.setTop (mkF m 12 #[.val (.int p1), .val (.int p2), .val (.int p3), .val (.int (2 : Int32)), .unset, .unset, .unset, .unset, .unset] [(.int (2147483647 : Int32)), (.int p2)])) _
    refine XS.iand X0.here hx rfl (hb hby at_12) rfl ?_
    show Steps p.tables e below (s₁.setTop (mkF m 13 #[.val (.int p1), .val (.int p2), .val (.int p3), .val (.int (2 : Int32)), .unset, .unset, .unset, .unset, .unset] [(.int (p2 &&& (2147483647 : Int32)))])) _
    refine XS.iloadN X0.here hx rfl (hb hby at_13) rfl ?_
    show Steps p.tables e below (s₁.setTop (mkF m 14 #[.val (.int p1), .val (.int p2), .val (.int p3), .val (.int (2 : Int32)), .unset, .unset, .unset, .unset, .unset] [(.int (2 : Int32)), (.int (p2 &&& (2147483647 : Int32)))])) _
    refine iremM X0 hx rfl (hb hby at_14) rfl (by decide) ?_
    rw [hE]
    show Steps p.tables e below (s₁.setTop (mkF m 15 #[.val (.int p1), .val (.int p2), .val (.int p3), .val (.int (2 : Int32)), .unset, .unset, .unset, .unset, .unset] [(.int (0 : Int32))])) _
    refine XS.istore X0.here hx rfl (hb hby at_15) rfl (l' := #[.val (.int p1), .val (.int p2), .val (.int p3), .val (.int (2 : Int32)), .val (.int (0 : Int32)), .unset, .unset, .unset, .unset]) rfl ?_
    refine XS.iloadN X0.here hx rfl (hb hby at_17) rfl ?_
    refine XS.iconst X0.here hx rfl (hb hby at_18) ?_
    show Steps p.tables e below (s₁.setTop (mkF m 19 #[.val (.int p1), .val (.int p2), .val (.int p3), .val (.int (2 : Int32)), .val (.int (0 : Int32)), .unset, .unset, .unset, .unset] [(.int (1 : Int32)), (.int p3)])) _
    refine XS.iand X0.here hx rfl (hb hby at_19) rfl ?_
    rw [← hll]
    show Steps p.tables e below (s₁.setTop (mkF m 20 #[.val (.int p1), .val (.int p2), .val (.int p3), .val (.int (2 : Int32)), .val (.int (0 : Int32)), .unset, .unset, .unset, .unset] [(.int ll)])) _
    refine XS.istore X0.here hx rfl (hb hby at_20) rfl (l' := #[.val (.int p1), .val (.int p2), .val (.int p3), .val (.int (2 : Int32)), .val (.int (0 : Int32)), .val (.int ll), .unset, .unset, .unset]) rfl ?_
    refine XS.iconst X0.here hx rfl (hb hby at_22) ?_
    refine XS.iload X0.here hx rfl (hb hby at_23) rfl ?_
    show Steps p.tables e below (s₁.setTop (mkF m 25 #[.val (.int p1), .val (.int p2), .val (.int p3), .val (.int (2 : Int32)), .val (.int (0 : Int32)), .val (.int ll), .unset, .unset, .unset] [(.int ll), (.int (1 : Int32))])) _
    refine XS.isub X0.here hx rfl (hb hby at_25) rfl ?_
    rw [← hoo]
    show Steps p.tables e below (s₁.setTop (mkF m 26 #[.val (.int p1), .val (.int p2), .val (.int p3), .val (.int (2 : Int32)), .val (.int (0 : Int32)), .val (.int ll), .unset, .unset, .unset] [(.int oo)])) _
    refine XS.istore X0.here hx rfl (hb hby at_26) rfl (l' := #[.val (.int p1), .val (.int p2), .val (.int p3), .val (.int (2 : Int32)), .val (.int (0 : Int32)), .val (.int ll), .val (.int oo), .unset, .unset]) rfl ?_
    show Steps p.tables e below (s₁.setTop (mkF m 28 #[.val (.int p1), .val (.int p2), .val (.int p3), .val (.int (2 : Int32)), .val (.int (0 : Int32)), .val (.int ll), .val (.int oo), .unset, .unset] [])) _
    refine st1 _ ?_
    show Steps p.tables e below (T1.setTop (mkF m 31 #[.val (.int p1), .val (.int p2), .val (.int p3), .val (.int (2 : Int32)), .val (.int (0 : Int32)), .val (.int ll), .val (.int oo), .unset, .unset] [(.ref ad1)])) _
    refine XS.dup X1.here hx rfl (hb hby at_31) rfl rfl ?_
    refine XS.iconst X1.here hx rfl (hb hby at_32) ?_
    refine XS.iconst X1.here hx rfl (hb hby at_33) ?_
    show Steps p.tables e below (T1.setTop (mkF m 34 #[.val (.int p1), .val (.int p2), .val (.int p3), .val (.int (2 : Int32)), .val (.int (0 : Int32)), .val (.int ll), .val (.int oo), .unset, .unset] [(.int (3 : Int32)), (.int (2 : Int32)), (.ref ad1), (.ref ad1)])) _
    refine st2.trans ?_
    show Steps p.tables e below (T2.setTop (mkF m 37 #[.val (.int p1), .val (.int p2), .val (.int p3), .val (.int (2 : Int32)), .val (.int (0 : Int32)), .val (.int ll), .val (.int oo), .unset, .unset] [(.ref ad1)])) _
    refine XS.astore X2.here hx rfl (hb hby at_37) rfl rfl (l' := #[.val (.int p1), .val (.int p2), .val (.int p3), .val (.int (2 : Int32)), .val (.int (0 : Int32)), .val (.int ll), .val (.int oo), .val (.ref ad1), .unset]) rfl ?_
    refine XS.aload X2.here hx rfl (hb hby at_39) rfl rfl ?_
    refine XS.iload X2.here hx rfl (hb hby at_41) rfl ?_
    refine XS.iconst X2.here hx rfl (hb hby at_43) ?_
    show Steps p.tables e below (T2.setTop (mkF m 44 #[.val (.int p1), .val (.int p2), .val (.int p3), .val (.int (2 : Int32)), .val (.int (0 : Int32)), .val (.int ll), .val (.int oo), .val (.ref ad1), .unset] [(.int (0 : Int32)), (.int ll), (.ref ad1)])) _
    refine st3.trans ?_
    show Steps p.tables e below (T3.setTop (mkF m 47 #[.val (.int p1), .val (.int p2), .val (.int p3), .val (.int (2 : Int32)), .val (.int (0 : Int32)), .val (.int ll), .val (.int oo), .val (.ref ad1), .unset] [])) _
    refine XS.iloadN X3.here hx rfl (hb hby at_47) rfl ?_
    refine XS.iconst X3.here hx rfl (hb hby at_48) ?_
    show Steps p.tables e below (T3.setTop (mkF m 49 #[.val (.int p1), .val (.int p2), .val (.int p3), .val (.int (2 : Int32)), .val (.int (0 : Int32)), .val (.int ll), .val (.int oo), .val (.ref ad1), .unset] [(.int (2 : Int32)), (.int (2 : Int32))])) _
    refine XS.icmpNo X3.here hx rfl (hb hby at_49) rfl (flt (by decide : ¬ ((2 : Int32) < (2 : Int32)))).1 ?_
    show Steps p.tables e below (T3.setTop (mkF m 52 #[.val (.int p1), .val (.int p2), .val (.int p3), .val (.int (2 : Int32)), .val (.int (0 : Int32)), .val (.int ll), .val (.int oo), .val (.ref ad1), .unset] [])) _
    refine XS.aload X3.here hx rfl (hb hby at_52) rfl rfl ?_
    refine XS.iload X3.here hx rfl (hb hby at_54) rfl ?_
    refine XS.iconst X3.here hx rfl (hb hby at_56) ?_
    show Steps p.tables e below (T3.setTop (mkF m 57 #[.val (.int p1), .val (.int p2), .val (.int p3), .val (.int (2 : Int32)), .val (.int (0 : Int32)), .val (.int ll), .val (.int oo), .val (.ref ad1), .unset] [(.int (1 : Int32)), (.int ll), (.ref ad1)])) _
    refine st4.trans ?_
    show Steps p.tables e below (T4.setTop (mkF m 60 #[.val (.int p1), .val (.int p2), .val (.int p3), .val (.int (2 : Int32)), .val (.int (0 : Int32)), .val (.int ll), .val (.int oo), .val (.ref ad1), .unset] [])) _
    refine XS.iloadN X4.here hx rfl (hb hby at_60) rfl ?_
    refine XS.iconst X4.here hx rfl (hb hby at_61) ?_
    show Steps p.tables e below (T4.setTop (mkF m 62 #[.val (.int p1), .val (.int p2), .val (.int p3), .val (.int (2 : Int32)), .val (.int (0 : Int32)), .val (.int ll), .val (.int oo), .val (.ref ad1), .unset] [(.int (3 : Int32)), (.int (2 : Int32))])) _
    refine XS.icmpYes X4.here hx rfl (pc0 := 62) (pc' := 73) rfl (hb hby at_62) rfl (tlt (by decide : (2 : Int32) < (3 : Int32))).1 (by decide) (by decide) ?_
    show Steps p.tables e below (T4.setTop (mkF m 73 #[.val (.int p1), .val (.int p2), .val (.int p3), .val (.int (2 : Int32)), .val (.int (0 : Int32)), .val (.int ll), .val (.int oo), .val (.ref ad1), .unset] [])) _
    refine XS.aload X4.here hx rfl (hb hby at_73) rfl rfl ?_
    refine XS.iload X4.here hx rfl (hb hby at_75) rfl ?_
    refine XS.iload X4.here hx rfl (hb hby at_77) rfl ?_
    show Steps p.tables e below (T4.setTop (mkF m 79 #[.val (.int p1), .val (.int p2), .val (.int p3), .val (.int (2 : Int32)), .val (.int (0 : Int32)), .val (.int ll), .val (.int oo), .val (.ref ad1), .unset] [(.int (0 : Int32)), (.int ll), (.ref ad1)])) _
    refine st5.trans ?_
    show Steps p.tables e below (T5.setTop (mkF m 82 #[.val (.int p1), .val (.int p2), .val (.int p3), .val (.int (2 : Int32)), .val (.int (0 : Int32)), .val (.int ll), .val (.int oo), .val (.ref ad1), .unset] [])) _
    refine XS.aload X5.here hx rfl (hb hby at_82) rfl rfl ?_
    refine XS.iload X5.here hx rfl (hb hby at_84) rfl ?_
    refine XS.iloadN X5.here hx rfl (hb hby at_86) rfl ?_
    refine XS.iload X5.here hx rfl (hb hby at_87) rfl ?_
    refine XS.iconst X5.here hx rfl (hb hby at_89) ?_
    show Steps p.tables e below (T5.setTop (mkF m 90 #[.val (.int p1), .val (.int p2), .val (.int p3), .val (.int (2 : Int32)), .val (.int (0 : Int32)), .val (.int ll), .val (.int oo), .val (.ref ad1), .unset] [(.int (-1 : Int32)), (.int (0 : Int32)), (.int (2 : Int32)), (.int ll), (.ref ad1)])) _
    refine st6 _ ?_
    show Steps p.tables e below (T6.setTop (mkF m 93 #[.val (.int p1), .val (.int p2), .val (.int p3), .val (.int (2 : Int32)), .val (.int (0 : Int32)), .val (.int ll), .val (.int oo), .val (.ref ad1), .unset] [(.int (1 : Int32))])) _
    refine XS.istore X6.here hx rfl (hb hby at_93) rfl (l' := #[.val (.int p1), .val (.int p2), .val (.int p3), .val (.int (2 : Int32)), .val (.int (0 : Int32)), .val (.int ll), .val (.int oo), .val (.ref ad1), .val (.int (1 : Int32))]) rfl ?_
    refine XS.iload X6.here hx rfl (hb hby at_95) rfl ?_
    refine XS.iconst X6.here hx rfl (hb hby at_97) ?_
    show Steps p.tables e below (T6.setTop (mkF m 98 #[.val (.int p1), .val (.int p2), .val (.int p3), .val (.int (2 : Int32)), .val (.int (0 : Int32)), .val (.int ll), .val (.int oo), .val (.ref ad1), .val (.int (1 : Int32))] [(.int (1 : Int32)), (.int (0 : Int32))])) _
    refine XS.icmpYes X6.here hx rfl (pc0 := 98) (pc' := 141) rfl (hb hby at_98) rfl (tlt (by decide : (0 : Int32) < (1 : Int32))).1 (by decide) (by decide) ?_
    show Steps p.tables e below (T6.setTop (mkF m 141 #[.val (.int p1), .val (.int p2), .val (.int p3), .val (.int (2 : Int32)), .val (.int (0 : Int32)), .val (.int ll), .val (.int oo), .val (.ref ad1), .val (.int (1 : Int32))] [])) _
    refine XS.iload X6.here hx rfl (hb hby at_141) rfl ?_
    show Steps p.tables e below (T6.setTop (mkF m 143 #[.val (.int p1), .val (.int p2), .val (.int p3), .val (.int (2 : Int32)), .val (.int (0 : Int32)), .val (.int ll), .val (.int oo), .val (.ref ad1), .val (.int (1 : Int32))] [(.int (1 : Int32))])) _
    refine XS.ifNo X6.here hx rfl (hb hby at_143) rfl ((if0 _ _).trans (feq (by decide : ¬ ((1 : Int32) = (0 : Int32)))).1) ?_
    show Steps p.tables e below (T6.setTop (mkF m 146 #[.val (.int p1), .val (.int p2), .val (.int p3), .val (.int (2 : Int32)), .val (.int (0 : Int32)), .val (.int ll), .val (.int oo), .val (.ref ad1), .val (.int (1 : Int32))] [])) _
    refine XS.aload X6.here hx rfl (hb hby at_146) rfl rfl ?_
    refine XS.iload X6.here hx rfl (hb hby at_148) rfl ?_
    show Steps p.tables e below (T6.setTop (mkF m 150 #[.val (.int p1), .val (.int p2), .val (.int p3), .val (.int (2 : Int32)), .val (.int (0 : Int32)), .val (.int ll), .val (.int oo), .val (.ref ad1), .val (.int (1 : Int32))] [(.int oo), (.ref ad1)])) _
    refine st7.trans ?_
    show Steps p.tables e below (T7.setTop (mkF m 153 #[.val (.int p1), .val (.int p2), .val (.int p3), .val (.int (2 : Int32)), .val (.int (0 : Int32)), .val (.int ll), .val (.int oo), .val (.ref ad1), .val (.int (1 : Int32))] [(.int ((own_rH (own_upd (own_upd own_H0 ll (0 : Int32)) ll (1 : Int32)) (own_upd (own_upd own_zero (0 : Int32) (own_H0 ll)) (1 : Int32) ((own_upd own_H0 ll (0 : Int32)) ll)) (own_pP (own_upd own_H0 ll (0 : Int32)) (own_pP own_H0 own_zero ll (0 : Int32)) ll (1 : Int32)) ll (0 : Int32)) oo))])) _
    refine XS.iconst X7.here hx rfl (hb hby at_153) ?_
    show Steps p.tables e below (T7.setTop (mkF m 154 #[.val (.int p1), .val (.int p2), .val (.int p3), .val (.int (2 : Int32)), .val (.int (0 : Int32)), .val (.int ll), .val (.int oo), .val (.ref ad1), .val (.int (1 : Int32))] [(.int (-1 : Int32)), (.int ((own_rH (own_upd (own_upd own_H0 ll (0 : Int32)) ll (1 : Int32)) (own_upd (own_upd own_zero (0 : Int32) (own_H0 ll)) (1 : Int32) ((own_upd own_H0 ll (0 : Int32)) ll)) (own_pP (own_upd own_H0 ll (0 : Int32)) (own_pP own_H0 own_zero ll (0 : Int32)) ll (1 : Int32)) ll (0 : Int32)) oo))])) _
    refine XS.icmpNo X7.here hx rfl (hb hby at_154) rfl (teq (show ((own_rH (own_upd (own_upd own_H0 ll (0 : Int32)) ll (1 : Int32)) (own_upd (own_upd own_zero (0 : Int32) (own_H0 ll)) (1 : Int32) ((own_upd own_H0 ll (0 : Int32)) ll)) (own_pP (own_upd own_H0 ll (0 : Int32)) (own_pP own_H0 own_zero ll (0 : Int32)) ll (1 : Int32)) ll (0 : Int32)) oo) = (-1 : Int32) by subst hoo; rcases hl with rfl | rfl <;> decide +kernel)).2 ?_
    show Steps p.tables e below (T7.setTop (mkF m 157 #[.val (.int p1), .val (.int p2), .val (.int p3), .val (.int (2 : Int32)), .val (.int (0 : Int32)), .val (.int ll), .val (.int oo), .val (.ref ad1), .val (.int (1 : Int32))] [])) _
    refine XS.aload X7.here hx rfl (hb hby at_157) rfl rfl ?_
    refine XS.iload X7.here hx rfl (hb hby at_159) rfl ?_
    show Steps p.tables e below (T7.setTop (mkF m 161 #[.val (.int p1), .val (.int p2), .val (.int p3), .val (.int (2 : Int32)), .val (.int (0 : Int32)), .val (.int ll), .val (.int oo), .val (.ref ad1), .val (.int (1 : Int32))] [(.int oo), (.ref ad1)])) _
    refine st8.trans ?_
    show Steps p.tables e below (T8.setTop (mkF m 164 #[.val (.int p1), .val (.int p2), .val (.int p3), .val (.int (2 : Int32)), .val (.int (0 : Int32)), .val (.int ll), .val (.int oo), .val (.ref ad1), .val (.int (1 : Int32))] [(.int ((own_upd (own_upd (own_upd own_zero ll (own_zero ll + (1 : Int32))) ll ((own_upd own_zero ll (own_zero ll + (1 : Int32))) ll + (1 : Int32))) ll ((own_upd (own_upd own_zero ll (own_zero ll + (1 : Int32))) ll ((own_upd own_zero ll (own_zero ll + (1 : Int32))) ll + (1 : Int32))) ll - (1 : Int32))) oo))])) _
    refine XS.ifNo X8.here hx rfl (hb hby at_164) rfl ((if0 _ _).trans (teq (show ((own_upd (own_upd (own_upd own_zero ll (own_zero ll + (1 : Int32))) ll ((own_upd own_zero ll (own_zero ll + (1 : Int32))) ll + (1 : Int32))) ll ((own_upd (own_upd own_zero ll (own_zero ll + (1 : Int32))) ll ((own_upd own_zero ll (own_zero ll + (1 : Int32))) ll + (1 : Int32))) ll - (1 : Int32))) oo) = (0 : Int32) by subst hoo; rcases hl with rfl | rfl <;> decide +kernel)).2) ?_
    show Steps p.tables e below (T8.setTop (mkF m 167 #[.val (.int p1), .val (.int p2), .val (.int p3), .val (.int (2 : Int32)), .val (.int (0 : Int32)), .val (.int ll), .val (.int oo), .val (.ref ad1), .val (.int (1 : Int32))] [])) _
    refine XS.iconst X8.here hx rfl (hb hby at_167) ?_
    refine XS.goto X8.here hx rfl (pc0 := 168) (pc' := 172) rfl (hb hby at_168) (by decide) (by decide) ?_
    refine XS.istore X8.here hx rfl (hb hby at_172) rfl (l' := #[.val (.int p1), .val (.int p2), .val (.int p3), .val (.int (2 : Int32)), .val (.int (0 : Int32)), .val (.int ll), .val (.int oo), .val (.ref ad1), .val (.int (1 : Int32))]) rfl ?_
    refine XS.iload X8.here hx rfl (hb hby at_174) rfl ?_
    show Steps p.tables e below (T8.setTop (mkF m 176 #[.val (.int p1), .val (.int p2), .val (.int p3), .val (.int (2 : Int32)), .val (.int (0 : Int32)), .val (.int ll), .val (.int oo), .val (.ref ad1), .val (.int (1 : Int32))] [(.int (1 : Int32))])) _
    exact retN X8 hx (t := .boolean) Bd.returns (by simp) (hb hby at_176) hr
  · show Q0_2_0 Z p1 p2 p3 h0 n0 _ T8.heap _
    exact ⟨rfl, N8⟩
def Q0_2_1 (Z : State) (p1 p2 p3 : Int32) (h0 : Heap) (n0 : Nat) (v : Option Value) (h : Heap) (L : List Loc) : Prop := v = some (.int (1 : Int32)) ∧ Fr n0 L
set_option maxRecDepth 65536 in
set_option maxHeartbeats 40000000 in
theorem rm0_2_1 (l : Launch) (Z : State) (a0 : Array Value) (hw : ∀ d ∈ tables_1, d.before a0 Z = true) (ws : List Jvm.Cond) (p1 p2 p3 : Int32) (h0 : Heap) (n0 : Nat) (Z0 : n0 ≤ h0.size) (hN : ((1 : Int32) + ((p1 &&& (2147483647 : Int32)) % (3 : Int32))) = (2 : Int32)) (hE : ((p2 &&& (2147483647 : Int32)) % (2 : Int32)) = (1 : Int32)) :
    MetFree l x (head1 (Jvm.Cond.code x code maxLocals ret :: ws) room_1) (fun a U => a = #[(.int p1), (.int p2), (.int p3)] ∧ Z.Warmed39 U.vm ∧ U.heap = h0) (fun _ _ _ _ _ => True) (fun _ U o U' => ∃ v L, o = .returned v ∧ Q0_2_1 Z p1 p2 p3 h0 n0 v U'.heap L ∧ FrameEnd U o U' L room_1.cells room_1.slots) := by
  refine MetFree.of_bodySF (plainFor_of_name pn_0) hisR ?_
  intro p e s m args below meth c s₁ Bd hml0 hP hK
  obtain ⟨rfl, hZ, hh⟩ := hP
  have hx := Bd.exec
  have hby := Bd.bytes
  have hml : c.maxLocals = 9 := hml0
  have hown : s.vm.findClass "com/example/process_stepper/processstepper/equivalence/IntListsRemovePinLaw" = some m.cls := findClass_of_methodNamed Bd.named
  have hnm := (name_of_methodNamed Bd.named Bd.method).1
  have X0 : Stand p l e room_1 s m #[(.int p1), (.int p2), (.int p3)] below meth c s₁ [] 0 0 := Stand.of_body Bd
  have e0 : s₁.heap = h0 := by rw [← hh, Bd.state]; rfl
  have N0 := Fr.nil n0
  have pre0 : ∀ t, Steps p.tables e below (s₁.setTop (mkF m 0 #[.val (.int p1), .val (.int p2), .val (.int p3), .unset, .unset, .unset, .unset, .unset, .unset] [])) t → Steps p.tables e below (s₁.setTop (entryFrame m #[(.int p1), (.int p2), (.int p3)] maxLocals)) t := fun t k => castTop (ef_0 m p1 p2 p3) k
  obtain ⟨ll, hll⟩ : ∃ z : Int32, z = (p3 &&& (1 : Int32)) := ⟨_, rfl⟩
  have hl : ll = (0 : Int32) ∨ ll = (1 : Int32) := by rw [hll]; exact own_bit p3
  obtain ⟨oo, hoo⟩ : ∃ z : Int32, z = ((1 : Int32) - ll) := ⟨_, rfl⟩
  obtain ⟨T1, h1, X1, e1, E1, A1, D1, -, st1⟩ := newO X0 hx hZ hown (own_w hw 1 rfl) (own_w hw 2 rfl) (own_w hw 3 rfl) e0 (g := (mkF m 28 #[.val (.int p1), .val (.int p2), .val (.int p3), .val (.int (2 : Int32)), .val (.int (1 : Int32)), .val (.int ll), .val (.int oo), .unset, .unset] [])) rfl (hb hby at_28) (by decide) (by decide)
  obtain ⟨ad1, g1⟩ : ∃ z, z = h0.size := ⟨_, rfl⟩
  rw [← g1] at A1 D1 st1
  have gn_ad1 : n0 ≤ ad1 := Nat.le_trans Z0 (Nat.le_of_eq g1.symm)
  have sz_ad1 : h0.size ≤ ad1 := Nat.le_trans (Keep.refl h0 []).1 (Nat.le_of_eq g1.symm)
  have E_ad1_1 : Exa Z h1 ad1 "com/example/process_stepper/processstepper/equivalence/IntLists" := A1
  have F_heads_ad1_1 : Fld Z h1 ad1 "com/example/process_stepper/processstepper/equivalence/IntLists" "heads" "[I" .null := D1 (Or.inl (own_w hw 12 rfl)) (ty := (.array .int)) (by decide)
  have F_sizes_ad1_1 : Fld Z h1 ad1 "com/example/process_stepper/processstepper/equivalence/IntLists" "sizes" "[I" .null := D1 (Or.inl (own_w hw 18 rfl)) (ty := (.array .int)) (by decide)
  have F_next_ad1_1 : Fld Z h1 ad1 "com/example/process_stepper/processstepper/equivalence/IntLists" "next" "[I" .null := D1 (Or.inl (own_w hw 20 rfl)) (ty := (.array .int)) (by decide)
  have F_previous_ad1_1 : Fld Z h1 ad1 "com/example/process_stepper/processstepper/equivalence/IntLists" "previous" "[I" .null := D1 (Or.inl (own_w hw 22 rfl)) (ty := (.array .int)) (by decide)
  have K1 : Keep h0 h1 [] := (Keep.refl h0 []).ext E1
  have Zs1 : n0 ≤ h1.size := Nat.le_trans Z0 E1.1
  obtain ⟨_, _, ⟨T2, L2, k2, n2⟩, -, X2, ⟨Lc2, hQ2, l2, y2, z2⟩, st2⟩ := X1.specialBack hx (y := own_m5) rfl hown (mvT hZ (own_w hw 4 rfl)) (mvT hZ (own_w hw 5 rfl)) (mvT hZ (own_w hw 6 rfl)) (by decide) (backOf (W := 1) (rm1 l Z a0 hw [] ad1 h1 n0 Zs1 E_ad1_1 F_heads_ad1_1 F_sizes_ad1_1 F_next_ad1_1 F_previous_ad1_1 gn_ad1) hZ (own_w hw 6 rfl) (own_w hw 3 rfl) (by decide) (by decide)) (g := (mkF m 34 #[.val (.int p1), .val (.int p2), .val (.int p3), .val (.int (2 : Int32)), .val (.int (1 : Int32)), .val (.int ll), .val (.int oo), .unset, .unset] [(.int (3 : Int32)), (.int (2 : Int32)), (.ref ad1), (.ref ad1)])) rfl (by rw [hml]; rfl) (Steps.refl _) (a := ad1) (argsL := [(.int (2 : Int32)), (.int (3 : Int32))]) (rest := [(.ref ad1)]) (lenOf pd__II_V rfl) rfl (by show 2 * 0 + _ ≤ _; exact Nat.le_of_eq rfl) (hb hby at_34) (fun _ _ => ⟨rfl, e1, (by decide : 1 + 4 ≤ _), (by decide : 4 + 10 ≤ _)⟩)
  dsimp only [Pt.U, Pt.locs, Pt.cells, Pt.slots] at X2 l2 y2 z2 st2 hQ2
  subst l2 y2 z2
  obtain ⟨rfl, N2q, b1, b2, b3, b4, K2q, -, V2⟩ := hQ2
  have N2 := Fr.app N0 N2q
  have Zs2 : n0 ≤ T2.heap.size := Nat.le_trans Zs1 K2q.1
  obtain ⟨cq3, kq3, q3a, q3b, q3c⟩ := isOf hZ rfl (V2.1)
  obtain ⟨_, _, ⟨T3, L3, k3, n3⟩, -, X3, ⟨Lc3, hQ3, l3, y3, z3⟩, st3⟩ := X2.virtualBack hx (y := own_m6) (z := own_m6) hown (mvT hZ (own_w hw 23 rfl)) (mvT hZ (own_w hw 24 rfl)) (notFace_of_selects (args := #[]) (mvT hZ (own_w hw 26 rfl))) (mvT hZ (own_w hw 26 rfl)) (mvT hZ (own_w hw 25 rfl)) (by decide) (backOf (W := 0) (rm4 l Z a0 hw [] ad1 ll (0 : Int32) b1 b2 b3 b4 own_H0 own_zero own_zero own_zero T2.heap n0 Zs2 V2 (by rcases hl with rfl | rfl <;> decide +kernel) (by rcases hl with rfl | rfl <;> decide +kernel) (by decide) (by decide) (by unfold own_in; rcases hl with rfl | rfl <;> decide +kernel)) hZ (own_w hw 27 rfl) (own_w hw 3 rfl) (by decide) (by decide)) q3a q3c (g := (mkF m 44 #[.val (.int p1), .val (.int p2), .val (.int p3), .val (.int (2 : Int32)), .val (.int (1 : Int32)), .val (.int ll), .val (.int oo), .val (.ref ad1), .unset] [(.int (0 : Int32)), (.int ll), (.ref ad1)])) rfl (by rw [hml]; rfl) (Steps.refl _) (argsL := [(.int ll), (.int (0 : Int32))]) (rest := []) (lenOf pd__II_V rfl) rfl (by show 2 * 0 + _ ≤ _; exact Nat.le_of_eq rfl) (hb hby at_44) (fun _ _ => ⟨rfl, rfl, (by decide : 5 + 0 ≤ _), (by decide : 14 + 0 ≤ _)⟩)
  dsimp only [Pt.U, Pt.locs, Pt.cells, Pt.slots] at X3 l3 y3 z3 st3 hQ3
  subst l3 y3 z3
  obtain ⟨rfl, N3q, K3q, V3⟩ := hQ3
  have N3 := Fr.app N2 N3q
  have Zs3 : n0 ≤ T3.heap.size := Nat.le_trans Zs2 K3q.1
  obtain ⟨cq4, kq4, q4a, q4b, q4c⟩ := isOf hZ rfl (V3.1)
  obtain ⟨_, _, ⟨T4, L4, k4, n4⟩, -, X4, ⟨Lc4, hQ4, l4, y4, z4⟩, st4⟩ := X3.virtualBack hx (y := own_m6) (z := own_m6) hown (mvT hZ (own_w hw 23 rfl)) (mvT hZ (own_w hw 24 rfl)) (notFace_of_selects (args := #[]) (mvT hZ (own_w hw 26 rfl))) (mvT hZ (own_w hw 26 rfl)) (mvT hZ (own_w hw 25 rfl)) (by decide) (backOf (W := 0) (rm4 l Z a0 hw [] ad1 ll (1 : Int32) b1 b2 b3 b4 (own_upd own_H0 ll (0 : Int32)) (own_upd own_zero ll (own_zero ll + (1 : Int32))) (own_upd own_zero (0 : Int32) (own_H0 ll)) (own_pP own_H0 own_zero ll (0 : Int32)) T3.heap n0 Zs3 V3 (by rcases hl with rfl | rfl <;> decide +kernel) (by rcases hl with rfl | rfl <;> decide +kernel) (by decide) (by decide) (by unfold own_in; rcases hl with rfl | rfl <;> decide +kernel)) hZ (own_w hw 27 rfl) (own_w hw 3 rfl) (by decide) (by decide)) q4a q4c (g := (mkF m 57 #[.val (.int p1), .val (.int p2), .val (.int p3), .val (.int (2 : Int32)), .val (.int (1 : Int32)), .val (.int ll), .val (.int oo), .val (.ref ad1), .unset] [(.int (1 : Int32)), (.int ll), (.ref ad1)])) rfl (by rw [hml]; rfl) (Steps.refl _) (argsL := [(.int ll), (.int (1 : Int32))]) (rest := []) (lenOf pd__II_V rfl) rfl (by show 2 * 0 + _ ≤ _; exact Nat.le_of_eq rfl) (hb hby at_57) (fun _ _ => ⟨rfl, rfl, (by decide : 5 + 0 ≤ _), (by decide : 14 + 0 ≤ _)⟩)
  dsimp only [Pt.U, Pt.locs, Pt.cells, Pt.slots] at X4 l4 y4 z4 st4 hQ4
  subst l4 y4 z4
  obtain ⟨rfl, N4q, K4q, V4⟩ := hQ4
  have N4 := Fr.app N3 N4q
  have Zs4 : n0 ≤ T4.heap.size := Nat.le_trans Zs3 K4q.1
  obtain ⟨cq5, kq5, q5a, q5b, q5c⟩ := isOf hZ rfl (V4.1)
  obtain ⟨_, _, ⟨T5, L5, k5, n5⟩, -, X5, ⟨Lc5, hQ5, l5, y5, z5⟩, st5⟩ := X4.virtualBack hx (y := own_m7) (z := own_m7) hown (mvT hZ (own_w hw 28 rfl)) (mvT hZ (own_w hw 29 rfl)) (notFace_of_selects (args := #[]) (mvT hZ (own_w hw 31 rfl))) (mvT hZ (own_w hw 31 rfl)) (mvT hZ (own_w hw 30 rfl)) (by decide) (backOf (W := 0) (rm5 l Z a0 hw [] ad1 ll (1 : Int32) b1 b2 b3 b4 (own_upd (own_upd own_H0 ll (0 : Int32)) ll (1 : Int32)) (own_upd (own_upd own_zero ll (own_zero ll + (1 : Int32))) ll ((own_upd own_zero ll (own_zero ll + (1 : Int32))) ll + (1 : Int32))) (own_upd (own_upd own_zero (0 : Int32) (own_H0 ll)) (1 : Int32) ((own_upd own_H0 ll (0 : Int32)) ll)) (own_pP (own_upd own_H0 ll (0 : Int32)) (own_pP own_H0 own_zero ll (0 : Int32)) ll (1 : Int32)) T4.heap n0 Zs4 V4 (by rcases hl with rfl | rfl <;> decide +kernel) (by rcases hl with rfl | rfl <;> decide +kernel) (by decide) (by decide) (by unfold own_in; rcases hl with rfl | rfl <;> decide +kernel) (by unfold own_in; rcases hl with rfl | rfl <;> decide +kernel)) hZ (own_w hw 32 rfl) (own_w hw 3 rfl) (by decide) (by decide)) q5a q5c (g := (mkF m 79 #[.val (.int p1), .val (.int p2), .val (.int p3), .val (.int (2 : Int32)), .val (.int (1 : Int32)), .val (.int ll), .val (.int oo), .val (.ref ad1), .unset] [(.int (1 : Int32)), (.int ll), (.ref ad1)])) rfl (by rw [hml]; rfl) (Steps.refl _) (argsL := [(.int ll), (.int (1 : Int32))]) (rest := []) (lenOf pd__II_V rfl) rfl (by show 2 * 0 + _ ≤ _; exact Nat.le_of_eq rfl) (hb hby at_79) (fun _ _ => ⟨rfl, rfl, (by decide : 5 + 0 ≤ _), (by decide : 14 + 0 ≤ _)⟩)
  dsimp only [Pt.U, Pt.locs, Pt.cells, Pt.slots] at X5 l5 y5 z5 st5 hQ5
  subst l5 y5 z5
  obtain ⟨rfl, N5q, K5q, V5⟩ := hQ5
  have N5 := Fr.app N4 N5q
  have Zs5 : n0 ≤ T5.heap.size := Nat.le_trans Zs4 K5q.1
  obtain ⟨_, _, ⟨T6, L6, k6, n6⟩, -, X6, ⟨Lc6, hQ6, l6, y6, z6⟩, st6⟩ := Jvm.LawKit.callS X5 hx (y := own_m8) hown (mvT hZ (own_w hw 33 rfl)) (mvT hZ (own_w hw 34 rfl)) (mvT hZ (own_w hw 35 rfl)) (mvT hZ (own_w hw 36 rfl)) (by decide) (backOf (W := 0) (rm6_2_1_m1 l Z a0 hw [] ad1 ll b1 b2 b3 b4 (own_rH (own_upd (own_upd own_H0 ll (0 : Int32)) ll (1 : Int32)) (own_upd (own_upd own_zero (0 : Int32) (own_H0 ll)) (1 : Int32) ((own_upd own_H0 ll (0 : Int32)) ll)) (own_pP (own_upd own_H0 ll (0 : Int32)) (own_pP own_H0 own_zero ll (0 : Int32)) ll (1 : Int32)) ll (1 : Int32)) (own_upd (own_upd (own_upd own_zero ll (own_zero ll + (1 : Int32))) ll ((own_upd own_zero ll (own_zero ll + (1 : Int32))) ll + (1 : Int32))) ll ((own_upd (own_upd own_zero ll (own_zero ll + (1 : Int32))) ll ((own_upd own_zero ll (own_zero ll + (1 : Int32))) ll + (1 : Int32))) ll - (1 : Int32))) (own_rN (own_upd (own_upd own_zero (0 : Int32) (own_H0 ll)) (1 : Int32) ((own_upd own_H0 ll (0 : Int32)) ll)) (own_pP (own_upd own_H0 ll (0 : Int32)) (own_pP own_H0 own_zero ll (0 : Int32)) ll (1 : Int32)) (1 : Int32)) (own_rP (own_upd (own_upd own_zero (0 : Int32) (own_H0 ll)) (1 : Int32) ((own_upd own_H0 ll (0 : Int32)) ll)) (own_pP (own_upd own_H0 ll (0 : Int32)) (own_pP own_H0 own_zero ll (0 : Int32)) ll (1 : Int32)) (1 : Int32)) T5.heap n0 Zs5 V5 (by rcases hl with rfl | rfl <;> decide +kernel) (by rcases hl with rfl | rfl <;> decide +kernel) (by rcases hl with rfl | rfl <;> decide +kernel) (by rcases hl with rfl | rfl <;> decide +kernel) (by rcases hl with rfl | rfl <;> decide +kernel)) hZ (own_w hw 36 rfl) (own_w hw 35 rfl) (by decide) (by decide)) (g := (mkF m 90 #[.val (.int p1), .val (.int p2), .val (.int p3), .val (.int (2 : Int32)), .val (.int (1 : Int32)), .val (.int ll), .val (.int oo), .val (.ref ad1), .unset] [(.int (-1 : Int32)), (.int (1 : Int32)), (.int (2 : Int32)), (.int ll), (.ref ad1)])) rfl (by rw [hml]; rfl) (argsL := [(.ref ad1), (.int ll), (.int (2 : Int32)), (.int (1 : Int32)), (.int (-1 : Int32))]) (rest := []) (lenOf pd__Lcom_example_process_stepper_processstepper_equivalence_IntLists_IIII_Z rfl) rfl (by show 2 * 0 + _ ≤ _; exact Nat.le_of_eq rfl) (hb hby at_90) (fun _ _ => ⟨rfl, rfl, (by decide : 5 + 1 ≤ _), (by decide : 14 + 3 ≤ _)⟩)
  dsimp only [Pt.U, Pt.locs, Pt.cells, Pt.slots] at X6 l6 y6 z6 st6 hQ6
  subst l6 y6 z6
  obtain ⟨rfl, N6q, K6q⟩ := hQ6
  have N6 := Fr.app N5 N6q
  have V6 : own_L Z n0 T6.heap ad1 b1 b2 b3 b4 (own_rH (own_upd (own_upd own_H0 ll (0 : Int32)) ll (1 : Int32)) (own_upd (own_upd own_zero (0 : Int32) (own_H0 ll)) (1 : Int32) ((own_upd own_H0 ll (0 : Int32)) ll)) (own_pP (own_upd own_H0 ll (0 : Int32)) (own_pP own_H0 own_zero ll (0 : Int32)) ll (1 : Int32)) ll (1 : Int32)) (own_upd (own_upd (own_upd own_zero ll (own_zero ll + (1 : Int32))) ll ((own_upd own_zero ll (own_zero ll + (1 : Int32))) ll + (1 : Int32))) ll ((own_upd (own_upd own_zero ll (own_zero ll + (1 : Int32))) ll ((own_upd own_zero ll (own_zero ll + (1 : Int32))) ll + (1 : Int32))) ll - (1 : Int32))) (own_rN (own_upd (own_upd own_zero (0 : Int32) (own_H0 ll)) (1 : Int32) ((own_upd own_H0 ll (0 : Int32)) ll)) (own_pP (own_upd own_H0 ll (0 : Int32)) (own_pP own_H0 own_zero ll (0 : Int32)) ll (1 : Int32)) (1 : Int32)) (own_rP (own_upd (own_upd own_zero (0 : Int32) (own_H0 ll)) (1 : Int32) ((own_upd own_H0 ll (0 : Int32)) ll)) (own_pP (own_upd own_H0 ll (0 : Int32)) (own_pP own_H0 own_zero ll (0 : Int32)) ll (1 : Int32)) (1 : Int32)) := own_L_keep V5 K6q nin0 nin0 nin0 nin0 nin0
  have Zs6 : n0 ≤ T6.heap.size := Nat.le_trans Zs5 K6q.1
  obtain ⟨cq7, kq7, q7a, q7b, q7c⟩ := isOf hZ rfl (V6.1)
  obtain ⟨_, _, ⟨T7, L7, k7, n7⟩, -, X7, ⟨Lc7, hQ7, l7, y7, z7⟩, st7⟩ := X6.virtualBack hx (y := own_m7) (z := own_m7) hown (mvT hZ (own_w hw 28 rfl)) (mvT hZ (own_w hw 29 rfl)) (notFace_of_selects (args := #[]) (mvT hZ (own_w hw 31 rfl))) (mvT hZ (own_w hw 31 rfl)) (mvT hZ (own_w hw 30 rfl)) (by decide) (backOf (W := 0) (rm5 l Z a0 hw [] ad1 ll (0 : Int32) b1 b2 b3 b4 (own_rH (own_upd (own_upd own_H0 ll (0 : Int32)) ll (1 : Int32)) (own_upd (own_upd own_zero (0 : Int32) (own_H0 ll)) (1 : Int32) ((own_upd own_H0 ll (0 : Int32)) ll)) (own_pP (own_upd own_H0 ll (0 : Int32)) (own_pP own_H0 own_zero ll (0 : Int32)) ll (1 : Int32)) ll (1 : Int32)) (own_upd (own_upd (own_upd own_zero ll (own_zero ll + (1 : Int32))) ll ((own_upd own_zero ll (own_zero ll + (1 : Int32))) ll + (1 : Int32))) ll ((own_upd (own_upd own_zero ll (own_zero ll + (1 : Int32))) ll ((own_upd own_zero ll (own_zero ll + (1 : Int32))) ll + (1 : Int32))) ll - (1 : Int32))) (own_rN (own_upd (own_upd own_zero (0 : Int32) (own_H0 ll)) (1 : Int32) ((own_upd own_H0 ll (0 : Int32)) ll)) (own_pP (own_upd own_H0 ll (0 : Int32)) (own_pP own_H0 own_zero ll (0 : Int32)) ll (1 : Int32)) (1 : Int32)) (own_rP (own_upd (own_upd own_zero (0 : Int32) (own_H0 ll)) (1 : Int32) ((own_upd own_H0 ll (0 : Int32)) ll)) (own_pP (own_upd own_H0 ll (0 : Int32)) (own_pP own_H0 own_zero ll (0 : Int32)) ll (1 : Int32)) (1 : Int32)) T6.heap n0 Zs6 V6 (by rcases hl with rfl | rfl <;> decide +kernel) (by rcases hl with rfl | rfl <;> decide +kernel) (by decide) (by decide) (by unfold own_in; rcases hl with rfl | rfl <;> decide +kernel) (by unfold own_in; rcases hl with rfl | rfl <;> decide +kernel)) hZ (own_w hw 32 rfl) (own_w hw 3 rfl) (by decide) (by decide)) q7a q7c (g := (mkF m 109 #[.val (.int p1), .val (.int p2), .val (.int p3), .val (.int (2 : Int32)), .val (.int (1 : Int32)), .val (.int ll), .val (.int oo), .val (.ref ad1), .val (.int (1 : Int32))] [(.int (0 : Int32)), (.int ll), (.ref ad1)])) rfl (by rw [hml]; rfl) (Steps.refl _) (argsL := [(.int ll), (.int (0 : Int32))]) (rest := []) (lenOf pd__II_V rfl) rfl (by show 2 * 0 + _ ≤ _; exact Nat.le_of_eq rfl) (hb hby at_109) (fun _ _ => ⟨rfl, rfl, (by decide : 6 + 0 ≤ _), (by decide : 17 + 0 ≤ _)⟩)
  dsimp only [Pt.U, Pt.locs, Pt.cells, Pt.slots] at X7 l7 y7 z7 st7 hQ7
  subst l7 y7 z7
  obtain ⟨rfl, N7q, K7q, V7⟩ := hQ7
  have N7 := Fr.app N6 N7q
  have Zs7 : n0 ≤ T7.heap.size := Nat.le_trans Zs6 K7q.1
  obtain ⟨_, _, ⟨T8, L8, k8, n8⟩, -, X8, ⟨Lc8, hQ8, l8, y8, z8⟩, st8⟩ := Jvm.LawKit.callS X7 hx (y := own_m8) hown (mvT hZ (own_w hw 33 rfl)) (mvT hZ (own_w hw 34 rfl)) (mvT hZ (own_w hw 35 rfl)) (mvT hZ (own_w hw 36 rfl)) (by decide) (backOf (W := 0) (rm6_2_1_0 l Z a0 hw [] ad1 ll b1 b2 b3 b4 (own_rH (own_rH (own_upd (own_upd own_H0 ll (0 : Int32)) ll (1 : Int32)) (own_upd (own_upd own_zero (0 : Int32) (own_H0 ll)) (1 : Int32) ((own_upd own_H0 ll (0 : Int32)) ll)) (own_pP (own_upd own_H0 ll (0 : Int32)) (own_pP own_H0 own_zero ll (0 : Int32)) ll (1 : Int32)) ll (1 : Int32)) (own_rN (own_upd (own_upd own_zero (0 : Int32) (own_H0 ll)) (1 : Int32) ((own_upd own_H0 ll (0 : Int32)) ll)) (own_pP (own_upd own_H0 ll (0 : Int32)) (own_pP own_H0 own_zero ll (0 : Int32)) ll (1 : Int32)) (1 : Int32)) (own_rP (own_upd (own_upd own_zero (0 : Int32) (own_H0 ll)) (1 : Int32) ((own_upd own_H0 ll (0 : Int32)) ll)) (own_pP (own_upd own_H0 ll (0 : Int32)) (own_pP own_H0 own_zero ll (0 : Int32)) ll (1 : Int32)) (1 : Int32)) ll (0 : Int32)) (own_upd (own_upd (own_upd (own_upd own_zero ll (own_zero ll + (1 : Int32))) ll ((own_upd own_zero ll (own_zero ll + (1 : Int32))) ll + (1 : Int32))) ll ((own_upd (own_upd own_zero ll (own_zero ll + (1 : Int32))) ll ((own_upd own_zero ll (own_zero ll + (1 : Int32))) ll + (1 : Int32))) ll - (1 : Int32))) ll ((own_upd (own_upd (own_upd own_zero ll (own_zero ll + (1 : Int32))) ll ((own_upd own_zero ll (own_zero ll + (1 : Int32))) ll + (1 : Int32))) ll ((own_upd (own_upd own_zero ll (own_zero ll + (1 : Int32))) ll ((own_upd own_zero ll (own_zero ll + (1 : Int32))) ll + (1 : Int32))) ll - (1 : Int32))) ll - (1 : Int32))) (own_rN (own_rN (own_upd (own_upd own_zero (0 : Int32) (own_H0 ll)) (1 : Int32) ((own_upd own_H0 ll (0 : Int32)) ll)) (own_pP (own_upd own_H0 ll (0 : Int32)) (own_pP own_H0 own_zero ll (0 : Int32)) ll (1 : Int32)) (1 : Int32)) (own_rP (own_upd (own_upd own_zero (0 : Int32) (own_H0 ll)) (1 : Int32) ((own_upd own_H0 ll (0 : Int32)) ll)) (own_pP (own_upd own_H0 ll (0 : Int32)) (own_pP own_H0 own_zero ll (0 : Int32)) ll (1 : Int32)) (1 : Int32)) (0 : Int32)) (own_rP (own_rN (own_upd (own_upd own_zero (0 : Int32) (own_H0 ll)) (1 : Int32) ((own_upd own_H0 ll (0 : Int32)) ll)) (own_pP (own_upd own_H0 ll (0 : Int32)) (own_pP own_H0 own_zero ll (0 : Int32)) ll (1 : Int32)) (1 : Int32)) (own_rP (own_upd (own_upd own_zero (0 : Int32) (own_H0 ll)) (1 : Int32) ((own_upd own_H0 ll (0 : Int32)) ll)) (own_pP (own_upd own_H0 ll (0 : Int32)) (own_pP own_H0 own_zero ll (0 : Int32)) ll (1 : Int32)) (1 : Int32)) (0 : Int32)) T7.heap n0 Zs7 V7 (by rcases hl with rfl | rfl <;> decide +kernel) (by rcases hl with rfl | rfl <;> decide +kernel) (by rcases hl with rfl | rfl <;> decide +kernel) (by rcases hl with rfl | rfl <;> decide +kernel)) hZ (own_w hw 36 rfl) (own_w hw 35 rfl) (by decide) (by decide)) (g := (mkF m 128 #[.val (.int p1), .val (.int p2), .val (.int p3), .val (.int (2 : Int32)), .val (.int (1 : Int32)), .val (.int ll), .val (.int oo), .val (.ref ad1), .val (.int (1 : Int32))] [(.int (0 : Int32)), (.int (1 : Int32)), (.int (2 : Int32)), (.int ll), (.ref ad1)])) rfl (by rw [hml]; rfl) (argsL := [(.ref ad1), (.int ll), (.int (2 : Int32)), (.int (1 : Int32)), (.int (0 : Int32))]) (rest := []) (lenOf pd__Lcom_example_process_stepper_processstepper_equivalence_IntLists_IIII_Z rfl) rfl (by show 2 * 0 + _ ≤ _; exact Nat.le_of_eq rfl) (hb hby at_128) (fun _ _ => ⟨rfl, rfl, (by decide : 6 + 1 ≤ _), (by decide : 17 + 3 ≤ _)⟩)
  dsimp only [Pt.U, Pt.locs, Pt.cells, Pt.slots] at X8 l8 y8 z8 st8 hQ8
  subst l8 y8 z8
  obtain ⟨rfl, N8q, K8q⟩ := hQ8
  have N8 := Fr.app N7 N8q
  have V8 : own_L Z n0 T8.heap ad1 b1 b2 b3 b4 (own_rH (own_rH (own_upd (own_upd own_H0 ll (0 : Int32)) ll (1 : Int32)) (own_upd (own_upd own_zero (0 : Int32) (own_H0 ll)) (1 : Int32) ((own_upd own_H0 ll (0 : Int32)) ll)) (own_pP (own_upd own_H0 ll (0 : Int32)) (own_pP own_H0 own_zero ll (0 : Int32)) ll (1 : Int32)) ll (1 : Int32)) (own_rN (own_upd (own_upd own_zero (0 : Int32) (own_H0 ll)) (1 : Int32) ((own_upd own_H0 ll (0 : Int32)) ll)) (own_pP (own_upd own_H0 ll (0 : Int32)) (own_pP own_H0 own_zero ll (0 : Int32)) ll (1 : Int32)) (1 : Int32)) (own_rP (own_upd (own_upd own_zero (0 : Int32) (own_H0 ll)) (1 : Int32) ((own_upd own_H0 ll (0 : Int32)) ll)) (own_pP (own_upd own_H0 ll (0 : Int32)) (own_pP own_H0 own_zero ll (0 : Int32)) ll (1 : Int32)) (1 : Int32)) ll (0 : Int32)) (own_upd (own_upd (own_upd (own_upd own_zero ll (own_zero ll + (1 : Int32))) ll ((own_upd own_zero ll (own_zero ll + (1 : Int32))) ll + (1 : Int32))) ll ((own_upd (own_upd own_zero ll (own_zero ll + (1 : Int32))) ll ((own_upd own_zero ll (own_zero ll + (1 : Int32))) ll + (1 : Int32))) ll - (1 : Int32))) ll ((own_upd (own_upd (own_upd own_zero ll (own_zero ll + (1 : Int32))) ll ((own_upd own_zero ll (own_zero ll + (1 : Int32))) ll + (1 : Int32))) ll ((own_upd (own_upd own_zero ll (own_zero ll + (1 : Int32))) ll ((own_upd own_zero ll (own_zero ll + (1 : Int32))) ll + (1 : Int32))) ll - (1 : Int32))) ll - (1 : Int32))) (own_rN (own_rN (own_upd (own_upd own_zero (0 : Int32) (own_H0 ll)) (1 : Int32) ((own_upd own_H0 ll (0 : Int32)) ll)) (own_pP (own_upd own_H0 ll (0 : Int32)) (own_pP own_H0 own_zero ll (0 : Int32)) ll (1 : Int32)) (1 : Int32)) (own_rP (own_upd (own_upd own_zero (0 : Int32) (own_H0 ll)) (1 : Int32) ((own_upd own_H0 ll (0 : Int32)) ll)) (own_pP (own_upd own_H0 ll (0 : Int32)) (own_pP own_H0 own_zero ll (0 : Int32)) ll (1 : Int32)) (1 : Int32)) (0 : Int32)) (own_rP (own_rN (own_upd (own_upd own_zero (0 : Int32) (own_H0 ll)) (1 : Int32) ((own_upd own_H0 ll (0 : Int32)) ll)) (own_pP (own_upd own_H0 ll (0 : Int32)) (own_pP own_H0 own_zero ll (0 : Int32)) ll (1 : Int32)) (1 : Int32)) (own_rP (own_upd (own_upd own_zero (0 : Int32) (own_H0 ll)) (1 : Int32) ((own_upd own_H0 ll (0 : Int32)) ll)) (own_pP (own_upd own_H0 ll (0 : Int32)) (own_pP own_H0 own_zero ll (0 : Int32)) ll (1 : Int32)) (1 : Int32)) (0 : Int32)) := own_L_keep V7 K8q nin0 nin0 nin0 nin0 nin0
  have Zs8 : n0 ≤ T8.heap.size := Nat.le_trans Zs7 K8q.1
  obtain ⟨cq9, kq9, q9a, q9b, q9c⟩ := isOf hZ rfl (V8.1)
  obtain ⟨_, _, ⟨T9, L9, k9, n9⟩, -, X9, ⟨Lc9, hQ9, l9, y9, z9⟩, st9⟩ := X8.virtualBack hx (y := own_m3) (z := own_m3) hown (mvT hZ (own_w hw 42 rfl)) (mvT hZ (own_w hw 43 rfl)) (notFace_of_selects (args := #[]) (mvT hZ (own_w hw 45 rfl))) (mvT hZ (own_w hw 45 rfl)) (mvT hZ (own_w hw 44 rfl)) (by decide) (backOf (W := 0) (rm8 l Z a0 hw [] ad1 oo b1 b2 b3 b4 (own_rH (own_rH (own_upd (own_upd own_H0 ll (0 : Int32)) ll (1 : Int32)) (own_upd (own_upd own_zero (0 : Int32) (own_H0 ll)) (1 : Int32) ((own_upd own_H0 ll (0 : Int32)) ll)) (own_pP (own_upd own_H0 ll (0 : Int32)) (own_pP own_H0 own_zero ll (0 : Int32)) ll (1 : Int32)) ll (1 : Int32)) (own_rN (own_upd (own_upd own_zero (0 : Int32) (own_H0 ll)) (1 : Int32) ((own_upd own_H0 ll (0 : Int32)) ll)) (own_pP (own_upd own_H0 ll (0 : Int32)) (own_pP own_H0 own_zero ll (0 : Int32)) ll (1 : Int32)) (1 : Int32)) (own_rP (own_upd (own_upd own_zero (0 : Int32) (own_H0 ll)) (1 : Int32) ((own_upd own_H0 ll (0 : Int32)) ll)) (own_pP (own_upd own_H0 ll (0 : Int32)) (own_pP own_H0 own_zero ll (0 : Int32)) ll (1 : Int32)) (1 : Int32)) ll (0 : Int32)) (own_upd (own_upd (own_upd (own_upd own_zero ll (own_zero ll + (1 : Int32))) ll ((own_upd own_zero ll (own_zero ll + (1 : Int32))) ll + (1 : Int32))) ll ((own_upd (own_upd own_zero ll (own_zero ll + (1 : Int32))) ll ((own_upd own_zero ll (own_zero ll + (1 : Int32))) ll + (1 : Int32))) ll - (1 : Int32))) ll ((own_upd (own_upd (own_upd own_zero ll (own_zero ll + (1 : Int32))) ll ((own_upd own_zero ll (own_zero ll + (1 : Int32))) ll + (1 : Int32))) ll ((own_upd (own_upd own_zero ll (own_zero ll + (1 : Int32))) ll ((own_upd own_zero ll (own_zero ll + (1 : Int32))) ll + (1 : Int32))) ll - (1 : Int32))) ll - (1 : Int32))) (own_rN (own_rN (own_upd (own_upd own_zero (0 : Int32) (own_H0 ll)) (1 : Int32) ((own_upd own_H0 ll (0 : Int32)) ll)) (own_pP (own_upd own_H0 ll (0 : Int32)) (own_pP own_H0 own_zero ll (0 : Int32)) ll (1 : Int32)) (1 : Int32)) (own_rP (own_upd (own_upd own_zero (0 : Int32) (own_H0 ll)) (1 : Int32) ((own_upd own_H0 ll (0 : Int32)) ll)) (own_pP (own_upd own_H0 ll (0 : Int32)) (own_pP own_H0 own_zero ll (0 : Int32)) ll (1 : Int32)) (1 : Int32)) (0 : Int32)) (own_rP (own_rN (own_upd (own_upd own_zero (0 : Int32) (own_H0 ll)) (1 : Int32) ((own_upd own_H0 ll (0 : Int32)) ll)) (own_pP (own_upd own_H0 ll (0 : Int32)) (own_pP own_H0 own_zero ll (0 : Int32)) ll (1 : Int32)) (1 : Int32)) (own_rP (own_upd (own_upd own_zero (0 : Int32) (own_H0 ll)) (1 : Int32) ((own_upd own_H0 ll (0 : Int32)) ll)) (own_pP (own_upd own_H0 ll (0 : Int32)) (own_pP own_H0 own_zero ll (0 : Int32)) ll (1 : Int32)) (1 : Int32)) (0 : Int32)) T8.heap n0 Zs8 V8 (by subst hoo; rcases hl with rfl | rfl <;> decide +kernel) (by subst hoo; rcases hl with rfl | rfl <;> decide +kernel)) hZ (own_w hw 46 rfl) (own_w hw 3 rfl) (by decide) (by decide)) q9a q9c (g := (mkF m 150 #[.val (.int p1), .val (.int p2), .val (.int p3), .val (.int (2 : Int32)), .val (.int (1 : Int32)), .val (.int ll), .val (.int oo), .val (.ref ad1), .val (.int (1 : Int32))] [(.int oo), (.ref ad1)])) rfl (by rw [hml]; rfl) (Steps.refl _) (argsL := [(.int oo)]) (rest := []) (lenOf pd__I_I rfl) rfl (by show 2 * 0 + _ ≤ _; exact Nat.le_of_eq rfl) (hb hby at_150) (fun _ _ => ⟨rfl, rfl, (by decide : 7 + 0 ≤ _), (by decide : 20 + 0 ≤ _)⟩)
  dsimp only [Pt.U, Pt.locs, Pt.cells, Pt.slots] at X9 l9 y9 z9 st9 hQ9
  subst l9 y9 z9
  obtain ⟨rfl, N9q, q9⟩ := hQ9
  have N9 := Fr.app N8 N9q
  have e9' : T9.heap = T8.heap := q9
  obtain ⟨cq10, kq10, q10a, q10b, q10c⟩ := isOf hZ e9' (V8.1)
  obtain ⟨_, _, ⟨T10, L10, k10, n10⟩, -, X10, ⟨Lc10, hQ10, l10, y10, z10⟩, st10⟩ := X9.virtualBack hx (y := own_m2) (z := own_m2) hown (mvT hZ (own_w hw 37 rfl)) (mvT hZ (own_w hw 38 rfl)) (notFace_of_selects (args := #[]) (mvT hZ (own_w hw 40 rfl))) (mvT hZ (own_w hw 40 rfl)) (mvT hZ (own_w hw 39 rfl)) (by decide) (backOf (W := 0) (rm7 l Z a0 hw [] ad1 oo b1 b2 b3 b4 (own_rH (own_rH (own_upd (own_upd own_H0 ll (0 : Int32)) ll (1 : Int32)) (own_upd (own_upd own_zero (0 : Int32) (own_H0 ll)) (1 : Int32) ((own_upd own_H0 ll (0 : Int32)) ll)) (own_pP (own_upd own_H0 ll (0 : Int32)) (own_pP own_H0 own_zero ll (0 : Int32)) ll (1 : Int32)) ll (1 : Int32)) (own_rN (own_upd (own_upd own_zero (0 : Int32) (own_H0 ll)) (1 : Int32) ((own_upd own_H0 ll (0 : Int32)) ll)) (own_pP (own_upd own_H0 ll (0 : Int32)) (own_pP own_H0 own_zero ll (0 : Int32)) ll (1 : Int32)) (1 : Int32)) (own_rP (own_upd (own_upd own_zero (0 : Int32) (own_H0 ll)) (1 : Int32) ((own_upd own_H0 ll (0 : Int32)) ll)) (own_pP (own_upd own_H0 ll (0 : Int32)) (own_pP own_H0 own_zero ll (0 : Int32)) ll (1 : Int32)) (1 : Int32)) ll (0 : Int32)) (own_upd (own_upd (own_upd (own_upd own_zero ll (own_zero ll + (1 : Int32))) ll ((own_upd own_zero ll (own_zero ll + (1 : Int32))) ll + (1 : Int32))) ll ((own_upd (own_upd own_zero ll (own_zero ll + (1 : Int32))) ll ((own_upd own_zero ll (own_zero ll + (1 : Int32))) ll + (1 : Int32))) ll - (1 : Int32))) ll ((own_upd (own_upd (own_upd own_zero ll (own_zero ll + (1 : Int32))) ll ((own_upd own_zero ll (own_zero ll + (1 : Int32))) ll + (1 : Int32))) ll ((own_upd (own_upd own_zero ll (own_zero ll + (1 : Int32))) ll ((own_upd own_zero ll (own_zero ll + (1 : Int32))) ll + (1 : Int32))) ll - (1 : Int32))) ll - (1 : Int32))) (own_rN (own_rN (own_upd (own_upd own_zero (0 : Int32) (own_H0 ll)) (1 : Int32) ((own_upd own_H0 ll (0 : Int32)) ll)) (own_pP (own_upd own_H0 ll (0 : Int32)) (own_pP own_H0 own_zero ll (0 : Int32)) ll (1 : Int32)) (1 : Int32)) (own_rP (own_upd (own_upd own_zero (0 : Int32) (own_H0 ll)) (1 : Int32) ((own_upd own_H0 ll (0 : Int32)) ll)) (own_pP (own_upd own_H0 ll (0 : Int32)) (own_pP own_H0 own_zero ll (0 : Int32)) ll (1 : Int32)) (1 : Int32)) (0 : Int32)) (own_rP (own_rN (own_upd (own_upd own_zero (0 : Int32) (own_H0 ll)) (1 : Int32) ((own_upd own_H0 ll (0 : Int32)) ll)) (own_pP (own_upd own_H0 ll (0 : Int32)) (own_pP own_H0 own_zero ll (0 : Int32)) ll (1 : Int32)) (1 : Int32)) (own_rP (own_upd (own_upd own_zero (0 : Int32) (own_H0 ll)) (1 : Int32) ((own_upd own_H0 ll (0 : Int32)) ll)) (own_pP (own_upd own_H0 ll (0 : Int32)) (own_pP own_H0 own_zero ll (0 : Int32)) ll (1 : Int32)) (1 : Int32)) (0 : Int32)) T8.heap n0 Zs8 V8 (by subst hoo; rcases hl with rfl | rfl <;> decide +kernel) (by subst hoo; rcases hl with rfl | rfl <;> decide +kernel)) hZ (own_w hw 41 rfl) (own_w hw 3 rfl) (by decide) (by decide)) q10a q10c (g := (mkF m 161 #[.val (.int p1), .val (.int p2), .val (.int p3), .val (.int (2 : Int32)), .val (.int (1 : Int32)), .val (.int ll), .val (.int oo), .val (.ref ad1), .val (.int (1 : Int32))] [(.int oo), (.ref ad1)])) rfl (by rw [hml]; rfl) (Steps.refl _) (argsL := [(.int oo)]) (rest := []) (lenOf pd__I_I rfl) rfl (by show 2 * 0 + _ ≤ _; exact Nat.le_of_eq rfl) (hb hby at_161) (fun _ _ => ⟨rfl, e9', (by decide : 7 + 0 ≤ _), (by decide : 20 + 0 ≤ _)⟩)
  dsimp only [Pt.U, Pt.locs, Pt.cells, Pt.slots] at X10 l10 y10 z10 st10 hQ10
  subst l10 y10 z10
  obtain ⟨rfl, N10q, q10⟩ := hQ10
  have N10 := Fr.app N9 N10q
  have e10' : T10.heap = T8.heap := q10
  obtain ⟨fs, hr, hrun, hended, hW, hsame⟩ := X10.leave (v := some (.int (1 : Int32))) (fun h => by rw [Bd.returns] at h; cases h)
  refine ⟨_, _, pre0 _ ?_, hrun, hended, _, _, rfl, ?_, ⟨_, rfl⟩, hW, hsame.mono (by decide) (by decide)⟩
  · show Steps p.tables e below (s₁.setTop (mkF m 0 #[.val (.int p1), .val (.int p2), .val (.int p3), .unset, .unset, .unset, .unset, .unset, .unset] [])) _
    refine XS.iconst X0.here hx rfl (hb hby at_0) ?_
    refine XS.iloadN X0.here hx rfl (hb hby at_1) rfl ?_
    show Steps p.tables e below (s₁.setTop (mkF m 2 #[.val (.int p1), .val (.int p2), .val (.int p3), .unset, .unset, .unset, .unset, .unset, .unset] [(.int p1), (.int (1 : Int32))])) _
    refine X0.ldcInt hx hown (mvT hZ (own_w hw 0 rfl)) (g := (mkF m 2 #[.val (.int p1), .val (.int p2), .val (.int p3), .unset, .unset, .unset, .unset, .unset, .unset] [(.int p1), (.int (1 : Int32))])) rfl (hb hby at_2) _ ?_
    show Steps p.tables e below (s₁.setTop (mkF m 4 #[.val (.int p1), .val (.int p2), .val (.int p3), .unset, .unset, .unset, .unset, .unset, .unset] [(.int (2147483647 : Int32)), (.int p1), (.int (1 : Int32))])) _
    refine XS.iand X0.here hx rfl (hb hby at_4) rfl ?_
    show Steps p.tables e below (s₁.setTop (mkF m 5 #[.val (.int p1), .val (.int p2), .val (.int p3), .unset, .unset, .unset, .unset, .unset, .unset] [(.int (p1 &&& (2147483647 : Int32))), (.int (1 : Int32))])) _
    refine XS.iconst X0.here hx rfl (hb hby at_5) ?_
    show Steps p.tables e below (s₁.setTop (mkF m 6 #[.val (.int p1), .val (.int p2), .val (.int p3), .unset, .unset, .unset, .unset, .unset, .unset] [(.int (3 : Int32)), (.int (p1 &&& (2147483647 : Int32))), (.int (1 : Int32))])) _
    refine iremM X0 hx rfl (hb hby at_6) rfl (by decide) ?_
    show Steps p.tables e below (s₁.setTop (mkF m 7 #[.val (.int p1), .val (.int p2), .val (.int p3), .unset, .unset, .unset, .unset, .unset, .unset] [(.int ((p1 &&& (2147483647 : Int32)) % (3 : Int32))), (.int (1 : Int32))])) _
    refine XS.iadd X0.here hx rfl (hb hby at_7) rfl ?_
    rw [hN]
    show Steps p.tables e below (s₁.setTop (mkF m 8 #[.val (.int p1), .val (.int p2), .val (.int p3), .unset, .unset, .unset, .unset, .unset, .unset] [(.int (2 : Int32))])) _
    refine XS.istoreN X0.here hx rfl (hb hby at_8) rfl (l' := #[.val (.int p1), .val (.int p2), .val (.int p3), .val (.int (2 : Int32)), .unset, .unset, .unset, .unset, .unset]) rfl ?_
    refine XS.iloadN X0.here hx rfl (hb hby at_9) rfl ?_
    show Steps p.tables e below (s₁.setTop (mkF m 10 #[.val (.int p1), .val (.int p2), .val (.int p3), .val (.int (2 : Int32)), .unset, .unset, .unset, .unset, .unset] [(.int p2)])) _
    refine X0.ldcInt hx hown (mvT hZ (own_w hw 0 rfl)) (g := (mkF m 10 #[.val (.int p1), .val (.int p2), .val (.int p3), .val (.int (2 : Int32)), .unset, .unset, .unset, .unset, .unset] [(.int p2)])) rfl (hb hby at_10) _ ?_
    show Steps p.tables e below (s₁.setTop (mkF m 12 #[.val (.int p1), .val (.int p2), .val (.int p3), .val (.int (2 : Int32)), .unset, .unset, .unset, .unset, .unset] [(.int (2147483647 : Int32)), (.int p2)])) _
    refine XS.iand X0.here hx rfl (hb hby at_12) rfl ?_
    show Steps p.tables e below (s₁.setTop (mkF m 13 #[.val (.int p1), .val (.int p2), .val (.int p3), .val (.int (2 : Int32)), .unset, .unset, .unset, .unset, .unset] [(.int (p2 &&& (2147483647 : Int32)))])) _
    refine XS.iloadN X0.here hx rfl (hb hby at_13) rfl ?_
    show Steps p.tables e below (s₁.setTop (mkF m 14 #[.val (.int p1), .val (.int p2), .val (.int p3), .val (.int (2 : Int32)), .unset, .unset, .unset, .unset, .unset] [(.int (2 : Int32)), (.int (p2 &&& (2147483647 : Int32)))])) _
    refine iremM X0 hx rfl (hb hby at_14) rfl (by decide) ?_
    rw [hE]
    show Steps p.tables e below (s₁.setTop (mkF m 15 #[.val (.int p1), .val (.int p2), .val (.int p3), .val (.int (2 : Int32)), .unset, .unset, .unset, .unset, .unset] [(.int (1 : Int32))])) _
    refine XS.istore X0.here hx rfl (hb hby at_15) rfl (l' := #[.val (.int p1), .val (.int p2), .val (.int p3), .val (.int (2 : Int32)), .val (.int (1 : Int32)), .unset, .unset, .unset, .unset]) rfl ?_
    refine XS.iloadN X0.here hx rfl (hb hby at_17) rfl ?_
    refine XS.iconst X0.here hx rfl (hb hby at_18) ?_
    show Steps p.tables e below (s₁.setTop (mkF m 19 #[.val (.int p1), .val (.int p2), .val (.int p3), .val (.int (2 : Int32)), .val (.int (1 : Int32)), .unset, .unset, .unset, .unset] [(.int (1 : Int32)), (.int p3)])) _
    refine XS.iand X0.here hx rfl (hb hby at_19) rfl ?_
    rw [← hll]
    show Steps p.tables e below (s₁.setTop (mkF m 20 #[.val (.int p1), .val (.int p2), .val (.int p3), .val (.int (2 : Int32)), .val (.int (1 : Int32)), .unset, .unset, .unset, .unset] [(.int ll)])) _
    refine XS.istore X0.here hx rfl (hb hby at_20) rfl (l' := #[.val (.int p1), .val (.int p2), .val (.int p3), .val (.int (2 : Int32)), .val (.int (1 : Int32)), .val (.int ll), .unset, .unset, .unset]) rfl ?_
    refine XS.iconst X0.here hx rfl (hb hby at_22) ?_
    refine XS.iload X0.here hx rfl (hb hby at_23) rfl ?_
    show Steps p.tables e below (s₁.setTop (mkF m 25 #[.val (.int p1), .val (.int p2), .val (.int p3), .val (.int (2 : Int32)), .val (.int (1 : Int32)), .val (.int ll), .unset, .unset, .unset] [(.int ll), (.int (1 : Int32))])) _
    refine XS.isub X0.here hx rfl (hb hby at_25) rfl ?_
    rw [← hoo]
    show Steps p.tables e below (s₁.setTop (mkF m 26 #[.val (.int p1), .val (.int p2), .val (.int p3), .val (.int (2 : Int32)), .val (.int (1 : Int32)), .val (.int ll), .unset, .unset, .unset] [(.int oo)])) _
    refine XS.istore X0.here hx rfl (hb hby at_26) rfl (l' := #[.val (.int p1), .val (.int p2), .val (.int p3), .val (.int (2 : Int32)), .val (.int (1 : Int32)), .val (.int ll), .val (.int oo), .unset, .unset]) rfl ?_
    show Steps p.tables e below (s₁.setTop (mkF m 28 #[.val (.int p1), .val (.int p2), .val (.int p3), .val (.int (2 : Int32)), .val (.int (1 : Int32)), .val (.int ll), .val (.int oo), .unset, .unset] [])) _
    refine st1 _ ?_
    show Steps p.tables e below (T1.setTop (mkF m 31 #[.val (.int p1), .val (.int p2), .val (.int p3), .val (.int (2 : Int32)), .val (.int (1 : Int32)), .val (.int ll), .val (.int oo), .unset, .unset] [(.ref ad1)])) _
    refine XS.dup X1.here hx rfl (hb hby at_31) rfl rfl ?_
    refine XS.iconst X1.here hx rfl (hb hby at_32) ?_
    refine XS.iconst X1.here hx rfl (hb hby at_33) ?_
    show Steps p.tables e below (T1.setTop (mkF m 34 #[.val (.int p1), .val (.int p2), .val (.int p3), .val (.int (2 : Int32)), .val (.int (1 : Int32)), .val (.int ll), .val (.int oo), .unset, .unset] [(.int (3 : Int32)), (.int (2 : Int32)), (.ref ad1), (.ref ad1)])) _
    refine st2.trans ?_
    show Steps p.tables e below (T2.setTop (mkF m 37 #[.val (.int p1), .val (.int p2), .val (.int p3), .val (.int (2 : Int32)), .val (.int (1 : Int32)), .val (.int ll), .val (.int oo), .unset, .unset] [(.ref ad1)])) _
    refine XS.astore X2.here hx rfl (hb hby at_37) rfl rfl (l' := #[.val (.int p1), .val (.int p2), .val (.int p3), .val (.int (2 : Int32)), .val (.int (1 : Int32)), .val (.int ll), .val (.int oo), .val (.ref ad1), .unset]) rfl ?_
    refine XS.aload X2.here hx rfl (hb hby at_39) rfl rfl ?_
    refine XS.iload X2.here hx rfl (hb hby at_41) rfl ?_
    refine XS.iconst X2.here hx rfl (hb hby at_43) ?_
    show Steps p.tables e below (T2.setTop (mkF m 44 #[.val (.int p1), .val (.int p2), .val (.int p3), .val (.int (2 : Int32)), .val (.int (1 : Int32)), .val (.int ll), .val (.int oo), .val (.ref ad1), .unset] [(.int (0 : Int32)), (.int ll), (.ref ad1)])) _
    refine st3.trans ?_
    show Steps p.tables e below (T3.setTop (mkF m 47 #[.val (.int p1), .val (.int p2), .val (.int p3), .val (.int (2 : Int32)), .val (.int (1 : Int32)), .val (.int ll), .val (.int oo), .val (.ref ad1), .unset] [])) _
    refine XS.iloadN X3.here hx rfl (hb hby at_47) rfl ?_
    refine XS.iconst X3.here hx rfl (hb hby at_48) ?_
    show Steps p.tables e below (T3.setTop (mkF m 49 #[.val (.int p1), .val (.int p2), .val (.int p3), .val (.int (2 : Int32)), .val (.int (1 : Int32)), .val (.int ll), .val (.int oo), .val (.ref ad1), .unset] [(.int (2 : Int32)), (.int (2 : Int32))])) _
    refine XS.icmpNo X3.here hx rfl (hb hby at_49) rfl (flt (by decide : ¬ ((2 : Int32) < (2 : Int32)))).1 ?_
    show Steps p.tables e below (T3.setTop (mkF m 52 #[.val (.int p1), .val (.int p2), .val (.int p3), .val (.int (2 : Int32)), .val (.int (1 : Int32)), .val (.int ll), .val (.int oo), .val (.ref ad1), .unset] [])) _
    refine XS.aload X3.here hx rfl (hb hby at_52) rfl rfl ?_
    refine XS.iload X3.here hx rfl (hb hby at_54) rfl ?_
    refine XS.iconst X3.here hx rfl (hb hby at_56) ?_
    show Steps p.tables e below (T3.setTop (mkF m 57 #[.val (.int p1), .val (.int p2), .val (.int p3), .val (.int (2 : Int32)), .val (.int (1 : Int32)), .val (.int ll), .val (.int oo), .val (.ref ad1), .unset] [(.int (1 : Int32)), (.int ll), (.ref ad1)])) _
    refine st4.trans ?_
    show Steps p.tables e below (T4.setTop (mkF m 60 #[.val (.int p1), .val (.int p2), .val (.int p3), .val (.int (2 : Int32)), .val (.int (1 : Int32)), .val (.int ll), .val (.int oo), .val (.ref ad1), .unset] [])) _
    refine XS.iloadN X4.here hx rfl (hb hby at_60) rfl ?_
    refine XS.iconst X4.here hx rfl (hb hby at_61) ?_
    show Steps p.tables e below (T4.setTop (mkF m 62 #[.val (.int p1), .val (.int p2), .val (.int p3), .val (.int (2 : Int32)), .val (.int (1 : Int32)), .val (.int ll), .val (.int oo), .val (.ref ad1), .unset] [(.int (3 : Int32)), (.int (2 : Int32))])) _
    refine XS.icmpYes X4.here hx rfl (pc0 := 62) (pc' := 73) rfl (hb hby at_62) rfl (tlt (by decide : (2 : Int32) < (3 : Int32))).1 (by decide) (by decide) ?_
    show Steps p.tables e below (T4.setTop (mkF m 73 #[.val (.int p1), .val (.int p2), .val (.int p3), .val (.int (2 : Int32)), .val (.int (1 : Int32)), .val (.int ll), .val (.int oo), .val (.ref ad1), .unset] [])) _
    refine XS.aload X4.here hx rfl (hb hby at_73) rfl rfl ?_
    refine XS.iload X4.here hx rfl (hb hby at_75) rfl ?_
    refine XS.iload X4.here hx rfl (hb hby at_77) rfl ?_
    show Steps p.tables e below (T4.setTop (mkF m 79 #[.val (.int p1), .val (.int p2), .val (.int p3), .val (.int (2 : Int32)), .val (.int (1 : Int32)), .val (.int ll), .val (.int oo), .val (.ref ad1), .unset] [(.int (1 : Int32)), (.int ll), (.ref ad1)])) _
    refine st5.trans ?_
    show Steps p.tables e below (T5.setTop (mkF m 82 #[.val (.int p1), .val (.int p2), .val (.int p3), .val (.int (2 : Int32)), .val (.int (1 : Int32)), .val (.int ll), .val (.int oo), .val (.ref ad1), .unset] [])) _
    refine XS.aload X5.here hx rfl (hb hby at_82) rfl rfl ?_
    refine XS.iload X5.here hx rfl (hb hby at_84) rfl ?_
    refine XS.iloadN X5.here hx rfl (hb hby at_86) rfl ?_
    refine XS.iload X5.here hx rfl (hb hby at_87) rfl ?_
    refine XS.iconst X5.here hx rfl (hb hby at_89) ?_
    show Steps p.tables e below (T5.setTop (mkF m 90 #[.val (.int p1), .val (.int p2), .val (.int p3), .val (.int (2 : Int32)), .val (.int (1 : Int32)), .val (.int ll), .val (.int oo), .val (.ref ad1), .unset] [(.int (-1 : Int32)), (.int (1 : Int32)), (.int (2 : Int32)), (.int ll), (.ref ad1)])) _
    refine st6 _ ?_
    show Steps p.tables e below (T6.setTop (mkF m 93 #[.val (.int p1), .val (.int p2), .val (.int p3), .val (.int (2 : Int32)), .val (.int (1 : Int32)), .val (.int ll), .val (.int oo), .val (.ref ad1), .unset] [(.int (1 : Int32))])) _
    refine XS.istore X6.here hx rfl (hb hby at_93) rfl (l' := #[.val (.int p1), .val (.int p2), .val (.int p3), .val (.int (2 : Int32)), .val (.int (1 : Int32)), .val (.int ll), .val (.int oo), .val (.ref ad1), .val (.int (1 : Int32))]) rfl ?_
    refine XS.iload X6.here hx rfl (hb hby at_95) rfl ?_
    refine XS.iconst X6.here hx rfl (hb hby at_97) ?_
    show Steps p.tables e below (T6.setTop (mkF m 98 #[.val (.int p1), .val (.int p2), .val (.int p3), .val (.int (2 : Int32)), .val (.int (1 : Int32)), .val (.int ll), .val (.int oo), .val (.ref ad1), .val (.int (1 : Int32))] [(.int (1 : Int32)), (.int (1 : Int32))])) _
    refine XS.icmpNo X6.here hx rfl (hb hby at_98) rfl (flt (by decide : ¬ ((1 : Int32) < (1 : Int32)))).1 ?_
    show Steps p.tables e below (T6.setTop (mkF m 101 #[.val (.int p1), .val (.int p2), .val (.int p3), .val (.int (2 : Int32)), .val (.int (1 : Int32)), .val (.int ll), .val (.int oo), .val (.ref ad1), .val (.int (1 : Int32))] [])) _
    refine XS.aload X6.here hx rfl (hb hby at_101) rfl rfl ?_
    refine XS.iload X6.here hx rfl (hb hby at_103) rfl ?_
    refine XS.iload X6.here hx rfl (hb hby at_105) rfl ?_
    refine XS.iconst X6.here hx rfl (hb hby at_107) ?_
    show Steps p.tables e below (T6.setTop (mkF m 108 #[.val (.int p1), .val (.int p2), .val (.int p3), .val (.int (2 : Int32)), .val (.int (1 : Int32)), .val (.int ll), .val (.int oo), .val (.ref ad1), .val (.int (1 : Int32))] [(.int (1 : Int32)), (.int (1 : Int32)), (.int ll), (.ref ad1)])) _
    refine XS.isub X6.here hx rfl (hb hby at_108) rfl ?_
    show Steps p.tables e below (T6.setTop (mkF m 109 #[.val (.int p1), .val (.int p2), .val (.int p3), .val (.int (2 : Int32)), .val (.int (1 : Int32)), .val (.int ll), .val (.int oo), .val (.ref ad1), .val (.int (1 : Int32))] [(.int (0 : Int32)), (.int ll), (.ref ad1)])) _
    refine st7.trans ?_
    show Steps p.tables e below (T7.setTop (mkF m 112 #[.val (.int p1), .val (.int p2), .val (.int p3), .val (.int (2 : Int32)), .val (.int (1 : Int32)), .val (.int ll), .val (.int oo), .val (.ref ad1), .val (.int (1 : Int32))] [])) _
    refine XS.iload X7.here hx rfl (hb hby at_112) rfl ?_
    show Steps p.tables e below (T7.setTop (mkF m 114 #[.val (.int p1), .val (.int p2), .val (.int p3), .val (.int (2 : Int32)), .val (.int (1 : Int32)), .val (.int ll), .val (.int oo), .val (.ref ad1), .val (.int (1 : Int32))] [(.int (1 : Int32))])) _
    refine XS.ifNo X7.here hx rfl (hb hby at_114) rfl ((if0 _ _).trans (feq (by decide : ¬ ((1 : Int32) = (0 : Int32)))).1) ?_
    show Steps p.tables e below (T7.setTop (mkF m 117 #[.val (.int p1), .val (.int p2), .val (.int p3), .val (.int (2 : Int32)), .val (.int (1 : Int32)), .val (.int ll), .val (.int oo), .val (.ref ad1), .val (.int (1 : Int32))] [])) _
    refine XS.aload X7.here hx rfl (hb hby at_117) rfl rfl ?_
    refine XS.iload X7.here hx rfl (hb hby at_119) rfl ?_
    refine XS.iloadN X7.here hx rfl (hb hby at_121) rfl ?_
    refine XS.iload X7.here hx rfl (hb hby at_122) rfl ?_
    refine XS.iload X7.here hx rfl (hb hby at_124) rfl ?_
    refine XS.iconst X7.here hx rfl (hb hby at_126) ?_
    show Steps p.tables e below (T7.setTop (mkF m 127 #[.val (.int p1), .val (.int p2), .val (.int p3), .val (.int (2 : Int32)), .val (.int (1 : Int32)), .val (.int ll), .val (.int oo), .val (.ref ad1), .val (.int (1 : Int32))] [(.int (1 : Int32)), (.int (1 : Int32)), (.int (1 : Int32)), (.int (2 : Int32)), (.int ll), (.ref ad1)])) _
    refine XS.isub X7.here hx rfl (hb hby at_127) rfl ?_
    show Steps p.tables e below (T7.setTop (mkF m 128 #[.val (.int p1), .val (.int p2), .val (.int p3), .val (.int (2 : Int32)), .val (.int (1 : Int32)), .val (.int ll), .val (.int oo), .val (.ref ad1), .val (.int (1 : Int32))] [(.int (0 : Int32)), (.int (1 : Int32)), (.int (2 : Int32)), (.int ll), (.ref ad1)])) _
    refine st8 _ ?_
    show Steps p.tables e below (T8.setTop (mkF m 131 #[.val (.int p1), .val (.int p2), .val (.int p3), .val (.int (2 : Int32)), .val (.int (1 : Int32)), .val (.int ll), .val (.int oo), .val (.ref ad1), .val (.int (1 : Int32))] [(.int (1 : Int32))])) _
    refine XS.ifNo X8.here hx rfl (hb hby at_131) rfl ((if0 _ _).trans (feq (by decide : ¬ ((1 : Int32) = (0 : Int32)))).1) ?_
    show Steps p.tables e below (T8.setTop (mkF m 134 #[.val (.int p1), .val (.int p2), .val (.int p3), .val (.int (2 : Int32)), .val (.int (1 : Int32)), .val (.int ll), .val (.int oo), .val (.ref ad1), .val (.int (1 : Int32))] [])) _
    refine XS.iconst X8.here hx rfl (hb hby at_134) ?_
    refine XS.goto X8.here hx rfl (pc0 := 135) (pc' := 139) rfl (hb hby at_135) (by decide) (by decide) ?_
    refine XS.istore X8.here hx rfl (hb hby at_139) rfl (l' := #[.val (.int p1), .val (.int p2), .val (.int p3), .val (.int (2 : Int32)), .val (.int (1 : Int32)), .val (.int ll), .val (.int oo), .val (.ref ad1), .val (.int (1 : Int32))]) rfl ?_
    refine XS.iload X8.here hx rfl (hb hby at_141) rfl ?_
    show Steps p.tables e below (T8.setTop (mkF m 143 #[.val (.int p1), .val (.int p2), .val (.int p3), .val (.int (2 : Int32)), .val (.int (1 : Int32)), .val (.int ll), .val (.int oo), .val (.ref ad1), .val (.int (1 : Int32))] [(.int (1 : Int32))])) _
    refine XS.ifNo X8.here hx rfl (hb hby at_143) rfl ((if0 _ _).trans (feq (by decide : ¬ ((1 : Int32) = (0 : Int32)))).1) ?_
    show Steps p.tables e below (T8.setTop (mkF m 146 #[.val (.int p1), .val (.int p2), .val (.int p3), .val (.int (2 : Int32)), .val (.int (1 : Int32)), .val (.int ll), .val (.int oo), .val (.ref ad1), .val (.int (1 : Int32))] [])) _
    refine XS.aload X8.here hx rfl (hb hby at_146) rfl rfl ?_
    refine XS.iload X8.here hx rfl (hb hby at_148) rfl ?_
    show Steps p.tables e below (T8.setTop (mkF m 150 #[.val (.int p1), .val (.int p2), .val (.int p3), .val (.int (2 : Int32)), .val (.int (1 : Int32)), .val (.int ll), .val (.int oo), .val (.ref ad1), .val (.int (1 : Int32))] [(.int oo), (.ref ad1)])) _
    refine st9.trans ?_
    show Steps p.tables e below (T9.setTop (mkF m 153 #[.val (.int p1), .val (.int p2), .val (.int p3), .val (.int (2 : Int32)), .val (.int (1 : Int32)), .val (.int ll), .val (.int oo), .val (.ref ad1), .val (.int (1 : Int32))] [(.int ((own_rH (own_rH (own_upd (own_upd own_H0 ll (0 : Int32)) ll (1 : Int32)) (own_upd (own_upd own_zero (0 : Int32) (own_H0 ll)) (1 : Int32) ((own_upd own_H0 ll (0 : Int32)) ll)) (own_pP (own_upd own_H0 ll (0 : Int32)) (own_pP own_H0 own_zero ll (0 : Int32)) ll (1 : Int32)) ll (1 : Int32)) (own_rN (own_upd (own_upd own_zero (0 : Int32) (own_H0 ll)) (1 : Int32) ((own_upd own_H0 ll (0 : Int32)) ll)) (own_pP (own_upd own_H0 ll (0 : Int32)) (own_pP own_H0 own_zero ll (0 : Int32)) ll (1 : Int32)) (1 : Int32)) (own_rP (own_upd (own_upd own_zero (0 : Int32) (own_H0 ll)) (1 : Int32) ((own_upd own_H0 ll (0 : Int32)) ll)) (own_pP (own_upd own_H0 ll (0 : Int32)) (own_pP own_H0 own_zero ll (0 : Int32)) ll (1 : Int32)) (1 : Int32)) ll (0 : Int32)) oo))])) _
    refine XS.iconst X9.here hx rfl (hb hby at_153) ?_
    show Steps p.tables e below (T9.setTop (mkF m 154 #[.val (.int p1), .val (.int p2), .val (.int p3), .val (.int (2 : Int32)), .val (.int (1 : Int32)), .val (.int ll), .val (.int oo), .val (.ref ad1), .val (.int (1 : Int32))] [(.int (-1 : Int32)), (.int ((own_rH (own_rH (own_upd (own_upd own_H0 ll (0 : Int32)) ll (1 : Int32)) (own_upd (own_upd own_zero (0 : Int32) (own_H0 ll)) (1 : Int32) ((own_upd own_H0 ll (0 : Int32)) ll)) (own_pP (own_upd own_H0 ll (0 : Int32)) (own_pP own_H0 own_zero ll (0 : Int32)) ll (1 : Int32)) ll (1 : Int32)) (own_rN (own_upd (own_upd own_zero (0 : Int32) (own_H0 ll)) (1 : Int32) ((own_upd own_H0 ll (0 : Int32)) ll)) (own_pP (own_upd own_H0 ll (0 : Int32)) (own_pP own_H0 own_zero ll (0 : Int32)) ll (1 : Int32)) (1 : Int32)) (own_rP (own_upd (own_upd own_zero (0 : Int32) (own_H0 ll)) (1 : Int32) ((own_upd own_H0 ll (0 : Int32)) ll)) (own_pP (own_upd own_H0 ll (0 : Int32)) (own_pP own_H0 own_zero ll (0 : Int32)) ll (1 : Int32)) (1 : Int32)) ll (0 : Int32)) oo))])) _
    refine XS.icmpNo X9.here hx rfl (hb hby at_154) rfl (teq (show ((own_rH (own_rH (own_upd (own_upd own_H0 ll (0 : Int32)) ll (1 : Int32)) (own_upd (own_upd own_zero (0 : Int32) (own_H0 ll)) (1 : Int32) ((own_upd own_H0 ll (0 : Int32)) ll)) (own_pP (own_upd own_H0 ll (0 : Int32)) (own_pP own_H0 own_zero ll (0 : Int32)) ll (1 : Int32)) ll (1 : Int32)) (own_rN (own_upd (own_upd own_zero (0 : Int32) (own_H0 ll)) (1 : Int32) ((own_upd own_H0 ll (0 : Int32)) ll)) (own_pP (own_upd own_H0 ll (0 : Int32)) (own_pP own_H0 own_zero ll (0 : Int32)) ll (1 : Int32)) (1 : Int32)) (own_rP (own_upd (own_upd own_zero (0 : Int32) (own_H0 ll)) (1 : Int32) ((own_upd own_H0 ll (0 : Int32)) ll)) (own_pP (own_upd own_H0 ll (0 : Int32)) (own_pP own_H0 own_zero ll (0 : Int32)) ll (1 : Int32)) (1 : Int32)) ll (0 : Int32)) oo) = (-1 : Int32) by subst hoo; rcases hl with rfl | rfl <;> decide +kernel)).2 ?_
    show Steps p.tables e below (T9.setTop (mkF m 157 #[.val (.int p1), .val (.int p2), .val (.int p3), .val (.int (2 : Int32)), .val (.int (1 : Int32)), .val (.int ll), .val (.int oo), .val (.ref ad1), .val (.int (1 : Int32))] [])) _
    refine XS.aload X9.here hx rfl (hb hby at_157) rfl rfl ?_
    refine XS.iload X9.here hx rfl (hb hby at_159) rfl ?_
    show Steps p.tables e below (T9.setTop (mkF m 161 #[.val (.int p1), .val (.int p2), .val (.int p3), .val (.int (2 : Int32)), .val (.int (1 : Int32)), .val (.int ll), .val (.int oo), .val (.ref ad1), .val (.int (1 : Int32))] [(.int oo), (.ref ad1)])) _
    refine st10.trans ?_
    show Steps p.tables e below (T10.setTop (mkF m 164 #[.val (.int p1), .val (.int p2), .val (.int p3), .val (.int (2 : Int32)), .val (.int (1 : Int32)), .val (.int ll), .val (.int oo), .val (.ref ad1), .val (.int (1 : Int32))] [(.int ((own_upd (own_upd (own_upd (own_upd own_zero ll (own_zero ll + (1 : Int32))) ll ((own_upd own_zero ll (own_zero ll + (1 : Int32))) ll + (1 : Int32))) ll ((own_upd (own_upd own_zero ll (own_zero ll + (1 : Int32))) ll ((own_upd own_zero ll (own_zero ll + (1 : Int32))) ll + (1 : Int32))) ll - (1 : Int32))) ll ((own_upd (own_upd (own_upd own_zero ll (own_zero ll + (1 : Int32))) ll ((own_upd own_zero ll (own_zero ll + (1 : Int32))) ll + (1 : Int32))) ll ((own_upd (own_upd own_zero ll (own_zero ll + (1 : Int32))) ll ((own_upd own_zero ll (own_zero ll + (1 : Int32))) ll + (1 : Int32))) ll - (1 : Int32))) ll - (1 : Int32))) oo))])) _
    refine XS.ifNo X10.here hx rfl (hb hby at_164) rfl ((if0 _ _).trans (teq (show ((own_upd (own_upd (own_upd (own_upd own_zero ll (own_zero ll + (1 : Int32))) ll ((own_upd own_zero ll (own_zero ll + (1 : Int32))) ll + (1 : Int32))) ll ((own_upd (own_upd own_zero ll (own_zero ll + (1 : Int32))) ll ((own_upd own_zero ll (own_zero ll + (1 : Int32))) ll + (1 : Int32))) ll - (1 : Int32))) ll ((own_upd (own_upd (own_upd own_zero ll (own_zero ll + (1 : Int32))) ll ((own_upd own_zero ll (own_zero ll + (1 : Int32))) ll + (1 : Int32))) ll ((own_upd (own_upd own_zero ll (own_zero ll + (1 : Int32))) ll ((own_upd own_zero ll (own_zero ll + (1 : Int32))) ll + (1 : Int32))) ll - (1 : Int32))) ll - (1 : Int32))) oo) = (0 : Int32) by subst hoo; rcases hl with rfl | rfl <;> decide +kernel)).2) ?_
    show Steps p.tables e below (T10.setTop (mkF m 167 #[.val (.int p1), .val (.int p2), .val (.int p3), .val (.int (2 : Int32)), .val (.int (1 : Int32)), .val (.int ll), .val (.int oo), .val (.ref ad1), .val (.int (1 : Int32))] [])) _
    refine XS.iconst X10.here hx rfl (hb hby at_167) ?_
    refine XS.goto X10.here hx rfl (pc0 := 168) (pc' := 172) rfl (hb hby at_168) (by decide) (by decide) ?_
    refine XS.istore X10.here hx rfl (hb hby at_172) rfl (l' := #[.val (.int p1), .val (.int p2), .val (.int p3), .val (.int (2 : Int32)), .val (.int (1 : Int32)), .val (.int ll), .val (.int oo), .val (.ref ad1), .val (.int (1 : Int32))]) rfl ?_
    refine XS.iload X10.here hx rfl (hb hby at_174) rfl ?_
    show Steps p.tables e below (T10.setTop (mkF m 176 #[.val (.int p1), .val (.int p2), .val (.int p3), .val (.int (2 : Int32)), .val (.int (1 : Int32)), .val (.int ll), .val (.int oo), .val (.ref ad1), .val (.int (1 : Int32))] [(.int (1 : Int32))])) _
    exact retN X10 hx (t := .boolean) Bd.returns (by simp) (hb hby at_176) hr
  · show Q0_2_1 Z p1 p2 p3 h0 n0 _ T10.heap _
    exact ⟨rfl, N10⟩
def Q0_3_0 (Z : State) (p1 p2 p3 : Int32) (h0 : Heap) (n0 : Nat) (v : Option Value) (h : Heap) (L : List Loc) : Prop := v = some (.int (1 : Int32)) ∧ Fr n0 L
set_option maxRecDepth 65536 in
set_option maxHeartbeats 40000000 in
theorem rm0_3_0 (l : Launch) (Z : State) (a0 : Array Value) (hw : ∀ d ∈ tables_1, d.before a0 Z = true) (ws : List Jvm.Cond) (p1 p2 p3 : Int32) (h0 : Heap) (n0 : Nat) (Z0 : n0 ≤ h0.size) (hN : ((1 : Int32) + ((p1 &&& (2147483647 : Int32)) % (3 : Int32))) = (3 : Int32)) (hE : ((p2 &&& (2147483647 : Int32)) % (3 : Int32)) = (0 : Int32)) :
    MetFree l x (head1 (Jvm.Cond.code x code maxLocals ret :: ws) room_1) (fun a U => a = #[(.int p1), (.int p2), (.int p3)] ∧ Z.Warmed39 U.vm ∧ U.heap = h0) (fun _ _ _ _ _ => True) (fun _ U o U' => ∃ v L, o = .returned v ∧ Q0_3_0 Z p1 p2 p3 h0 n0 v U'.heap L ∧ FrameEnd U o U' L room_1.cells room_1.slots) := by
  refine MetFree.of_bodySF (plainFor_of_name pn_0) hisR ?_
  intro p e s m args below meth c s₁ Bd hml0 hP hK
  obtain ⟨rfl, hZ, hh⟩ := hP
  have hx := Bd.exec
  have hby := Bd.bytes
  have hml : c.maxLocals = 9 := hml0
  have hown : s.vm.findClass "com/example/process_stepper/processstepper/equivalence/IntListsRemovePinLaw" = some m.cls := findClass_of_methodNamed Bd.named
  have hnm := (name_of_methodNamed Bd.named Bd.method).1
  have X0 : Stand p l e room_1 s m #[(.int p1), (.int p2), (.int p3)] below meth c s₁ [] 0 0 := Stand.of_body Bd
  have e0 : s₁.heap = h0 := by rw [← hh, Bd.state]; rfl
  have N0 := Fr.nil n0
  have pre0 : ∀ t, Steps p.tables e below (s₁.setTop (mkF m 0 #[.val (.int p1), .val (.int p2), .val (.int p3), .unset, .unset, .unset, .unset, .unset, .unset] [])) t → Steps p.tables e below (s₁.setTop (entryFrame m #[(.int p1), (.int p2), (.int p3)] maxLocals)) t := fun t k => castTop (ef_0 m p1 p2 p3) k
  obtain ⟨ll, hll⟩ : ∃ z : Int32, z = (p3 &&& (1 : Int32)) := ⟨_, rfl⟩
  have hl : ll = (0 : Int32) ∨ ll = (1 : Int32) := by rw [hll]; exact own_bit p3
  obtain ⟨oo, hoo⟩ : ∃ z : Int32, z = ((1 : Int32) - ll) := ⟨_, rfl⟩
  obtain ⟨T1, h1, X1, e1, E1, A1, D1, -, st1⟩ := newO X0 hx hZ hown (own_w hw 1 rfl) (own_w hw 2 rfl) (own_w hw 3 rfl) e0 (g := (mkF m 28 #[.val (.int p1), .val (.int p2), .val (.int p3), .val (.int (3 : Int32)), .val (.int (0 : Int32)), .val (.int ll), .val (.int oo), .unset, .unset] [])) rfl (hb hby at_28) (by decide) (by decide)
  obtain ⟨ad1, g1⟩ : ∃ z, z = h0.size := ⟨_, rfl⟩
  rw [← g1] at A1 D1 st1
  have gn_ad1 : n0 ≤ ad1 := Nat.le_trans Z0 (Nat.le_of_eq g1.symm)
  have sz_ad1 : h0.size ≤ ad1 := Nat.le_trans (Keep.refl h0 []).1 (Nat.le_of_eq g1.symm)
  have E_ad1_1 : Exa Z h1 ad1 "com/example/process_stepper/processstepper/equivalence/IntLists" := A1
  have F_heads_ad1_1 : Fld Z h1 ad1 "com/example/process_stepper/processstepper/equivalence/IntLists" "heads" "[I" .null := D1 (Or.inl (own_w hw 12 rfl)) (ty := (.array .int)) (by decide)
  have F_sizes_ad1_1 : Fld Z h1 ad1 "com/example/process_stepper/processstepper/equivalence/IntLists" "sizes" "[I" .null := D1 (Or.inl (own_w hw 18 rfl)) (ty := (.array .int)) (by decide)
  have F_next_ad1_1 : Fld Z h1 ad1 "com/example/process_stepper/processstepper/equivalence/IntLists" "next" "[I" .null := D1 (Or.inl (own_w hw 20 rfl)) (ty := (.array .int)) (by decide)
  have F_previous_ad1_1 : Fld Z h1 ad1 "com/example/process_stepper/processstepper/equivalence/IntLists" "previous" "[I" .null := D1 (Or.inl (own_w hw 22 rfl)) (ty := (.array .int)) (by decide)
  have K1 : Keep h0 h1 [] := (Keep.refl h0 []).ext E1
  have Zs1 : n0 ≤ h1.size := Nat.le_trans Z0 E1.1
  obtain ⟨_, _, ⟨T2, L2, k2, n2⟩, -, X2, ⟨Lc2, hQ2, l2, y2, z2⟩, st2⟩ := X1.specialBack hx (y := own_m5) rfl hown (mvT hZ (own_w hw 4 rfl)) (mvT hZ (own_w hw 5 rfl)) (mvT hZ (own_w hw 6 rfl)) (by decide) (backOf (W := 1) (rm1 l Z a0 hw [] ad1 h1 n0 Zs1 E_ad1_1 F_heads_ad1_1 F_sizes_ad1_1 F_next_ad1_1 F_previous_ad1_1 gn_ad1) hZ (own_w hw 6 rfl) (own_w hw 3 rfl) (by decide) (by decide)) (g := (mkF m 34 #[.val (.int p1), .val (.int p2), .val (.int p3), .val (.int (3 : Int32)), .val (.int (0 : Int32)), .val (.int ll), .val (.int oo), .unset, .unset] [(.int (3 : Int32)), (.int (2 : Int32)), (.ref ad1), (.ref ad1)])) rfl (by rw [hml]; rfl) (Steps.refl _) (a := ad1) (argsL := [(.int (2 : Int32)), (.int (3 : Int32))]) (rest := [(.ref ad1)]) (lenOf pd__II_V rfl) rfl (by show 2 * 0 + _ ≤ _; exact Nat.le_of_eq rfl) (hb hby at_34) (fun _ _ => ⟨rfl, e1, (by decide : 1 + 4 ≤ _), (by decide : 4 + 10 ≤ _)⟩)
  dsimp only [Pt.U, Pt.locs, Pt.cells, Pt.slots] at X2 l2 y2 z2 st2 hQ2
  subst l2 y2 z2
  obtain ⟨rfl, N2q, b1, b2, b3, b4, K2q, -, V2⟩ := hQ2
  have N2 := Fr.app N0 N2q
  have Zs2 : n0 ≤ T2.heap.size := Nat.le_trans Zs1 K2q.1
  obtain ⟨cq3, kq3, q3a, q3b, q3c⟩ := isOf hZ rfl (V2.1)
  obtain ⟨_, _, ⟨T3, L3, k3, n3⟩, -, X3, ⟨Lc3, hQ3, l3, y3, z3⟩, st3⟩ := X2.virtualBack hx (y := own_m6) (z := own_m6) hown (mvT hZ (own_w hw 23 rfl)) (mvT hZ (own_w hw 24 rfl)) (notFace_of_selects (args := #[]) (mvT hZ (own_w hw 26 rfl))) (mvT hZ (own_w hw 26 rfl)) (mvT hZ (own_w hw 25 rfl)) (by decide) (backOf (W := 0) (rm4 l Z a0 hw [] ad1 ll (0 : Int32) b1 b2 b3 b4 own_H0 own_zero own_zero own_zero T2.heap n0 Zs2 V2 (by rcases hl with rfl | rfl <;> decide +kernel) (by rcases hl with rfl | rfl <;> decide +kernel) (by decide) (by decide) (by unfold own_in; rcases hl with rfl | rfl <;> decide +kernel)) hZ (own_w hw 27 rfl) (own_w hw 3 rfl) (by decide) (by decide)) q3a q3c (g := (mkF m 44 #[.val (.int p1), .val (.int p2), .val (.int p3), .val (.int (3 : Int32)), .val (.int (0 : Int32)), .val (.int ll), .val (.int oo), .val (.ref ad1), .unset] [(.int (0 : Int32)), (.int ll), (.ref ad1)])) rfl (by rw [hml]; rfl) (Steps.refl _) (argsL := [(.int ll), (.int (0 : Int32))]) (rest := []) (lenOf pd__II_V rfl) rfl (by show 2 * 0 + _ ≤ _; exact Nat.le_of_eq rfl) (hb hby at_44) (fun _ _ => ⟨rfl, rfl, (by decide : 5 + 0 ≤ _), (by decide : 14 + 0 ≤ _)⟩)
  dsimp only [Pt.U, Pt.locs, Pt.cells, Pt.slots] at X3 l3 y3 z3 st3 hQ3
  subst l3 y3 z3
  obtain ⟨rfl, N3q, K3q, V3⟩ := hQ3
  have N3 := Fr.app N2 N3q
  have Zs3 : n0 ≤ T3.heap.size := Nat.le_trans Zs2 K3q.1
  obtain ⟨cq4, kq4, q4a, q4b, q4c⟩ := isOf hZ rfl (V3.1)
  obtain ⟨_, _, ⟨T4, L4, k4, n4⟩, -, X4, ⟨Lc4, hQ4, l4, y4, z4⟩, st4⟩ := X3.virtualBack hx (y := own_m6) (z := own_m6) hown (mvT hZ (own_w hw 23 rfl)) (mvT hZ (own_w hw 24 rfl)) (notFace_of_selects (args := #[]) (mvT hZ (own_w hw 26 rfl))) (mvT hZ (own_w hw 26 rfl)) (mvT hZ (own_w hw 25 rfl)) (by decide) (backOf (W := 0) (rm4 l Z a0 hw [] ad1 ll (1 : Int32) b1 b2 b3 b4 (own_upd own_H0 ll (0 : Int32)) (own_upd own_zero ll (own_zero ll + (1 : Int32))) (own_upd own_zero (0 : Int32) (own_H0 ll)) (own_pP own_H0 own_zero ll (0 : Int32)) T3.heap n0 Zs3 V3 (by rcases hl with rfl | rfl <;> decide +kernel) (by rcases hl with rfl | rfl <;> decide +kernel) (by decide) (by decide) (by unfold own_in; rcases hl with rfl | rfl <;> decide +kernel)) hZ (own_w hw 27 rfl) (own_w hw 3 rfl) (by decide) (by decide)) q4a q4c (g := (mkF m 57 #[.val (.int p1), .val (.int p2), .val (.int p3), .val (.int (3 : Int32)), .val (.int (0 : Int32)), .val (.int ll), .val (.int oo), .val (.ref ad1), .unset] [(.int (1 : Int32)), (.int ll), (.ref ad1)])) rfl (by rw [hml]; rfl) (Steps.refl _) (argsL := [(.int ll), (.int (1 : Int32))]) (rest := []) (lenOf pd__II_V rfl) rfl (by show 2 * 0 + _ ≤ _; exact Nat.le_of_eq rfl) (hb hby at_57) (fun _ _ => ⟨rfl, rfl, (by decide : 5 + 0 ≤ _), (by decide : 14 + 0 ≤ _)⟩)
  dsimp only [Pt.U, Pt.locs, Pt.cells, Pt.slots] at X4 l4 y4 z4 st4 hQ4
  subst l4 y4 z4
  obtain ⟨rfl, N4q, K4q, V4⟩ := hQ4
  have N4 := Fr.app N3 N4q
  have Zs4 : n0 ≤ T4.heap.size := Nat.le_trans Zs3 K4q.1
  obtain ⟨cq5, kq5, q5a, q5b, q5c⟩ := isOf hZ rfl (V4.1)
  obtain ⟨_, _, ⟨T5, L5, k5, n5⟩, -, X5, ⟨Lc5, hQ5, l5, y5, z5⟩, st5⟩ := X4.virtualBack hx (y := own_m6) (z := own_m6) hown (mvT hZ (own_w hw 23 rfl)) (mvT hZ (own_w hw 24 rfl)) (notFace_of_selects (args := #[]) (mvT hZ (own_w hw 26 rfl))) (mvT hZ (own_w hw 26 rfl)) (mvT hZ (own_w hw 25 rfl)) (by decide) (backOf (W := 0) (rm4 l Z a0 hw [] ad1 ll (2 : Int32) b1 b2 b3 b4 (own_upd (own_upd own_H0 ll (0 : Int32)) ll (1 : Int32)) (own_upd (own_upd own_zero ll (own_zero ll + (1 : Int32))) ll ((own_upd own_zero ll (own_zero ll + (1 : Int32))) ll + (1 : Int32))) (own_upd (own_upd own_zero (0 : Int32) (own_H0 ll)) (1 : Int32) ((own_upd own_H0 ll (0 : Int32)) ll)) (own_pP (own_upd own_H0 ll (0 : Int32)) (own_pP own_H0 own_zero ll (0 : Int32)) ll (1 : Int32)) T4.heap n0 Zs4 V4 (by rcases hl with rfl | rfl <;> decide +kernel) (by rcases hl with rfl | rfl <;> decide +kernel) (by decide) (by decide) (by unfold own_in; rcases hl with rfl | rfl <;> decide +kernel)) hZ (own_w hw 27 rfl) (own_w hw 3 rfl) (by decide) (by decide)) q5a q5c (g := (mkF m 70 #[.val (.int p1), .val (.int p2), .val (.int p3), .val (.int (3 : Int32)), .val (.int (0 : Int32)), .val (.int ll), .val (.int oo), .val (.ref ad1), .unset] [(.int (2 : Int32)), (.int ll), (.ref ad1)])) rfl (by rw [hml]; rfl) (Steps.refl _) (argsL := [(.int ll), (.int (2 : Int32))]) (rest := []) (lenOf pd__II_V rfl) rfl (by show 2 * 0 + _ ≤ _; exact Nat.le_of_eq rfl) (hb hby at_70) (fun _ _ => ⟨rfl, rfl, (by decide : 5 + 0 ≤ _), (by decide : 14 + 0 ≤ _)⟩)
  dsimp only [Pt.U, Pt.locs, Pt.cells, Pt.slots] at X5 l5 y5 z5 st5 hQ5
  subst l5 y5 z5
  obtain ⟨rfl, N5q, K5q, V5⟩ := hQ5
  have N5 := Fr.app N4 N5q
  have Zs5 : n0 ≤ T5.heap.size := Nat.le_trans Zs4 K5q.1
  obtain ⟨cq6, kq6, q6a, q6b, q6c⟩ := isOf hZ rfl (V5.1)
  obtain ⟨_, _, ⟨T6, L6, k6, n6⟩, -, X6, ⟨Lc6, hQ6, l6, y6, z6⟩, st6⟩ := X5.virtualBack hx (y := own_m7) (z := own_m7) hown (mvT hZ (own_w hw 28 rfl)) (mvT hZ (own_w hw 29 rfl)) (notFace_of_selects (args := #[]) (mvT hZ (own_w hw 31 rfl))) (mvT hZ (own_w hw 31 rfl)) (mvT hZ (own_w hw 30 rfl)) (by decide) (backOf (W := 0) (rm5 l Z a0 hw [] ad1 ll (0 : Int32) b1 b2 b3 b4 (own_upd (own_upd (own_upd own_H0 ll (0 : Int32)) ll (1 : Int32)) ll (2 : Int32)) (own_upd (own_upd (own_upd own_zero ll (own_zero ll + (1 : Int32))) ll ((own_upd own_zero ll (own_zero ll + (1 : Int32))) ll + (1 : Int32))) ll ((own_upd (own_upd own_zero ll (own_zero ll + (1 : Int32))) ll ((own_upd own_zero ll (own_zero ll + (1 : Int32))) ll + (1 : Int32))) ll + (1 : Int32))) (own_upd (own_upd (own_upd own_zero (0 : Int32) (own_H0 ll)) (1 : Int32) ((own_upd own_H0 ll (0 : Int32)) ll)) (2 : Int32) ((own_upd (own_upd own_H0 ll (0 : Int32)) ll (1 : Int32)) ll)) (own_pP (own_upd (own_upd own_H0 ll (0 : Int32)) ll (1 : Int32)) (own_pP (own_upd own_H0 ll (0 : Int32)) (own_pP own_H0 own_zero ll (0 : Int32)) ll (1 : Int32)) ll (2 : Int32)) T5.heap n0 Zs5 V5 (by rcases hl with rfl | rfl <;> decide +kernel) (by rcases hl with rfl | rfl <;> decide +kernel) (by decide) (by decide) (by unfold own_in; rcases hl with rfl | rfl <;> decide +kernel) (by unfold own_in; rcases hl with rfl | rfl <;> decide +kernel)) hZ (own_w hw 32 rfl) (own_w hw 3 rfl) (by decide) (by decide)) q6a q6c (g := (mkF m 79 #[.val (.int p1), .val (.int p2), .val (.int p3), .val (.int (3 : Int32)), .val (.int (0 : Int32)), .val (.int ll), .val (.int oo), .val (.ref ad1), .unset] [(.int (0 : Int32)), (.int ll), (.ref ad1)])) rfl (by rw [hml]; rfl) (Steps.refl _) (argsL := [(.int ll), (.int (0 : Int32))]) (rest := []) (lenOf pd__II_V rfl) rfl (by show 2 * 0 + _ ≤ _; exact Nat.le_of_eq rfl) (hb hby at_79) (fun _ _ => ⟨rfl, rfl, (by decide : 5 + 0 ≤ _), (by decide : 14 + 0 ≤ _)⟩)
  dsimp only [Pt.U, Pt.locs, Pt.cells, Pt.slots] at X6 l6 y6 z6 st6 hQ6
  subst l6 y6 z6
  obtain ⟨rfl, N6q, K6q, V6⟩ := hQ6
  have N6 := Fr.app N5 N6q
  have Zs6 : n0 ≤ T6.heap.size := Nat.le_trans Zs5 K6q.1
  obtain ⟨_, _, ⟨T7, L7, k7, n7⟩, -, X7, ⟨Lc7, hQ7, l7, y7, z7⟩, st7⟩ := Jvm.LawKit.callS X6 hx (y := own_m8) hown (mvT hZ (own_w hw 33 rfl)) (mvT hZ (own_w hw 34 rfl)) (mvT hZ (own_w hw 35 rfl)) (mvT hZ (own_w hw 36 rfl)) (by decide) (backOf (W := 0) (rm6_3_0_m1 l Z a0 hw [] ad1 ll b1 b2 b3 b4 (own_rH (own_upd (own_upd (own_upd own_H0 ll (0 : Int32)) ll (1 : Int32)) ll (2 : Int32)) (own_upd (own_upd (own_upd own_zero (0 : Int32) (own_H0 ll)) (1 : Int32) ((own_upd own_H0 ll (0 : Int32)) ll)) (2 : Int32) ((own_upd (own_upd own_H0 ll (0 : Int32)) ll (1 : Int32)) ll)) (own_pP (own_upd (own_upd own_H0 ll (0 : Int32)) ll (1 : Int32)) (own_pP (own_upd own_H0 ll (0 : Int32)) (own_pP own_H0 own_zero ll (0 : Int32)) ll (1 : Int32)) ll (2 : Int32)) ll (0 : Int32)) (own_upd (own_upd (own_upd (own_upd own_zero ll (own_zero ll + (1 : Int32))) ll ((own_upd own_zero ll (own_zero ll + (1 : Int32))) ll + (1 : Int32))) ll ((own_upd (own_upd own_zero ll (own_zero ll + (1 : Int32))) ll ((own_upd own_zero ll (own_zero ll + (1 : Int32))) ll + (1 : Int32))) ll + (1 : Int32))) ll ((own_upd (own_upd (own_upd own_zero ll (own_zero ll + (1 : Int32))) ll ((own_upd own_zero ll (own_zero ll + (1 : Int32))) ll + (1 : Int32))) ll ((own_upd (own_upd own_zero ll (own_zero ll + (1 : Int32))) ll ((own_upd own_zero ll (own_zero ll + (1 : Int32))) ll + (1 : Int32))) ll + (1 : Int32))) ll - (1 : Int32))) (own_rN (own_upd (own_upd (own_upd own_zero (0 : Int32) (own_H0 ll)) (1 : Int32) ((own_upd own_H0 ll (0 : Int32)) ll)) (2 : Int32) ((own_upd (own_upd own_H0 ll (0 : Int32)) ll (1 : Int32)) ll)) (own_pP (own_upd (own_upd own_H0 ll (0 : Int32)) ll (1 : Int32)) (own_pP (own_upd own_H0 ll (0 : Int32)) (own_pP own_H0 own_zero ll (0 : Int32)) ll (1 : Int32)) ll (2 : Int32)) (0 : Int32)) (own_rP (own_upd (own_upd (own_upd own_zero (0 : Int32) (own_H0 ll)) (1 : Int32) ((own_upd own_H0 ll (0 : Int32)) ll)) (2 : Int32) ((own_upd (own_upd own_H0 ll (0 : Int32)) ll (1 : Int32)) ll)) (own_pP (own_upd (own_upd own_H0 ll (0 : Int32)) ll (1 : Int32)) (own_pP (own_upd own_H0 ll (0 : Int32)) (own_pP own_H0 own_zero ll (0 : Int32)) ll (1 : Int32)) ll (2 : Int32)) (0 : Int32)) T6.heap n0 Zs6 V6 (by rcases hl with rfl | rfl <;> decide +kernel) (by rcases hl with rfl | rfl <;> decide +kernel) (by rcases hl with rfl | rfl <;> decide +kernel) (by rcases hl with rfl | rfl <;> decide +kernel) (by rcases hl with rfl | rfl <;> decide +kernel) (by rcases hl with rfl | rfl <;> decide +kernel)) hZ (own_w hw 36 rfl) (own_w hw 35 rfl) (by decide) (by decide)) (g := (mkF m 90 #[.val (.int p1), .val (.int p2), .val (.int p3), .val (.int (3 : Int32)), .val (.int (0 : Int32)), .val (.int ll), .val (.int oo), .val (.ref ad1), .unset] [(.int (-1 : Int32)), (.int (0 : Int32)), (.int (3 : Int32)), (.int ll), (.ref ad1)])) rfl (by rw [hml]; rfl) (argsL := [(.ref ad1), (.int ll), (.int (3 : Int32)), (.int (0 : Int32)), (.int (-1 : Int32))]) (rest := []) (lenOf pd__Lcom_example_process_stepper_processstepper_equivalence_IntLists_IIII_Z rfl) rfl (by show 2 * 0 + _ ≤ _; exact Nat.le_of_eq rfl) (hb hby at_90) (fun _ _ => ⟨rfl, rfl, (by decide : 5 + 1 ≤ _), (by decide : 14 + 3 ≤ _)⟩)
  dsimp only [Pt.U, Pt.locs, Pt.cells, Pt.slots] at X7 l7 y7 z7 st7 hQ7
  subst l7 y7 z7
  obtain ⟨rfl, N7q, K7q⟩ := hQ7
  have N7 := Fr.app N6 N7q
  have V7 : own_L Z n0 T7.heap ad1 b1 b2 b3 b4 (own_rH (own_upd (own_upd (own_upd own_H0 ll (0 : Int32)) ll (1 : Int32)) ll (2 : Int32)) (own_upd (own_upd (own_upd own_zero (0 : Int32) (own_H0 ll)) (1 : Int32) ((own_upd own_H0 ll (0 : Int32)) ll)) (2 : Int32) ((own_upd (own_upd own_H0 ll (0 : Int32)) ll (1 : Int32)) ll)) (own_pP (own_upd (own_upd own_H0 ll (0 : Int32)) ll (1 : Int32)) (own_pP (own_upd own_H0 ll (0 : Int32)) (own_pP own_H0 own_zero ll (0 : Int32)) ll (1 : Int32)) ll (2 : Int32)) ll (0 : Int32)) (own_upd (own_upd (own_upd (own_upd own_zero ll (own_zero ll + (1 : Int32))) ll ((own_upd own_zero ll (own_zero ll + (1 : Int32))) ll + (1 : Int32))) ll ((own_upd (own_upd own_zero ll (own_zero ll + (1 : Int32))) ll ((own_upd own_zero ll (own_zero ll + (1 : Int32))) ll + (1 : Int32))) ll + (1 : Int32))) ll ((own_upd (own_upd (own_upd own_zero ll (own_zero ll + (1 : Int32))) ll ((own_upd own_zero ll (own_zero ll + (1 : Int32))) ll + (1 : Int32))) ll ((own_upd (own_upd own_zero ll (own_zero ll + (1 : Int32))) ll ((own_upd own_zero ll (own_zero ll + (1 : Int32))) ll + (1 : Int32))) ll + (1 : Int32))) ll - (1 : Int32))) (own_rN (own_upd (own_upd (own_upd own_zero (0 : Int32) (own_H0 ll)) (1 : Int32) ((own_upd own_H0 ll (0 : Int32)) ll)) (2 : Int32) ((own_upd (own_upd own_H0 ll (0 : Int32)) ll (1 : Int32)) ll)) (own_pP (own_upd (own_upd own_H0 ll (0 : Int32)) ll (1 : Int32)) (own_pP (own_upd own_H0 ll (0 : Int32)) (own_pP own_H0 own_zero ll (0 : Int32)) ll (1 : Int32)) ll (2 : Int32)) (0 : Int32)) (own_rP (own_upd (own_upd (own_upd own_zero (0 : Int32) (own_H0 ll)) (1 : Int32) ((own_upd own_H0 ll (0 : Int32)) ll)) (2 : Int32) ((own_upd (own_upd own_H0 ll (0 : Int32)) ll (1 : Int32)) ll)) (own_pP (own_upd (own_upd own_H0 ll (0 : Int32)) ll (1 : Int32)) (own_pP (own_upd own_H0 ll (0 : Int32)) (own_pP own_H0 own_zero ll (0 : Int32)) ll (1 : Int32)) ll (2 : Int32)) (0 : Int32)) := own_L_keep V6 K7q nin0 nin0 nin0 nin0 nin0
  have Zs7 : n0 ≤ T7.heap.size := Nat.le_trans Zs6 K7q.1
  obtain ⟨cq8, kq8, q8a, q8b, q8c⟩ := isOf hZ rfl (V7.1)
  obtain ⟨_, _, ⟨T8, L8, k8, n8⟩, -, X8, ⟨Lc8, hQ8, l8, y8, z8⟩, st8⟩ := X7.virtualBack hx (y := own_m3) (z := own_m3) hown (mvT hZ (own_w hw 42 rfl)) (mvT hZ (own_w hw 43 rfl)) (notFace_of_selects (args := #[]) (mvT hZ (own_w hw 45 rfl))) (mvT hZ (own_w hw 45 rfl)) (mvT hZ (own_w hw 44 rfl)) (by decide) (backOf (W := 0) (rm8 l Z a0 hw [] ad1 oo b1 b2 b3 b4 (own_rH (own_upd (own_upd (own_upd own_H0 ll (0 : Int32)) ll (1 : Int32)) ll (2 : Int32)) (own_upd (own_upd (own_upd own_zero (0 : Int32) (own_H0 ll)) (1 : Int32) ((own_upd own_H0 ll (0 : Int32)) ll)) (2 : Int32) ((own_upd (own_upd own_H0 ll (0 : Int32)) ll (1 : Int32)) ll)) (own_pP (own_upd (own_upd own_H0 ll (0 : Int32)) ll (1 : Int32)) (own_pP (own_upd own_H0 ll (0 : Int32)) (own_pP own_H0 own_zero ll (0 : Int32)) ll (1 : Int32)) ll (2 : Int32)) ll (0 : Int32)) (own_upd (own_upd (own_upd (own_upd own_zero ll (own_zero ll + (1 : Int32))) ll ((own_upd own_zero ll (own_zero ll + (1 : Int32))) ll + (1 : Int32))) ll ((own_upd (own_upd own_zero ll (own_zero ll + (1 : Int32))) ll ((own_upd own_zero ll (own_zero ll + (1 : Int32))) ll + (1 : Int32))) ll + (1 : Int32))) ll ((own_upd (own_upd (own_upd own_zero ll (own_zero ll + (1 : Int32))) ll ((own_upd own_zero ll (own_zero ll + (1 : Int32))) ll + (1 : Int32))) ll ((own_upd (own_upd own_zero ll (own_zero ll + (1 : Int32))) ll ((own_upd own_zero ll (own_zero ll + (1 : Int32))) ll + (1 : Int32))) ll + (1 : Int32))) ll - (1 : Int32))) (own_rN (own_upd (own_upd (own_upd own_zero (0 : Int32) (own_H0 ll)) (1 : Int32) ((own_upd own_H0 ll (0 : Int32)) ll)) (2 : Int32) ((own_upd (own_upd own_H0 ll (0 : Int32)) ll (1 : Int32)) ll)) (own_pP (own_upd (own_upd own_H0 ll (0 : Int32)) ll (1 : Int32)) (own_pP (own_upd own_H0 ll (0 : Int32)) (own_pP own_H0 own_zero ll (0 : Int32)) ll (1 : Int32)) ll (2 : Int32)) (0 : Int32)) (own_rP (own_upd (own_upd (own_upd own_zero (0 : Int32) (own_H0 ll)) (1 : Int32) ((own_upd own_H0 ll (0 : Int32)) ll)) (2 : Int32) ((own_upd (own_upd own_H0 ll (0 : Int32)) ll (1 : Int32)) ll)) (own_pP (own_upd (own_upd own_H0 ll (0 : Int32)) ll (1 : Int32)) (own_pP (own_upd own_H0 ll (0 : Int32)) (own_pP own_H0 own_zero ll (0 : Int32)) ll (1 : Int32)) ll (2 : Int32)) (0 : Int32)) T7.heap n0 Zs7 V7 (by subst hoo; rcases hl with rfl | rfl <;> decide +kernel) (by subst hoo; rcases hl with rfl | rfl <;> decide +kernel)) hZ (own_w hw 46 rfl) (own_w hw 3 rfl) (by decide) (by decide)) q8a q8c (g := (mkF m 150 #[.val (.int p1), .val (.int p2), .val (.int p3), .val (.int (3 : Int32)), .val (.int (0 : Int32)), .val (.int ll), .val (.int oo), .val (.ref ad1), .val (.int (1 : Int32))] [(.int oo), (.ref ad1)])) rfl (by rw [hml]; rfl) (Steps.refl _) (argsL := [(.int oo)]) (rest := []) (lenOf pd__I_I rfl) rfl (by show 2 * 0 + _ ≤ _; exact Nat.le_of_eq rfl) (hb hby at_150) (fun _ _ => ⟨rfl, rfl, (by decide : 6 + 0 ≤ _), (by decide : 17 + 0 ≤ _)⟩)
  dsimp only [Pt.U, Pt.locs, Pt.cells, Pt.slots] at X8 l8 y8 z8 st8 hQ8
  subst l8 y8 z8
  obtain ⟨rfl, N8q, q8⟩ := hQ8
  have N8 := Fr.app N7 N8q
  have e8' : T8.heap = T7.heap := q8
  obtain ⟨cq9, kq9, q9a, q9b, q9c⟩ := isOf hZ e8' (V7.1)
  obtain ⟨_, _, ⟨T9, L9, k9, n9⟩, -, X9, ⟨Lc9, hQ9, l9, y9, z9⟩, st9⟩ := X8.virtualBack hx (y := own_m2) (z := own_m2) hown (mvT hZ (own_w hw 37 rfl)) (mvT hZ (own_w hw 38 rfl)) (notFace_of_selects (args := #[]) (mvT hZ (own_w hw 40 rfl))) (mvT hZ (own_w hw 40 rfl)) (mvT hZ (own_w hw 39 rfl)) (by decide) (backOf (W := 0) (rm7 l Z a0 hw [] ad1 oo b1 b2 b3 b4 (own_rH (own_upd (own_upd (own_upd own_H0 ll (0 : Int32)) ll (1 : Int32)) ll (2 : Int32)) (own_upd (own_upd (own_upd own_zero (0 : Int32) (own_H0 ll)) (1 : Int32) ((own_upd own_H0 ll (0 : Int32)) ll)) (2 : Int32) ((own_upd (own_upd own_H0 ll (0 : Int32)) ll (1 : Int32)) ll)) (own_pP (own_upd (own_upd own_H0 ll (0 : Int32)) ll (1 : Int32)) (own_pP (own_upd own_H0 ll (0 : Int32)) (own_pP own_H0 own_zero ll (0 : Int32)) ll (1 : Int32)) ll (2 : Int32)) ll (0 : Int32)) (own_upd (own_upd (own_upd (own_upd own_zero ll (own_zero ll + (1 : Int32))) ll ((own_upd own_zero ll (own_zero ll + (1 : Int32))) ll + (1 : Int32))) ll ((own_upd (own_upd own_zero ll (own_zero ll + (1 : Int32))) ll ((own_upd own_zero ll (own_zero ll + (1 : Int32))) ll + (1 : Int32))) ll + (1 : Int32))) ll ((own_upd (own_upd (own_upd own_zero ll (own_zero ll + (1 : Int32))) ll ((own_upd own_zero ll (own_zero ll + (1 : Int32))) ll + (1 : Int32))) ll ((own_upd (own_upd own_zero ll (own_zero ll + (1 : Int32))) ll ((own_upd own_zero ll (own_zero ll + (1 : Int32))) ll + (1 : Int32))) ll + (1 : Int32))) ll - (1 : Int32))) (own_rN (own_upd (own_upd (own_upd own_zero (0 : Int32) (own_H0 ll)) (1 : Int32) ((own_upd own_H0 ll (0 : Int32)) ll)) (2 : Int32) ((own_upd (own_upd own_H0 ll (0 : Int32)) ll (1 : Int32)) ll)) (own_pP (own_upd (own_upd own_H0 ll (0 : Int32)) ll (1 : Int32)) (own_pP (own_upd own_H0 ll (0 : Int32)) (own_pP own_H0 own_zero ll (0 : Int32)) ll (1 : Int32)) ll (2 : Int32)) (0 : Int32)) (own_rP (own_upd (own_upd (own_upd own_zero (0 : Int32) (own_H0 ll)) (1 : Int32) ((own_upd own_H0 ll (0 : Int32)) ll)) (2 : Int32) ((own_upd (own_upd own_H0 ll (0 : Int32)) ll (1 : Int32)) ll)) (own_pP (own_upd (own_upd own_H0 ll (0 : Int32)) ll (1 : Int32)) (own_pP (own_upd own_H0 ll (0 : Int32)) (own_pP own_H0 own_zero ll (0 : Int32)) ll (1 : Int32)) ll (2 : Int32)) (0 : Int32)) T7.heap n0 Zs7 V7 (by subst hoo; rcases hl with rfl | rfl <;> decide +kernel) (by subst hoo; rcases hl with rfl | rfl <;> decide +kernel)) hZ (own_w hw 41 rfl) (own_w hw 3 rfl) (by decide) (by decide)) q9a q9c (g := (mkF m 161 #[.val (.int p1), .val (.int p2), .val (.int p3), .val (.int (3 : Int32)), .val (.int (0 : Int32)), .val (.int ll), .val (.int oo), .val (.ref ad1), .val (.int (1 : Int32))] [(.int oo), (.ref ad1)])) rfl (by rw [hml]; rfl) (Steps.refl _) (argsL := [(.int oo)]) (rest := []) (lenOf pd__I_I rfl) rfl (by show 2 * 0 + _ ≤ _; exact Nat.le_of_eq rfl) (hb hby at_161) (fun _ _ => ⟨rfl, e8', (by decide : 6 + 0 ≤ _), (by decide : 17 + 0 ≤ _)⟩)
  dsimp only [Pt.U, Pt.locs, Pt.cells, Pt.slots] at X9 l9 y9 z9 st9 hQ9
  subst l9 y9 z9
  obtain ⟨rfl, N9q, q9⟩ := hQ9
  have N9 := Fr.app N8 N9q
  have e9' : T9.heap = T7.heap := q9
  obtain ⟨fs, hr, hrun, hended, hW, hsame⟩ := X9.leave (v := some (.int (1 : Int32))) (fun h => by rw [Bd.returns] at h; cases h)
  refine ⟨_, _, pre0 _ ?_, hrun, hended, _, _, rfl, ?_, ⟨_, rfl⟩, hW, hsame.mono (by decide) (by decide)⟩
  · show Steps p.tables e below (s₁.setTop (mkF m 0 #[.val (.int p1), .val (.int p2), .val (.int p3), .unset, .unset, .unset, .unset, .unset, .unset] [])) _
    refine XS.iconst X0.here hx rfl (hb hby at_0) ?_
    refine XS.iloadN X0.here hx rfl (hb hby at_1) rfl ?_
    show Steps p.tables e below (s₁.setTop (mkF m 2 #[.val (.int p1), .val (.int p2), .val (.int p3), .unset, .unset, .unset, .unset, .unset, .unset] [(.int p1), (.int (1 : Int32))])) _
    refine X0.ldcInt hx hown (mvT hZ (own_w hw 0 rfl)) (g := (mkF m 2 #[.val (.int p1), .val (.int p2), .val (.int p3), .unset, .unset, .unset, .unset, .unset, .unset] [(.int p1), (.int (1 : Int32))])) rfl (hb hby at_2) _ ?_
    show Steps p.tables e below (s₁.setTop (mkF m 4 #[.val (.int p1), .val (.int p2), .val (.int p3), .unset, .unset, .unset, .unset, .unset, .unset] [(.int (2147483647 : Int32)), (.int p1), (.int (1 : Int32))])) _
    refine XS.iand X0.here hx rfl (hb hby at_4) rfl ?_
    show Steps p.tables e below (s₁.setTop (mkF m 5 #[.val (.int p1), .val (.int p2), .val (.int p3), .unset, .unset, .unset, .unset, .unset, .unset] [(.int (p1 &&& (2147483647 : Int32))), (.int (1 : Int32))])) _
    refine XS.iconst X0.here hx rfl (hb hby at_5) ?_
    show Steps p.tables e below (s₁.setTop (mkF m 6 #[.val (.int p1), .val (.int p2), .val (.int p3), .unset, .unset, .unset, .unset, .unset, .unset] [(.int (3 : Int32)), (.int (p1 &&& (2147483647 : Int32))), (.int (1 : Int32))])) _
    refine iremM X0 hx rfl (hb hby at_6) rfl (by decide) ?_
    show Steps p.tables e below (s₁.setTop (mkF m 7 #[.val (.int p1), .val (.int p2), .val (.int p3), .unset, .unset, .unset, .unset, .unset, .unset] [(.int ((p1 &&& (2147483647 : Int32)) % (3 : Int32))), (.int (1 : Int32))])) _
    refine XS.iadd X0.here hx rfl (hb hby at_7) rfl ?_
    rw [hN]
    show Steps p.tables e below (s₁.setTop (mkF m 8 #[.val (.int p1), .val (.int p2), .val (.int p3), .unset, .unset, .unset, .unset, .unset, .unset] [(.int (3 : Int32))])) _
    refine XS.istoreN X0.here hx rfl (hb hby at_8) rfl (l' := #[.val (.int p1), .val (.int p2), .val (.int p3), .val (.int (3 : Int32)), .unset, .unset, .unset, .unset, .unset]) rfl ?_
    refine XS.iloadN X0.here hx rfl (hb hby at_9) rfl ?_
    show Steps p.tables e below (s₁.setTop (mkF m 10 #[.val (.int p1), .val (.int p2), .val (.int p3), .val (.int (3 : Int32)), .unset, .unset, .unset, .unset, .unset] [(.int p2)])) _
    refine X0.ldcInt hx hown (mvT hZ (own_w hw 0 rfl)) (g := (mkF m 10 #[.val (.int p1), .val (.int p2), .val (.int p3), .val (.int (3 : Int32)), .unset, .unset, .unset, .unset, .unset] [(.int p2)])) rfl (hb hby at_10) _ ?_
    show Steps p.tables e below (s₁.setTop (mkF m 12 #[.val (.int p1), .val (.int p2), .val (.int p3), .val (.int (3 : Int32)), .unset, .unset, .unset, .unset, .unset] [(.int (2147483647 : Int32)), (.int p2)])) _
    refine XS.iand X0.here hx rfl (hb hby at_12) rfl ?_
    show Steps p.tables e below (s₁.setTop (mkF m 13 #[.val (.int p1), .val (.int p2), .val (.int p3), .val (.int (3 : Int32)), .unset, .unset, .unset, .unset, .unset] [(.int (p2 &&& (2147483647 : Int32)))])) _
    refine XS.iloadN X0.here hx rfl (hb hby at_13) rfl ?_
    show Steps p.tables e below (s₁.setTop (mkF m 14 #[.val (.int p1), .val (.int p2), .val (.int p3), .val (.int (3 : Int32)), .unset, .unset, .unset, .unset, .unset] [(.int (3 : Int32)), (.int (p2 &&& (2147483647 : Int32)))])) _
    refine iremM X0 hx rfl (hb hby at_14) rfl (by decide) ?_
    rw [hE]
    show Steps p.tables e below (s₁.setTop (mkF m 15 #[.val (.int p1), .val (.int p2), .val (.int p3), .val (.int (3 : Int32)), .unset, .unset, .unset, .unset, .unset] [(.int (0 : Int32))])) _
    refine XS.istore X0.here hx rfl (hb hby at_15) rfl (l' := #[.val (.int p1), .val (.int p2), .val (.int p3), .val (.int (3 : Int32)), .val (.int (0 : Int32)), .unset, .unset, .unset, .unset]) rfl ?_
    refine XS.iloadN X0.here hx rfl (hb hby at_17) rfl ?_
    refine XS.iconst X0.here hx rfl (hb hby at_18) ?_
    show Steps p.tables e below (s₁.setTop (mkF m 19 #[.val (.int p1), .val (.int p2), .val (.int p3), .val (.int (3 : Int32)), .val (.int (0 : Int32)), .unset, .unset, .unset, .unset] [(.int (1 : Int32)), (.int p3)])) _
    refine XS.iand X0.here hx rfl (hb hby at_19) rfl ?_
    rw [← hll]
    show Steps p.tables e below (s₁.setTop (mkF m 20 #[.val (.int p1), .val (.int p2), .val (.int p3), .val (.int (3 : Int32)), .val (.int (0 : Int32)), .unset, .unset, .unset, .unset] [(.int ll)])) _
    refine XS.istore X0.here hx rfl (hb hby at_20) rfl (l' := #[.val (.int p1), .val (.int p2), .val (.int p3), .val (.int (3 : Int32)), .val (.int (0 : Int32)), .val (.int ll), .unset, .unset, .unset]) rfl ?_
    refine XS.iconst X0.here hx rfl (hb hby at_22) ?_
    refine XS.iload X0.here hx rfl (hb hby at_23) rfl ?_
    show Steps p.tables e below (s₁.setTop (mkF m 25 #[.val (.int p1), .val (.int p2), .val (.int p3), .val (.int (3 : Int32)), .val (.int (0 : Int32)), .val (.int ll), .unset, .unset, .unset] [(.int ll), (.int (1 : Int32))])) _
    refine XS.isub X0.here hx rfl (hb hby at_25) rfl ?_
    rw [← hoo]
    show Steps p.tables e below (s₁.setTop (mkF m 26 #[.val (.int p1), .val (.int p2), .val (.int p3), .val (.int (3 : Int32)), .val (.int (0 : Int32)), .val (.int ll), .unset, .unset, .unset] [(.int oo)])) _
    refine XS.istore X0.here hx rfl (hb hby at_26) rfl (l' := #[.val (.int p1), .val (.int p2), .val (.int p3), .val (.int (3 : Int32)), .val (.int (0 : Int32)), .val (.int ll), .val (.int oo), .unset, .unset]) rfl ?_
    show Steps p.tables e below (s₁.setTop (mkF m 28 #[.val (.int p1), .val (.int p2), .val (.int p3), .val (.int (3 : Int32)), .val (.int (0 : Int32)), .val (.int ll), .val (.int oo), .unset, .unset] [])) _
    refine st1 _ ?_
    show Steps p.tables e below (T1.setTop (mkF m 31 #[.val (.int p1), .val (.int p2), .val (.int p3), .val (.int (3 : Int32)), .val (.int (0 : Int32)), .val (.int ll), .val (.int oo), .unset, .unset] [(.ref ad1)])) _
    refine XS.dup X1.here hx rfl (hb hby at_31) rfl rfl ?_
    refine XS.iconst X1.here hx rfl (hb hby at_32) ?_
    refine XS.iconst X1.here hx rfl (hb hby at_33) ?_
    show Steps p.tables e below (T1.setTop (mkF m 34 #[.val (.int p1), .val (.int p2), .val (.int p3), .val (.int (3 : Int32)), .val (.int (0 : Int32)), .val (.int ll), .val (.int oo), .unset, .unset] [(.int (3 : Int32)), (.int (2 : Int32)), (.ref ad1), (.ref ad1)])) _
    refine st2.trans ?_
    show Steps p.tables e below (T2.setTop (mkF m 37 #[.val (.int p1), .val (.int p2), .val (.int p3), .val (.int (3 : Int32)), .val (.int (0 : Int32)), .val (.int ll), .val (.int oo), .unset, .unset] [(.ref ad1)])) _
    refine XS.astore X2.here hx rfl (hb hby at_37) rfl rfl (l' := #[.val (.int p1), .val (.int p2), .val (.int p3), .val (.int (3 : Int32)), .val (.int (0 : Int32)), .val (.int ll), .val (.int oo), .val (.ref ad1), .unset]) rfl ?_
    refine XS.aload X2.here hx rfl (hb hby at_39) rfl rfl ?_
    refine XS.iload X2.here hx rfl (hb hby at_41) rfl ?_
    refine XS.iconst X2.here hx rfl (hb hby at_43) ?_
    show Steps p.tables e below (T2.setTop (mkF m 44 #[.val (.int p1), .val (.int p2), .val (.int p3), .val (.int (3 : Int32)), .val (.int (0 : Int32)), .val (.int ll), .val (.int oo), .val (.ref ad1), .unset] [(.int (0 : Int32)), (.int ll), (.ref ad1)])) _
    refine st3.trans ?_
    show Steps p.tables e below (T3.setTop (mkF m 47 #[.val (.int p1), .val (.int p2), .val (.int p3), .val (.int (3 : Int32)), .val (.int (0 : Int32)), .val (.int ll), .val (.int oo), .val (.ref ad1), .unset] [])) _
    refine XS.iloadN X3.here hx rfl (hb hby at_47) rfl ?_
    refine XS.iconst X3.here hx rfl (hb hby at_48) ?_
    show Steps p.tables e below (T3.setTop (mkF m 49 #[.val (.int p1), .val (.int p2), .val (.int p3), .val (.int (3 : Int32)), .val (.int (0 : Int32)), .val (.int ll), .val (.int oo), .val (.ref ad1), .unset] [(.int (2 : Int32)), (.int (3 : Int32))])) _
    refine XS.icmpNo X3.here hx rfl (hb hby at_49) rfl (flt (by decide : ¬ ((3 : Int32) < (2 : Int32)))).1 ?_
    show Steps p.tables e below (T3.setTop (mkF m 52 #[.val (.int p1), .val (.int p2), .val (.int p3), .val (.int (3 : Int32)), .val (.int (0 : Int32)), .val (.int ll), .val (.int oo), .val (.ref ad1), .unset] [])) _
    refine XS.aload X3.here hx rfl (hb hby at_52) rfl rfl ?_
    refine XS.iload X3.here hx rfl (hb hby at_54) rfl ?_
    refine XS.iconst X3.here hx rfl (hb hby at_56) ?_
    show Steps p.tables e below (T3.setTop (mkF m 57 #[.val (.int p1), .val (.int p2), .val (.int p3), .val (.int (3 : Int32)), .val (.int (0 : Int32)), .val (.int ll), .val (.int oo), .val (.ref ad1), .unset] [(.int (1 : Int32)), (.int ll), (.ref ad1)])) _
    refine st4.trans ?_
    show Steps p.tables e below (T4.setTop (mkF m 60 #[.val (.int p1), .val (.int p2), .val (.int p3), .val (.int (3 : Int32)), .val (.int (0 : Int32)), .val (.int ll), .val (.int oo), .val (.ref ad1), .unset] [])) _
    refine XS.iloadN X4.here hx rfl (hb hby at_60) rfl ?_
    refine XS.iconst X4.here hx rfl (hb hby at_61) ?_
    show Steps p.tables e below (T4.setTop (mkF m 62 #[.val (.int p1), .val (.int p2), .val (.int p3), .val (.int (3 : Int32)), .val (.int (0 : Int32)), .val (.int ll), .val (.int oo), .val (.ref ad1), .unset] [(.int (3 : Int32)), (.int (3 : Int32))])) _
    refine XS.icmpNo X4.here hx rfl (hb hby at_62) rfl (flt (by decide : ¬ ((3 : Int32) < (3 : Int32)))).1 ?_
    show Steps p.tables e below (T4.setTop (mkF m 65 #[.val (.int p1), .val (.int p2), .val (.int p3), .val (.int (3 : Int32)), .val (.int (0 : Int32)), .val (.int ll), .val (.int oo), .val (.ref ad1), .unset] [])) _
    refine XS.aload X4.here hx rfl (hb hby at_65) rfl rfl ?_
    refine XS.iload X4.here hx rfl (hb hby at_67) rfl ?_
    refine XS.iconst X4.here hx rfl (hb hby at_69) ?_
    show Steps p.tables e below (T4.setTop (mkF m 70 #[.val (.int p1), .val (.int p2), .val (.int p3), .val (.int (3 : Int32)), .val (.int (0 : Int32)), .val (.int ll), .val (.int oo), .val (.ref ad1), .unset] [(.int (2 : Int32)), (.int ll), (.ref ad1)])) _
    refine st5.trans ?_
    show Steps p.tables e below (T5.setTop (mkF m 73 #[.val (.int p1), .val (.int p2), .val (.int p3), .val (.int (3 : Int32)), .val (.int (0 : Int32)), .val (.int ll), .val (.int oo), .val (.ref ad1), .unset] [])) _
    refine XS.aload X5.here hx rfl (hb hby at_73) rfl rfl ?_
    refine XS.iload X5.here hx rfl (hb hby at_75) rfl ?_
    refine XS.iload X5.here hx rfl (hb hby at_77) rfl ?_
    show Steps p.tables e below (T5.setTop (mkF m 79 #[.val (.int p1), .val (.int p2), .val (.int p3), .val (.int (3 : Int32)), .val (.int (0 : Int32)), .val (.int ll), .val (.int oo), .val (.ref ad1), .unset] [(.int (0 : Int32)), (.int ll), (.ref ad1)])) _
    refine st6.trans ?_
    show Steps p.tables e below (T6.setTop (mkF m 82 #[.val (.int p1), .val (.int p2), .val (.int p3), .val (.int (3 : Int32)), .val (.int (0 : Int32)), .val (.int ll), .val (.int oo), .val (.ref ad1), .unset] [])) _
    refine XS.aload X6.here hx rfl (hb hby at_82) rfl rfl ?_
    refine XS.iload X6.here hx rfl (hb hby at_84) rfl ?_
    refine XS.iloadN X6.here hx rfl (hb hby at_86) rfl ?_
    refine XS.iload X6.here hx rfl (hb hby at_87) rfl ?_
    refine XS.iconst X6.here hx rfl (hb hby at_89) ?_
    show Steps p.tables e below (T6.setTop (mkF m 90 #[.val (.int p1), .val (.int p2), .val (.int p3), .val (.int (3 : Int32)), .val (.int (0 : Int32)), .val (.int ll), .val (.int oo), .val (.ref ad1), .unset] [(.int (-1 : Int32)), (.int (0 : Int32)), (.int (3 : Int32)), (.int ll), (.ref ad1)])) _
    refine st7 _ ?_
    show Steps p.tables e below (T7.setTop (mkF m 93 #[.val (.int p1), .val (.int p2), .val (.int p3), .val (.int (3 : Int32)), .val (.int (0 : Int32)), .val (.int ll), .val (.int oo), .val (.ref ad1), .unset] [(.int (1 : Int32))])) _
    refine XS.istore X7.here hx rfl (hb hby at_93) rfl (l' := #[.val (.int p1), .val (.int p2), .val (.int p3), .val (.int (3 : Int32)), .val (.int (0 : Int32)), .val (.int ll), .val (.int oo), .val (.ref ad1), .val (.int (1 : Int32))]) rfl ?_
    refine XS.iload X7.here hx rfl (hb hby at_95) rfl ?_
    refine XS.iconst X7.here hx rfl (hb hby at_97) ?_
    show Steps p.tables e below (T7.setTop (mkF m 98 #[.val (.int p1), .val (.int p2), .val (.int p3), .val (.int (3 : Int32)), .val (.int (0 : Int32)), .val (.int ll), .val (.int oo), .val (.ref ad1), .val (.int (1 : Int32))] [(.int (1 : Int32)), (.int (0 : Int32))])) _
    refine XS.icmpYes X7.here hx rfl (pc0 := 98) (pc' := 141) rfl (hb hby at_98) rfl (tlt (by decide : (0 : Int32) < (1 : Int32))).1 (by decide) (by decide) ?_
    show Steps p.tables e below (T7.setTop (mkF m 141 #[.val (.int p1), .val (.int p2), .val (.int p3), .val (.int (3 : Int32)), .val (.int (0 : Int32)), .val (.int ll), .val (.int oo), .val (.ref ad1), .val (.int (1 : Int32))] [])) _
    refine XS.iload X7.here hx rfl (hb hby at_141) rfl ?_
    show Steps p.tables e below (T7.setTop (mkF m 143 #[.val (.int p1), .val (.int p2), .val (.int p3), .val (.int (3 : Int32)), .val (.int (0 : Int32)), .val (.int ll), .val (.int oo), .val (.ref ad1), .val (.int (1 : Int32))] [(.int (1 : Int32))])) _
    refine XS.ifNo X7.here hx rfl (hb hby at_143) rfl ((if0 _ _).trans (feq (by decide : ¬ ((1 : Int32) = (0 : Int32)))).1) ?_
    show Steps p.tables e below (T7.setTop (mkF m 146 #[.val (.int p1), .val (.int p2), .val (.int p3), .val (.int (3 : Int32)), .val (.int (0 : Int32)), .val (.int ll), .val (.int oo), .val (.ref ad1), .val (.int (1 : Int32))] [])) _
    refine XS.aload X7.here hx rfl (hb hby at_146) rfl rfl ?_
    refine XS.iload X7.here hx rfl (hb hby at_148) rfl ?_
    show Steps p.tables e below (T7.setTop (mkF m 150 #[.val (.int p1), .val (.int p2), .val (.int p3), .val (.int (3 : Int32)), .val (.int (0 : Int32)), .val (.int ll), .val (.int oo), .val (.ref ad1), .val (.int (1 : Int32))] [(.int oo), (.ref ad1)])) _
    refine st8.trans ?_
    show Steps p.tables e below (T8.setTop (mkF m 153 #[.val (.int p1), .val (.int p2), .val (.int p3), .val (.int (3 : Int32)), .val (.int (0 : Int32)), .val (.int ll), .val (.int oo), .val (.ref ad1), .val (.int (1 : Int32))] [(.int ((own_rH (own_upd (own_upd (own_upd own_H0 ll (0 : Int32)) ll (1 : Int32)) ll (2 : Int32)) (own_upd (own_upd (own_upd own_zero (0 : Int32) (own_H0 ll)) (1 : Int32) ((own_upd own_H0 ll (0 : Int32)) ll)) (2 : Int32) ((own_upd (own_upd own_H0 ll (0 : Int32)) ll (1 : Int32)) ll)) (own_pP (own_upd (own_upd own_H0 ll (0 : Int32)) ll (1 : Int32)) (own_pP (own_upd own_H0 ll (0 : Int32)) (own_pP own_H0 own_zero ll (0 : Int32)) ll (1 : Int32)) ll (2 : Int32)) ll (0 : Int32)) oo))])) _
    refine XS.iconst X8.here hx rfl (hb hby at_153) ?_
    show Steps p.tables e below (T8.setTop (mkF m 154 #[.val (.int p1), .val (.int p2), .val (.int p3), .val (.int (3 : Int32)), .val (.int (0 : Int32)), .val (.int ll), .val (.int oo), .val (.ref ad1), .val (.int (1 : Int32))] [(.int (-1 : Int32)), (.int ((own_rH (own_upd (own_upd (own_upd own_H0 ll (0 : Int32)) ll (1 : Int32)) ll (2 : Int32)) (own_upd (own_upd (own_upd own_zero (0 : Int32) (own_H0 ll)) (1 : Int32) ((own_upd own_H0 ll (0 : Int32)) ll)) (2 : Int32) ((own_upd (own_upd own_H0 ll (0 : Int32)) ll (1 : Int32)) ll)) (own_pP (own_upd (own_upd own_H0 ll (0 : Int32)) ll (1 : Int32)) (own_pP (own_upd own_H0 ll (0 : Int32)) (own_pP own_H0 own_zero ll (0 : Int32)) ll (1 : Int32)) ll (2 : Int32)) ll (0 : Int32)) oo))])) _
    refine XS.icmpNo X8.here hx rfl (hb hby at_154) rfl (teq (show ((own_rH (own_upd (own_upd (own_upd own_H0 ll (0 : Int32)) ll (1 : Int32)) ll (2 : Int32)) (own_upd (own_upd (own_upd own_zero (0 : Int32) (own_H0 ll)) (1 : Int32) ((own_upd own_H0 ll (0 : Int32)) ll)) (2 : Int32) ((own_upd (own_upd own_H0 ll (0 : Int32)) ll (1 : Int32)) ll)) (own_pP (own_upd (own_upd own_H0 ll (0 : Int32)) ll (1 : Int32)) (own_pP (own_upd own_H0 ll (0 : Int32)) (own_pP own_H0 own_zero ll (0 : Int32)) ll (1 : Int32)) ll (2 : Int32)) ll (0 : Int32)) oo) = (-1 : Int32) by subst hoo; rcases hl with rfl | rfl <;> decide +kernel)).2 ?_
    show Steps p.tables e below (T8.setTop (mkF m 157 #[.val (.int p1), .val (.int p2), .val (.int p3), .val (.int (3 : Int32)), .val (.int (0 : Int32)), .val (.int ll), .val (.int oo), .val (.ref ad1), .val (.int (1 : Int32))] [])) _
    refine XS.aload X8.here hx rfl (hb hby at_157) rfl rfl ?_
    refine XS.iload X8.here hx rfl (hb hby at_159) rfl ?_
    show Steps p.tables e below (T8.setTop (mkF m 161 #[.val (.int p1), .val (.int p2), .val (.int p3), .val (.int (3 : Int32)), .val (.int (0 : Int32)), .val (.int ll), .val (.int oo), .val (.ref ad1), .val (.int (1 : Int32))] [(.int oo), (.ref ad1)])) _
    refine st9.trans ?_
    show Steps p.tables e below (T9.setTop (mkF m 164 #[.val (.int p1), .val (.int p2), .val (.int p3), .val (.int (3 : Int32)), .val (.int (0 : Int32)), .val (.int ll), .val (.int oo), .val (.ref ad1), .val (.int (1 : Int32))] [(.int ((own_upd (own_upd (own_upd (own_upd own_zero ll (own_zero ll + (1 : Int32))) ll ((own_upd own_zero ll (own_zero ll + (1 : Int32))) ll + (1 : Int32))) ll ((own_upd (own_upd own_zero ll (own_zero ll + (1 : Int32))) ll ((own_upd own_zero ll (own_zero ll + (1 : Int32))) ll + (1 : Int32))) ll + (1 : Int32))) ll ((own_upd (own_upd (own_upd own_zero ll (own_zero ll + (1 : Int32))) ll ((own_upd own_zero ll (own_zero ll + (1 : Int32))) ll + (1 : Int32))) ll ((own_upd (own_upd own_zero ll (own_zero ll + (1 : Int32))) ll ((own_upd own_zero ll (own_zero ll + (1 : Int32))) ll + (1 : Int32))) ll + (1 : Int32))) ll - (1 : Int32))) oo))])) _
    refine XS.ifNo X9.here hx rfl (hb hby at_164) rfl ((if0 _ _).trans (teq (show ((own_upd (own_upd (own_upd (own_upd own_zero ll (own_zero ll + (1 : Int32))) ll ((own_upd own_zero ll (own_zero ll + (1 : Int32))) ll + (1 : Int32))) ll ((own_upd (own_upd own_zero ll (own_zero ll + (1 : Int32))) ll ((own_upd own_zero ll (own_zero ll + (1 : Int32))) ll + (1 : Int32))) ll + (1 : Int32))) ll ((own_upd (own_upd (own_upd own_zero ll (own_zero ll + (1 : Int32))) ll ((own_upd own_zero ll (own_zero ll + (1 : Int32))) ll + (1 : Int32))) ll ((own_upd (own_upd own_zero ll (own_zero ll + (1 : Int32))) ll ((own_upd own_zero ll (own_zero ll + (1 : Int32))) ll + (1 : Int32))) ll + (1 : Int32))) ll - (1 : Int32))) oo) = (0 : Int32) by subst hoo; rcases hl with rfl | rfl <;> decide +kernel)).2) ?_
    show Steps p.tables e below (T9.setTop (mkF m 167 #[.val (.int p1), .val (.int p2), .val (.int p3), .val (.int (3 : Int32)), .val (.int (0 : Int32)), .val (.int ll), .val (.int oo), .val (.ref ad1), .val (.int (1 : Int32))] [])) _
    refine XS.iconst X9.here hx rfl (hb hby at_167) ?_
    refine XS.goto X9.here hx rfl (pc0 := 168) (pc' := 172) rfl (hb hby at_168) (by decide) (by decide) ?_
    refine XS.istore X9.here hx rfl (hb hby at_172) rfl (l' := #[.val (.int p1), .val (.int p2), .val (.int p3), .val (.int (3 : Int32)), .val (.int (0 : Int32)), .val (.int ll), .val (.int oo), .val (.ref ad1), .val (.int (1 : Int32))]) rfl ?_
    refine XS.iload X9.here hx rfl (hb hby at_174) rfl ?_
    show Steps p.tables e below (T9.setTop (mkF m 176 #[.val (.int p1), .val (.int p2), .val (.int p3), .val (.int (3 : Int32)), .val (.int (0 : Int32)), .val (.int ll), .val (.int oo), .val (.ref ad1), .val (.int (1 : Int32))] [(.int (1 : Int32))])) _
    exact retN X9 hx (t := .boolean) Bd.returns (by simp) (hb hby at_176) hr
  · show Q0_3_0 Z p1 p2 p3 h0 n0 _ T9.heap _
    exact ⟨rfl, N9⟩
def Q0_3_1 (Z : State) (p1 p2 p3 : Int32) (h0 : Heap) (n0 : Nat) (v : Option Value) (h : Heap) (L : List Loc) : Prop := v = some (.int (1 : Int32)) ∧ Fr n0 L
set_option maxRecDepth 65536 in
set_option maxHeartbeats 40000000 in
theorem rm0_3_1 (l : Launch) (Z : State) (a0 : Array Value) (hw : ∀ d ∈ tables_1, d.before a0 Z = true) (ws : List Jvm.Cond) (p1 p2 p3 : Int32) (h0 : Heap) (n0 : Nat) (Z0 : n0 ≤ h0.size) (hN : ((1 : Int32) + ((p1 &&& (2147483647 : Int32)) % (3 : Int32))) = (3 : Int32)) (hE : ((p2 &&& (2147483647 : Int32)) % (3 : Int32)) = (1 : Int32)) :
    MetFree l x (head1 (Jvm.Cond.code x code maxLocals ret :: ws) room_1) (fun a U => a = #[(.int p1), (.int p2), (.int p3)] ∧ Z.Warmed39 U.vm ∧ U.heap = h0) (fun _ _ _ _ _ => True) (fun _ U o U' => ∃ v L, o = .returned v ∧ Q0_3_1 Z p1 p2 p3 h0 n0 v U'.heap L ∧ FrameEnd U o U' L room_1.cells room_1.slots) := by
  refine MetFree.of_bodySF (plainFor_of_name pn_0) hisR ?_
  intro p e s m args below meth c s₁ Bd hml0 hP hK
  obtain ⟨rfl, hZ, hh⟩ := hP
  have hx := Bd.exec
  have hby := Bd.bytes
  have hml : c.maxLocals = 9 := hml0
  have hown : s.vm.findClass "com/example/process_stepper/processstepper/equivalence/IntListsRemovePinLaw" = some m.cls := findClass_of_methodNamed Bd.named
  have hnm := (name_of_methodNamed Bd.named Bd.method).1
  have X0 : Stand p l e room_1 s m #[(.int p1), (.int p2), (.int p3)] below meth c s₁ [] 0 0 := Stand.of_body Bd
  have e0 : s₁.heap = h0 := by rw [← hh, Bd.state]; rfl
  have N0 := Fr.nil n0
  have pre0 : ∀ t, Steps p.tables e below (s₁.setTop (mkF m 0 #[.val (.int p1), .val (.int p2), .val (.int p3), .unset, .unset, .unset, .unset, .unset, .unset] [])) t → Steps p.tables e below (s₁.setTop (entryFrame m #[(.int p1), (.int p2), (.int p3)] maxLocals)) t := fun t k => castTop (ef_0 m p1 p2 p3) k
  obtain ⟨ll, hll⟩ : ∃ z : Int32, z = (p3 &&& (1 : Int32)) := ⟨_, rfl⟩
  have hl : ll = (0 : Int32) ∨ ll = (1 : Int32) := by rw [hll]; exact own_bit p3
  obtain ⟨oo, hoo⟩ : ∃ z : Int32, z = ((1 : Int32) - ll) := ⟨_, rfl⟩
  obtain ⟨T1, h1, X1, e1, E1, A1, D1, -, st1⟩ := newO X0 hx hZ hown (own_w hw 1 rfl) (own_w hw 2 rfl) (own_w hw 3 rfl) e0 (g := (mkF m 28 #[.val (.int p1), .val (.int p2), .val (.int p3), .val (.int (3 : Int32)), .val (.int (1 : Int32)), .val (.int ll), .val (.int oo), .unset, .unset] [])) rfl (hb hby at_28) (by decide) (by decide)
  obtain ⟨ad1, g1⟩ : ∃ z, z = h0.size := ⟨_, rfl⟩
  rw [← g1] at A1 D1 st1
  have gn_ad1 : n0 ≤ ad1 := Nat.le_trans Z0 (Nat.le_of_eq g1.symm)
  have sz_ad1 : h0.size ≤ ad1 := Nat.le_trans (Keep.refl h0 []).1 (Nat.le_of_eq g1.symm)
  have E_ad1_1 : Exa Z h1 ad1 "com/example/process_stepper/processstepper/equivalence/IntLists" := A1
  have F_heads_ad1_1 : Fld Z h1 ad1 "com/example/process_stepper/processstepper/equivalence/IntLists" "heads" "[I" .null := D1 (Or.inl (own_w hw 12 rfl)) (ty := (.array .int)) (by decide)
  have F_sizes_ad1_1 : Fld Z h1 ad1 "com/example/process_stepper/processstepper/equivalence/IntLists" "sizes" "[I" .null := D1 (Or.inl (own_w hw 18 rfl)) (ty := (.array .int)) (by decide)
  have F_next_ad1_1 : Fld Z h1 ad1 "com/example/process_stepper/processstepper/equivalence/IntLists" "next" "[I" .null := D1 (Or.inl (own_w hw 20 rfl)) (ty := (.array .int)) (by decide)
  have F_previous_ad1_1 : Fld Z h1 ad1 "com/example/process_stepper/processstepper/equivalence/IntLists" "previous" "[I" .null := D1 (Or.inl (own_w hw 22 rfl)) (ty := (.array .int)) (by decide)
  have K1 : Keep h0 h1 [] := (Keep.refl h0 []).ext E1
  have Zs1 : n0 ≤ h1.size := Nat.le_trans Z0 E1.1
  obtain ⟨_, _, ⟨T2, L2, k2, n2⟩, -, X2, ⟨Lc2, hQ2, l2, y2, z2⟩, st2⟩ := X1.specialBack hx (y := own_m5) rfl hown (mvT hZ (own_w hw 4 rfl)) (mvT hZ (own_w hw 5 rfl)) (mvT hZ (own_w hw 6 rfl)) (by decide) (backOf (W := 1) (rm1 l Z a0 hw [] ad1 h1 n0 Zs1 E_ad1_1 F_heads_ad1_1 F_sizes_ad1_1 F_next_ad1_1 F_previous_ad1_1 gn_ad1) hZ (own_w hw 6 rfl) (own_w hw 3 rfl) (by decide) (by decide)) (g := (mkF m 34 #[.val (.int p1), .val (.int p2), .val (.int p3), .val (.int (3 : Int32)), .val (.int (1 : Int32)), .val (.int ll), .val (.int oo), .unset, .unset] [(.int (3 : Int32)), (.int (2 : Int32)), (.ref ad1), (.ref ad1)])) rfl (by rw [hml]; rfl) (Steps.refl _) (a := ad1) (argsL := [(.int (2 : Int32)), (.int (3 : Int32))]) (rest := [(.ref ad1)]) (lenOf pd__II_V rfl) rfl (by show 2 * 0 + _ ≤ _; exact Nat.le_of_eq rfl) (hb hby at_34) (fun _ _ => ⟨rfl, e1, (by decide : 1 + 4 ≤ _), (by decide : 4 + 10 ≤ _)⟩)
  dsimp only [Pt.U, Pt.locs, Pt.cells, Pt.slots] at X2 l2 y2 z2 st2 hQ2
  subst l2 y2 z2
  obtain ⟨rfl, N2q, b1, b2, b3, b4, K2q, -, V2⟩ := hQ2
  have N2 := Fr.app N0 N2q
  have Zs2 : n0 ≤ T2.heap.size := Nat.le_trans Zs1 K2q.1
  obtain ⟨cq3, kq3, q3a, q3b, q3c⟩ := isOf hZ rfl (V2.1)
  obtain ⟨_, _, ⟨T3, L3, k3, n3⟩, -, X3, ⟨Lc3, hQ3, l3, y3, z3⟩, st3⟩ := X2.virtualBack hx (y := own_m6) (z := own_m6) hown (mvT hZ (own_w hw 23 rfl)) (mvT hZ (own_w hw 24 rfl)) (notFace_of_selects (args := #[]) (mvT hZ (own_w hw 26 rfl))) (mvT hZ (own_w hw 26 rfl)) (mvT hZ (own_w hw 25 rfl)) (by decide) (backOf (W := 0) (rm4 l Z a0 hw [] ad1 ll (0 : Int32) b1 b2 b3 b4 own_H0 own_zero own_zero own_zero T2.heap n0 Zs2 V2 (by rcases hl with rfl | rfl <;> decide +kernel) (by rcases hl with rfl | rfl <;> decide +kernel) (by decide) (by decide) (by unfold own_in; rcases hl with rfl | rfl <;> decide +kernel)) hZ (own_w hw 27 rfl) (own_w hw 3 rfl) (by decide) (by decide)) q3a q3c (g := (mkF m 44 #[.val (.int p1), .val (.int p2), .val (.int p3), .val (.int (3 : Int32)), .val (.int (1 : Int32)), .val (.int ll), .val (.int oo), .val (.ref ad1), .unset] [(.int (0 : Int32)), (.int ll), (.ref ad1)])) rfl (by rw [hml]; rfl) (Steps.refl _) (argsL := [(.int ll), (.int (0 : Int32))]) (rest := []) (lenOf pd__II_V rfl) rfl (by show 2 * 0 + _ ≤ _; exact Nat.le_of_eq rfl) (hb hby at_44) (fun _ _ => ⟨rfl, rfl, (by decide : 5 + 0 ≤ _), (by decide : 14 + 0 ≤ _)⟩)
  dsimp only [Pt.U, Pt.locs, Pt.cells, Pt.slots] at X3 l3 y3 z3 st3 hQ3
  subst l3 y3 z3
  obtain ⟨rfl, N3q, K3q, V3⟩ := hQ3
  have N3 := Fr.app N2 N3q
  have Zs3 : n0 ≤ T3.heap.size := Nat.le_trans Zs2 K3q.1
  obtain ⟨cq4, kq4, q4a, q4b, q4c⟩ := isOf hZ rfl (V3.1)
  obtain ⟨_, _, ⟨T4, L4, k4, n4⟩, -, X4, ⟨Lc4, hQ4, l4, y4, z4⟩, st4⟩ := X3.virtualBack hx (y := own_m6) (z := own_m6) hown (mvT hZ (own_w hw 23 rfl)) (mvT hZ (own_w hw 24 rfl)) (notFace_of_selects (args := #[]) (mvT hZ (own_w hw 26 rfl))) (mvT hZ (own_w hw 26 rfl)) (mvT hZ (own_w hw 25 rfl)) (by decide) (backOf (W := 0) (rm4 l Z a0 hw [] ad1 ll (1 : Int32) b1 b2 b3 b4 (own_upd own_H0 ll (0 : Int32)) (own_upd own_zero ll (own_zero ll + (1 : Int32))) (own_upd own_zero (0 : Int32) (own_H0 ll)) (own_pP own_H0 own_zero ll (0 : Int32)) T3.heap n0 Zs3 V3 (by rcases hl with rfl | rfl <;> decide +kernel) (by rcases hl with rfl | rfl <;> decide +kernel) (by decide) (by decide) (by unfold own_in; rcases hl with rfl | rfl <;> decide +kernel)) hZ (own_w hw 27 rfl) (own_w hw 3 rfl) (by decide) (by decide)) q4a q4c (g := (mkF m 57 #[.val (.int p1), .val (.int p2), .val (.int p3), .val (.int (3 : Int32)), .val (.int (1 : Int32)), .val (.int ll), .val (.int oo), .val (.ref ad1), .unset] [(.int (1 : Int32)), (.int ll), (.ref ad1)])) rfl (by rw [hml]; rfl) (Steps.refl _) (argsL := [(.int ll), (.int (1 : Int32))]) (rest := []) (lenOf pd__II_V rfl) rfl (by show 2 * 0 + _ ≤ _; exact Nat.le_of_eq rfl) (hb hby at_57) (fun _ _ => ⟨rfl, rfl, (by decide : 5 + 0 ≤ _), (by decide : 14 + 0 ≤ _)⟩)
  dsimp only [Pt.U, Pt.locs, Pt.cells, Pt.slots] at X4 l4 y4 z4 st4 hQ4
  subst l4 y4 z4
  obtain ⟨rfl, N4q, K4q, V4⟩ := hQ4
  have N4 := Fr.app N3 N4q
  have Zs4 : n0 ≤ T4.heap.size := Nat.le_trans Zs3 K4q.1
  obtain ⟨cq5, kq5, q5a, q5b, q5c⟩ := isOf hZ rfl (V4.1)
  obtain ⟨_, _, ⟨T5, L5, k5, n5⟩, -, X5, ⟨Lc5, hQ5, l5, y5, z5⟩, st5⟩ := X4.virtualBack hx (y := own_m6) (z := own_m6) hown (mvT hZ (own_w hw 23 rfl)) (mvT hZ (own_w hw 24 rfl)) (notFace_of_selects (args := #[]) (mvT hZ (own_w hw 26 rfl))) (mvT hZ (own_w hw 26 rfl)) (mvT hZ (own_w hw 25 rfl)) (by decide) (backOf (W := 0) (rm4 l Z a0 hw [] ad1 ll (2 : Int32) b1 b2 b3 b4 (own_upd (own_upd own_H0 ll (0 : Int32)) ll (1 : Int32)) (own_upd (own_upd own_zero ll (own_zero ll + (1 : Int32))) ll ((own_upd own_zero ll (own_zero ll + (1 : Int32))) ll + (1 : Int32))) (own_upd (own_upd own_zero (0 : Int32) (own_H0 ll)) (1 : Int32) ((own_upd own_H0 ll (0 : Int32)) ll)) (own_pP (own_upd own_H0 ll (0 : Int32)) (own_pP own_H0 own_zero ll (0 : Int32)) ll (1 : Int32)) T4.heap n0 Zs4 V4 (by rcases hl with rfl | rfl <;> decide +kernel) (by rcases hl with rfl | rfl <;> decide +kernel) (by decide) (by decide) (by unfold own_in; rcases hl with rfl | rfl <;> decide +kernel)) hZ (own_w hw 27 rfl) (own_w hw 3 rfl) (by decide) (by decide)) q5a q5c (g := (mkF m 70 #[.val (.int p1), .val (.int p2), .val (.int p3), .val (.int (3 : Int32)), .val (.int (1 : Int32)), .val (.int ll), .val (.int oo), .val (.ref ad1), .unset] [(.int (2 : Int32)), (.int ll), (.ref ad1)])) rfl (by rw [hml]; rfl) (Steps.refl _) (argsL := [(.int ll), (.int (2 : Int32))]) (rest := []) (lenOf pd__II_V rfl) rfl (by show 2 * 0 + _ ≤ _; exact Nat.le_of_eq rfl) (hb hby at_70) (fun _ _ => ⟨rfl, rfl, (by decide : 5 + 0 ≤ _), (by decide : 14 + 0 ≤ _)⟩)
  dsimp only [Pt.U, Pt.locs, Pt.cells, Pt.slots] at X5 l5 y5 z5 st5 hQ5
  subst l5 y5 z5
  obtain ⟨rfl, N5q, K5q, V5⟩ := hQ5
  have N5 := Fr.app N4 N5q
  have Zs5 : n0 ≤ T5.heap.size := Nat.le_trans Zs4 K5q.1
  obtain ⟨cq6, kq6, q6a, q6b, q6c⟩ := isOf hZ rfl (V5.1)
  obtain ⟨_, _, ⟨T6, L6, k6, n6⟩, -, X6, ⟨Lc6, hQ6, l6, y6, z6⟩, st6⟩ := X5.virtualBack hx (y := own_m7) (z := own_m7) hown (mvT hZ (own_w hw 28 rfl)) (mvT hZ (own_w hw 29 rfl)) (notFace_of_selects (args := #[]) (mvT hZ (own_w hw 31 rfl))) (mvT hZ (own_w hw 31 rfl)) (mvT hZ (own_w hw 30 rfl)) (by decide) (backOf (W := 0) (rm5 l Z a0 hw [] ad1 ll (1 : Int32) b1 b2 b3 b4 (own_upd (own_upd (own_upd own_H0 ll (0 : Int32)) ll (1 : Int32)) ll (2 : Int32)) (own_upd (own_upd (own_upd own_zero ll (own_zero ll + (1 : Int32))) ll ((own_upd own_zero ll (own_zero ll + (1 : Int32))) ll + (1 : Int32))) ll ((own_upd (own_upd own_zero ll (own_zero ll + (1 : Int32))) ll ((own_upd own_zero ll (own_zero ll + (1 : Int32))) ll + (1 : Int32))) ll + (1 : Int32))) (own_upd (own_upd (own_upd own_zero (0 : Int32) (own_H0 ll)) (1 : Int32) ((own_upd own_H0 ll (0 : Int32)) ll)) (2 : Int32) ((own_upd (own_upd own_H0 ll (0 : Int32)) ll (1 : Int32)) ll)) (own_pP (own_upd (own_upd own_H0 ll (0 : Int32)) ll (1 : Int32)) (own_pP (own_upd own_H0 ll (0 : Int32)) (own_pP own_H0 own_zero ll (0 : Int32)) ll (1 : Int32)) ll (2 : Int32)) T5.heap n0 Zs5 V5 (by rcases hl with rfl | rfl <;> decide +kernel) (by rcases hl with rfl | rfl <;> decide +kernel) (by decide) (by decide) (by unfold own_in; rcases hl with rfl | rfl <;> decide +kernel) (by unfold own_in; rcases hl with rfl | rfl <;> decide +kernel)) hZ (own_w hw 32 rfl) (own_w hw 3 rfl) (by decide) (by decide)) q6a q6c (g := (mkF m 79 #[.val (.int p1), .val (.int p2), .val (.int p3), .val (.int (3 : Int32)), .val (.int (1 : Int32)), .val (.int ll), .val (.int oo), .val (.ref ad1), .unset] [(.int (1 : Int32)), (.int ll), (.ref ad1)])) rfl (by rw [hml]; rfl) (Steps.refl _) (argsL := [(.int ll), (.int (1 : Int32))]) (rest := []) (lenOf pd__II_V rfl) rfl (by show 2 * 0 + _ ≤ _; exact Nat.le_of_eq rfl) (hb hby at_79) (fun _ _ => ⟨rfl, rfl, (by decide : 5 + 0 ≤ _), (by decide : 14 + 0 ≤ _)⟩)
  dsimp only [Pt.U, Pt.locs, Pt.cells, Pt.slots] at X6 l6 y6 z6 st6 hQ6
  subst l6 y6 z6
  obtain ⟨rfl, N6q, K6q, V6⟩ := hQ6
  have N6 := Fr.app N5 N6q
  have Zs6 : n0 ≤ T6.heap.size := Nat.le_trans Zs5 K6q.1
  obtain ⟨_, _, ⟨T7, L7, k7, n7⟩, -, X7, ⟨Lc7, hQ7, l7, y7, z7⟩, st7⟩ := Jvm.LawKit.callS X6 hx (y := own_m8) hown (mvT hZ (own_w hw 33 rfl)) (mvT hZ (own_w hw 34 rfl)) (mvT hZ (own_w hw 35 rfl)) (mvT hZ (own_w hw 36 rfl)) (by decide) (backOf (W := 0) (rm6_3_1_m1 l Z a0 hw [] ad1 ll b1 b2 b3 b4 (own_rH (own_upd (own_upd (own_upd own_H0 ll (0 : Int32)) ll (1 : Int32)) ll (2 : Int32)) (own_upd (own_upd (own_upd own_zero (0 : Int32) (own_H0 ll)) (1 : Int32) ((own_upd own_H0 ll (0 : Int32)) ll)) (2 : Int32) ((own_upd (own_upd own_H0 ll (0 : Int32)) ll (1 : Int32)) ll)) (own_pP (own_upd (own_upd own_H0 ll (0 : Int32)) ll (1 : Int32)) (own_pP (own_upd own_H0 ll (0 : Int32)) (own_pP own_H0 own_zero ll (0 : Int32)) ll (1 : Int32)) ll (2 : Int32)) ll (1 : Int32)) (own_upd (own_upd (own_upd (own_upd own_zero ll (own_zero ll + (1 : Int32))) ll ((own_upd own_zero ll (own_zero ll + (1 : Int32))) ll + (1 : Int32))) ll ((own_upd (own_upd own_zero ll (own_zero ll + (1 : Int32))) ll ((own_upd own_zero ll (own_zero ll + (1 : Int32))) ll + (1 : Int32))) ll + (1 : Int32))) ll ((own_upd (own_upd (own_upd own_zero ll (own_zero ll + (1 : Int32))) ll ((own_upd own_zero ll (own_zero ll + (1 : Int32))) ll + (1 : Int32))) ll ((own_upd (own_upd own_zero ll (own_zero ll + (1 : Int32))) ll ((own_upd own_zero ll (own_zero ll + (1 : Int32))) ll + (1 : Int32))) ll + (1 : Int32))) ll - (1 : Int32))) (own_rN (own_upd (own_upd (own_upd own_zero (0 : Int32) (own_H0 ll)) (1 : Int32) ((own_upd own_H0 ll (0 : Int32)) ll)) (2 : Int32) ((own_upd (own_upd own_H0 ll (0 : Int32)) ll (1 : Int32)) ll)) (own_pP (own_upd (own_upd own_H0 ll (0 : Int32)) ll (1 : Int32)) (own_pP (own_upd own_H0 ll (0 : Int32)) (own_pP own_H0 own_zero ll (0 : Int32)) ll (1 : Int32)) ll (2 : Int32)) (1 : Int32)) (own_rP (own_upd (own_upd (own_upd own_zero (0 : Int32) (own_H0 ll)) (1 : Int32) ((own_upd own_H0 ll (0 : Int32)) ll)) (2 : Int32) ((own_upd (own_upd own_H0 ll (0 : Int32)) ll (1 : Int32)) ll)) (own_pP (own_upd (own_upd own_H0 ll (0 : Int32)) ll (1 : Int32)) (own_pP (own_upd own_H0 ll (0 : Int32)) (own_pP own_H0 own_zero ll (0 : Int32)) ll (1 : Int32)) ll (2 : Int32)) (1 : Int32)) T6.heap n0 Zs6 V6 (by rcases hl with rfl | rfl <;> decide +kernel) (by rcases hl with rfl | rfl <;> decide +kernel) (by rcases hl with rfl | rfl <;> decide +kernel) (by rcases hl with rfl | rfl <;> decide +kernel) (by rcases hl with rfl | rfl <;> decide +kernel) (by rcases hl with rfl | rfl <;> decide +kernel)) hZ (own_w hw 36 rfl) (own_w hw 35 rfl) (by decide) (by decide)) (g := (mkF m 90 #[.val (.int p1), .val (.int p2), .val (.int p3), .val (.int (3 : Int32)), .val (.int (1 : Int32)), .val (.int ll), .val (.int oo), .val (.ref ad1), .unset] [(.int (-1 : Int32)), (.int (1 : Int32)), (.int (3 : Int32)), (.int ll), (.ref ad1)])) rfl (by rw [hml]; rfl) (argsL := [(.ref ad1), (.int ll), (.int (3 : Int32)), (.int (1 : Int32)), (.int (-1 : Int32))]) (rest := []) (lenOf pd__Lcom_example_process_stepper_processstepper_equivalence_IntLists_IIII_Z rfl) rfl (by show 2 * 0 + _ ≤ _; exact Nat.le_of_eq rfl) (hb hby at_90) (fun _ _ => ⟨rfl, rfl, (by decide : 5 + 1 ≤ _), (by decide : 14 + 3 ≤ _)⟩)
  dsimp only [Pt.U, Pt.locs, Pt.cells, Pt.slots] at X7 l7 y7 z7 st7 hQ7
  subst l7 y7 z7
  obtain ⟨rfl, N7q, K7q⟩ := hQ7
  have N7 := Fr.app N6 N7q
  have V7 : own_L Z n0 T7.heap ad1 b1 b2 b3 b4 (own_rH (own_upd (own_upd (own_upd own_H0 ll (0 : Int32)) ll (1 : Int32)) ll (2 : Int32)) (own_upd (own_upd (own_upd own_zero (0 : Int32) (own_H0 ll)) (1 : Int32) ((own_upd own_H0 ll (0 : Int32)) ll)) (2 : Int32) ((own_upd (own_upd own_H0 ll (0 : Int32)) ll (1 : Int32)) ll)) (own_pP (own_upd (own_upd own_H0 ll (0 : Int32)) ll (1 : Int32)) (own_pP (own_upd own_H0 ll (0 : Int32)) (own_pP own_H0 own_zero ll (0 : Int32)) ll (1 : Int32)) ll (2 : Int32)) ll (1 : Int32)) (own_upd (own_upd (own_upd (own_upd own_zero ll (own_zero ll + (1 : Int32))) ll ((own_upd own_zero ll (own_zero ll + (1 : Int32))) ll + (1 : Int32))) ll ((own_upd (own_upd own_zero ll (own_zero ll + (1 : Int32))) ll ((own_upd own_zero ll (own_zero ll + (1 : Int32))) ll + (1 : Int32))) ll + (1 : Int32))) ll ((own_upd (own_upd (own_upd own_zero ll (own_zero ll + (1 : Int32))) ll ((own_upd own_zero ll (own_zero ll + (1 : Int32))) ll + (1 : Int32))) ll ((own_upd (own_upd own_zero ll (own_zero ll + (1 : Int32))) ll ((own_upd own_zero ll (own_zero ll + (1 : Int32))) ll + (1 : Int32))) ll + (1 : Int32))) ll - (1 : Int32))) (own_rN (own_upd (own_upd (own_upd own_zero (0 : Int32) (own_H0 ll)) (1 : Int32) ((own_upd own_H0 ll (0 : Int32)) ll)) (2 : Int32) ((own_upd (own_upd own_H0 ll (0 : Int32)) ll (1 : Int32)) ll)) (own_pP (own_upd (own_upd own_H0 ll (0 : Int32)) ll (1 : Int32)) (own_pP (own_upd own_H0 ll (0 : Int32)) (own_pP own_H0 own_zero ll (0 : Int32)) ll (1 : Int32)) ll (2 : Int32)) (1 : Int32)) (own_rP (own_upd (own_upd (own_upd own_zero (0 : Int32) (own_H0 ll)) (1 : Int32) ((own_upd own_H0 ll (0 : Int32)) ll)) (2 : Int32) ((own_upd (own_upd own_H0 ll (0 : Int32)) ll (1 : Int32)) ll)) (own_pP (own_upd (own_upd own_H0 ll (0 : Int32)) ll (1 : Int32)) (own_pP (own_upd own_H0 ll (0 : Int32)) (own_pP own_H0 own_zero ll (0 : Int32)) ll (1 : Int32)) ll (2 : Int32)) (1 : Int32)) := own_L_keep V6 K7q nin0 nin0 nin0 nin0 nin0
  have Zs7 : n0 ≤ T7.heap.size := Nat.le_trans Zs6 K7q.1
  obtain ⟨cq8, kq8, q8a, q8b, q8c⟩ := isOf hZ rfl (V7.1)
  obtain ⟨_, _, ⟨T8, L8, k8, n8⟩, -, X8, ⟨Lc8, hQ8, l8, y8, z8⟩, st8⟩ := X7.virtualBack hx (y := own_m7) (z := own_m7) hown (mvT hZ (own_w hw 28 rfl)) (mvT hZ (own_w hw 29 rfl)) (notFace_of_selects (args := #[]) (mvT hZ (own_w hw 31 rfl))) (mvT hZ (own_w hw 31 rfl)) (mvT hZ (own_w hw 30 rfl)) (by decide) (backOf (W := 0) (rm5 l Z a0 hw [] ad1 ll (0 : Int32) b1 b2 b3 b4 (own_rH (own_upd (own_upd (own_upd own_H0 ll (0 : Int32)) ll (1 : Int32)) ll (2 : Int32)) (own_upd (own_upd (own_upd own_zero (0 : Int32) (own_H0 ll)) (1 : Int32) ((own_upd own_H0 ll (0 : Int32)) ll)) (2 : Int32) ((own_upd (own_upd own_H0 ll (0 : Int32)) ll (1 : Int32)) ll)) (own_pP (own_upd (own_upd own_H0 ll (0 : Int32)) ll (1 : Int32)) (own_pP (own_upd own_H0 ll (0 : Int32)) (own_pP own_H0 own_zero ll (0 : Int32)) ll (1 : Int32)) ll (2 : Int32)) ll (1 : Int32)) (own_upd (own_upd (own_upd (own_upd own_zero ll (own_zero ll + (1 : Int32))) ll ((own_upd own_zero ll (own_zero ll + (1 : Int32))) ll + (1 : Int32))) ll ((own_upd (own_upd own_zero ll (own_zero ll + (1 : Int32))) ll ((own_upd own_zero ll (own_zero ll + (1 : Int32))) ll + (1 : Int32))) ll + (1 : Int32))) ll ((own_upd (own_upd (own_upd own_zero ll (own_zero ll + (1 : Int32))) ll ((own_upd own_zero ll (own_zero ll + (1 : Int32))) ll + (1 : Int32))) ll ((own_upd (own_upd own_zero ll (own_zero ll + (1 : Int32))) ll ((own_upd own_zero ll (own_zero ll + (1 : Int32))) ll + (1 : Int32))) ll + (1 : Int32))) ll - (1 : Int32))) (own_rN (own_upd (own_upd (own_upd own_zero (0 : Int32) (own_H0 ll)) (1 : Int32) ((own_upd own_H0 ll (0 : Int32)) ll)) (2 : Int32) ((own_upd (own_upd own_H0 ll (0 : Int32)) ll (1 : Int32)) ll)) (own_pP (own_upd (own_upd own_H0 ll (0 : Int32)) ll (1 : Int32)) (own_pP (own_upd own_H0 ll (0 : Int32)) (own_pP own_H0 own_zero ll (0 : Int32)) ll (1 : Int32)) ll (2 : Int32)) (1 : Int32)) (own_rP (own_upd (own_upd (own_upd own_zero (0 : Int32) (own_H0 ll)) (1 : Int32) ((own_upd own_H0 ll (0 : Int32)) ll)) (2 : Int32) ((own_upd (own_upd own_H0 ll (0 : Int32)) ll (1 : Int32)) ll)) (own_pP (own_upd (own_upd own_H0 ll (0 : Int32)) ll (1 : Int32)) (own_pP (own_upd own_H0 ll (0 : Int32)) (own_pP own_H0 own_zero ll (0 : Int32)) ll (1 : Int32)) ll (2 : Int32)) (1 : Int32)) T7.heap n0 Zs7 V7 (by rcases hl with rfl | rfl <;> decide +kernel) (by rcases hl with rfl | rfl <;> decide +kernel) (by decide) (by decide) (by unfold own_in; rcases hl with rfl | rfl <;> decide +kernel) (by unfold own_in; rcases hl with rfl | rfl <;> decide +kernel)) hZ (own_w hw 32 rfl) (own_w hw 3 rfl) (by decide) (by decide)) q8a q8c (g := (mkF m 109 #[.val (.int p1), .val (.int p2), .val (.int p3), .val (.int (3 : Int32)), .val (.int (1 : Int32)), .val (.int ll), .val (.int oo), .val (.ref ad1), .val (.int (1 : Int32))] [(.int (0 : Int32)), (.int ll), (.ref ad1)])) rfl (by rw [hml]; rfl) (Steps.refl _) (argsL := [(.int ll), (.int (0 : Int32))]) (rest := []) (lenOf pd__II_V rfl) rfl (by show 2 * 0 + _ ≤ _; exact Nat.le_of_eq rfl) (hb hby at_109) (fun _ _ => ⟨rfl, rfl, (by decide : 6 + 0 ≤ _), (by decide : 17 + 0 ≤ _)⟩)
  dsimp only [Pt.U, Pt.locs, Pt.cells, Pt.slots] at X8 l8 y8 z8 st8 hQ8
  subst l8 y8 z8
  obtain ⟨rfl, N8q, K8q, V8⟩ := hQ8
  have N8 := Fr.app N7 N8q
  have Zs8 : n0 ≤ T8.heap.size := Nat.le_trans Zs7 K8q.1
  obtain ⟨_, _, ⟨T9, L9, k9, n9⟩, -, X9, ⟨Lc9, hQ9, l9, y9, z9⟩, st9⟩ := Jvm.LawKit.callS X8 hx (y := own_m8) hown (mvT hZ (own_w hw 33 rfl)) (mvT hZ (own_w hw 34 rfl)) (mvT hZ (own_w hw 35 rfl)) (mvT hZ (own_w hw 36 rfl)) (by decide) (backOf (W := 0) (rm6_3_1_0 l Z a0 hw [] ad1 ll b1 b2 b3 b4 (own_rH (own_rH (own_upd (own_upd (own_upd own_H0 ll (0 : Int32)) ll (1 : Int32)) ll (2 : Int32)) (own_upd (own_upd (own_upd own_zero (0 : Int32) (own_H0 ll)) (1 : Int32) ((own_upd own_H0 ll (0 : Int32)) ll)) (2 : Int32) ((own_upd (own_upd own_H0 ll (0 : Int32)) ll (1 : Int32)) ll)) (own_pP (own_upd (own_upd own_H0 ll (0 : Int32)) ll (1 : Int32)) (own_pP (own_upd own_H0 ll (0 : Int32)) (own_pP own_H0 own_zero ll (0 : Int32)) ll (1 : Int32)) ll (2 : Int32)) ll (1 : Int32)) (own_rN (own_upd (own_upd (own_upd own_zero (0 : Int32) (own_H0 ll)) (1 : Int32) ((own_upd own_H0 ll (0 : Int32)) ll)) (2 : Int32) ((own_upd (own_upd own_H0 ll (0 : Int32)) ll (1 : Int32)) ll)) (own_pP (own_upd (own_upd own_H0 ll (0 : Int32)) ll (1 : Int32)) (own_pP (own_upd own_H0 ll (0 : Int32)) (own_pP own_H0 own_zero ll (0 : Int32)) ll (1 : Int32)) ll (2 : Int32)) (1 : Int32)) (own_rP (own_upd (own_upd (own_upd own_zero (0 : Int32) (own_H0 ll)) (1 : Int32) ((own_upd own_H0 ll (0 : Int32)) ll)) (2 : Int32) ((own_upd (own_upd own_H0 ll (0 : Int32)) ll (1 : Int32)) ll)) (own_pP (own_upd (own_upd own_H0 ll (0 : Int32)) ll (1 : Int32)) (own_pP (own_upd own_H0 ll (0 : Int32)) (own_pP own_H0 own_zero ll (0 : Int32)) ll (1 : Int32)) ll (2 : Int32)) (1 : Int32)) ll (0 : Int32)) (own_upd (own_upd (own_upd (own_upd (own_upd own_zero ll (own_zero ll + (1 : Int32))) ll ((own_upd own_zero ll (own_zero ll + (1 : Int32))) ll + (1 : Int32))) ll ((own_upd (own_upd own_zero ll (own_zero ll + (1 : Int32))) ll ((own_upd own_zero ll (own_zero ll + (1 : Int32))) ll + (1 : Int32))) ll + (1 : Int32))) ll ((own_upd (own_upd (own_upd own_zero ll (own_zero ll + (1 : Int32))) ll ((own_upd own_zero ll (own_zero ll + (1 : Int32))) ll + (1 : Int32))) ll ((own_upd (own_upd own_zero ll (own_zero ll + (1 : Int32))) ll ((own_upd own_zero ll (own_zero ll + (1 : Int32))) ll + (1 : Int32))) ll + (1 : Int32))) ll - (1 : Int32))) ll ((own_upd (own_upd (own_upd (own_upd own_zero ll (own_zero ll + (1 : Int32))) ll ((own_upd own_zero ll (own_zero ll + (1 : Int32))) ll + (1 : Int32))) ll ((own_upd (own_upd own_zero ll (own_zero ll + (1 : Int32))) ll ((own_upd own_zero ll (own_zero ll + (1 : Int32))) ll + (1 : Int32))) ll + (1 : Int32))) ll ((own_upd (own_upd (own_upd own_zero ll (own_zero ll + (1 : Int32))) ll ((own_upd own_zero ll (own_zero ll + (1 : Int32))) ll + (1 : Int32))) ll ((own_upd (own_upd own_zero ll (own_zero ll + (1 : Int32))) ll ((own_upd own_zero ll (own_zero ll + (1 : Int32))) ll + (1 : Int32))) ll + (1 : Int32))) ll - (1 : Int32))) ll - (1 : Int32))) (own_rN (own_rN (own_upd (own_upd (own_upd own_zero (0 : Int32) (own_H0 ll)) (1 : Int32) ((own_upd own_H0 ll (0 : Int32)) ll)) (2 : Int32) ((own_upd (own_upd own_H0 ll (0 : Int32)) ll (1 : Int32)) ll)) (own_pP (own_upd (own_upd own_H0 ll (0 : Int32)) ll (1 : Int32)) (own_pP (own_upd own_H0 ll (0 : Int32)) (own_pP own_H0 own_zero ll (0 : Int32)) ll (1 : Int32)) ll (2 : Int32)) (1 : Int32)) (own_rP (own_upd (own_upd (own_upd own_zero (0 : Int32) (own_H0 ll)) (1 : Int32) ((own_upd own_H0 ll (0 : Int32)) ll)) (2 : Int32) ((own_upd (own_upd own_H0 ll (0 : Int32)) ll (1 : Int32)) ll)) (own_pP (own_upd (own_upd own_H0 ll (0 : Int32)) ll (1 : Int32)) (own_pP (own_upd own_H0 ll (0 : Int32)) (own_pP own_H0 own_zero ll (0 : Int32)) ll (1 : Int32)) ll (2 : Int32)) (1 : Int32)) (0 : Int32)) (own_rP (own_rN (own_upd (own_upd (own_upd own_zero (0 : Int32) (own_H0 ll)) (1 : Int32) ((own_upd own_H0 ll (0 : Int32)) ll)) (2 : Int32) ((own_upd (own_upd own_H0 ll (0 : Int32)) ll (1 : Int32)) ll)) (own_pP (own_upd (own_upd own_H0 ll (0 : Int32)) ll (1 : Int32)) (own_pP (own_upd own_H0 ll (0 : Int32)) (own_pP own_H0 own_zero ll (0 : Int32)) ll (1 : Int32)) ll (2 : Int32)) (1 : Int32)) (own_rP (own_upd (own_upd (own_upd own_zero (0 : Int32) (own_H0 ll)) (1 : Int32) ((own_upd own_H0 ll (0 : Int32)) ll)) (2 : Int32) ((own_upd (own_upd own_H0 ll (0 : Int32)) ll (1 : Int32)) ll)) (own_pP (own_upd (own_upd own_H0 ll (0 : Int32)) ll (1 : Int32)) (own_pP (own_upd own_H0 ll (0 : Int32)) (own_pP own_H0 own_zero ll (0 : Int32)) ll (1 : Int32)) ll (2 : Int32)) (1 : Int32)) (0 : Int32)) T8.heap n0 Zs8 V8 (by rcases hl with rfl | rfl <;> decide +kernel) (by rcases hl with rfl | rfl <;> decide +kernel) (by rcases hl with rfl | rfl <;> decide +kernel) (by rcases hl with rfl | rfl <;> decide +kernel) (by rcases hl with rfl | rfl <;> decide +kernel)) hZ (own_w hw 36 rfl) (own_w hw 35 rfl) (by decide) (by decide)) (g := (mkF m 128 #[.val (.int p1), .val (.int p2), .val (.int p3), .val (.int (3 : Int32)), .val (.int (1 : Int32)), .val (.int ll), .val (.int oo), .val (.ref ad1), .val (.int (1 : Int32))] [(.int (0 : Int32)), (.int (1 : Int32)), (.int (3 : Int32)), (.int ll), (.ref ad1)])) rfl (by rw [hml]; rfl) (argsL := [(.ref ad1), (.int ll), (.int (3 : Int32)), (.int (1 : Int32)), (.int (0 : Int32))]) (rest := []) (lenOf pd__Lcom_example_process_stepper_processstepper_equivalence_IntLists_IIII_Z rfl) rfl (by show 2 * 0 + _ ≤ _; exact Nat.le_of_eq rfl) (hb hby at_128) (fun _ _ => ⟨rfl, rfl, (by decide : 6 + 1 ≤ _), (by decide : 17 + 3 ≤ _)⟩)
  dsimp only [Pt.U, Pt.locs, Pt.cells, Pt.slots] at X9 l9 y9 z9 st9 hQ9
  subst l9 y9 z9
  obtain ⟨rfl, N9q, K9q⟩ := hQ9
  have N9 := Fr.app N8 N9q
  have V9 : own_L Z n0 T9.heap ad1 b1 b2 b3 b4 (own_rH (own_rH (own_upd (own_upd (own_upd own_H0 ll (0 : Int32)) ll (1 : Int32)) ll (2 : Int32)) (own_upd (own_upd (own_upd own_zero (0 : Int32) (own_H0 ll)) (1 : Int32) ((own_upd own_H0 ll (0 : Int32)) ll)) (2 : Int32) ((own_upd (own_upd own_H0 ll (0 : Int32)) ll (1 : Int32)) ll)) (own_pP (own_upd (own_upd own_H0 ll (0 : Int32)) ll (1 : Int32)) (own_pP (own_upd own_H0 ll (0 : Int32)) (own_pP own_H0 own_zero ll (0 : Int32)) ll (1 : Int32)) ll (2 : Int32)) ll (1 : Int32)) (own_rN (own_upd (own_upd (own_upd own_zero (0 : Int32) (own_H0 ll)) (1 : Int32) ((own_upd own_H0 ll (0 : Int32)) ll)) (2 : Int32) ((own_upd (own_upd own_H0 ll (0 : Int32)) ll (1 : Int32)) ll)) (own_pP (own_upd (own_upd own_H0 ll (0 : Int32)) ll (1 : Int32)) (own_pP (own_upd own_H0 ll (0 : Int32)) (own_pP own_H0 own_zero ll (0 : Int32)) ll (1 : Int32)) ll (2 : Int32)) (1 : Int32)) (own_rP (own_upd (own_upd (own_upd own_zero (0 : Int32) (own_H0 ll)) (1 : Int32) ((own_upd own_H0 ll (0 : Int32)) ll)) (2 : Int32) ((own_upd (own_upd own_H0 ll (0 : Int32)) ll (1 : Int32)) ll)) (own_pP (own_upd (own_upd own_H0 ll (0 : Int32)) ll (1 : Int32)) (own_pP (own_upd own_H0 ll (0 : Int32)) (own_pP own_H0 own_zero ll (0 : Int32)) ll (1 : Int32)) ll (2 : Int32)) (1 : Int32)) ll (0 : Int32)) (own_upd (own_upd (own_upd (own_upd (own_upd own_zero ll (own_zero ll + (1 : Int32))) ll ((own_upd own_zero ll (own_zero ll + (1 : Int32))) ll + (1 : Int32))) ll ((own_upd (own_upd own_zero ll (own_zero ll + (1 : Int32))) ll ((own_upd own_zero ll (own_zero ll + (1 : Int32))) ll + (1 : Int32))) ll + (1 : Int32))) ll ((own_upd (own_upd (own_upd own_zero ll (own_zero ll + (1 : Int32))) ll ((own_upd own_zero ll (own_zero ll + (1 : Int32))) ll + (1 : Int32))) ll ((own_upd (own_upd own_zero ll (own_zero ll + (1 : Int32))) ll ((own_upd own_zero ll (own_zero ll + (1 : Int32))) ll + (1 : Int32))) ll + (1 : Int32))) ll - (1 : Int32))) ll ((own_upd (own_upd (own_upd (own_upd own_zero ll (own_zero ll + (1 : Int32))) ll ((own_upd own_zero ll (own_zero ll + (1 : Int32))) ll + (1 : Int32))) ll ((own_upd (own_upd own_zero ll (own_zero ll + (1 : Int32))) ll ((own_upd own_zero ll (own_zero ll + (1 : Int32))) ll + (1 : Int32))) ll + (1 : Int32))) ll ((own_upd (own_upd (own_upd own_zero ll (own_zero ll + (1 : Int32))) ll ((own_upd own_zero ll (own_zero ll + (1 : Int32))) ll + (1 : Int32))) ll ((own_upd (own_upd own_zero ll (own_zero ll + (1 : Int32))) ll ((own_upd own_zero ll (own_zero ll + (1 : Int32))) ll + (1 : Int32))) ll + (1 : Int32))) ll - (1 : Int32))) ll - (1 : Int32))) (own_rN (own_rN (own_upd (own_upd (own_upd own_zero (0 : Int32) (own_H0 ll)) (1 : Int32) ((own_upd own_H0 ll (0 : Int32)) ll)) (2 : Int32) ((own_upd (own_upd own_H0 ll (0 : Int32)) ll (1 : Int32)) ll)) (own_pP (own_upd (own_upd own_H0 ll (0 : Int32)) ll (1 : Int32)) (own_pP (own_upd own_H0 ll (0 : Int32)) (own_pP own_H0 own_zero ll (0 : Int32)) ll (1 : Int32)) ll (2 : Int32)) (1 : Int32)) (own_rP (own_upd (own_upd (own_upd own_zero (0 : Int32) (own_H0 ll)) (1 : Int32) ((own_upd own_H0 ll (0 : Int32)) ll)) (2 : Int32) ((own_upd (own_upd own_H0 ll (0 : Int32)) ll (1 : Int32)) ll)) (own_pP (own_upd (own_upd own_H0 ll (0 : Int32)) ll (1 : Int32)) (own_pP (own_upd own_H0 ll (0 : Int32)) (own_pP own_H0 own_zero ll (0 : Int32)) ll (1 : Int32)) ll (2 : Int32)) (1 : Int32)) (0 : Int32)) (own_rP (own_rN (own_upd (own_upd (own_upd own_zero (0 : Int32) (own_H0 ll)) (1 : Int32) ((own_upd own_H0 ll (0 : Int32)) ll)) (2 : Int32) ((own_upd (own_upd own_H0 ll (0 : Int32)) ll (1 : Int32)) ll)) (own_pP (own_upd (own_upd own_H0 ll (0 : Int32)) ll (1 : Int32)) (own_pP (own_upd own_H0 ll (0 : Int32)) (own_pP own_H0 own_zero ll (0 : Int32)) ll (1 : Int32)) ll (2 : Int32)) (1 : Int32)) (own_rP (own_upd (own_upd (own_upd own_zero (0 : Int32) (own_H0 ll)) (1 : Int32) ((own_upd own_H0 ll (0 : Int32)) ll)) (2 : Int32) ((own_upd (own_upd own_H0 ll (0 : Int32)) ll (1 : Int32)) ll)) (own_pP (own_upd (own_upd own_H0 ll (0 : Int32)) ll (1 : Int32)) (own_pP (own_upd own_H0 ll (0 : Int32)) (own_pP own_H0 own_zero ll (0 : Int32)) ll (1 : Int32)) ll (2 : Int32)) (1 : Int32)) (0 : Int32)) := own_L_keep V8 K9q nin0 nin0 nin0 nin0 nin0
  have Zs9 : n0 ≤ T9.heap.size := Nat.le_trans Zs8 K9q.1
  obtain ⟨cq10, kq10, q10a, q10b, q10c⟩ := isOf hZ rfl (V9.1)
  obtain ⟨_, _, ⟨T10, L10, k10, n10⟩, -, X10, ⟨Lc10, hQ10, l10, y10, z10⟩, st10⟩ := X9.virtualBack hx (y := own_m3) (z := own_m3) hown (mvT hZ (own_w hw 42 rfl)) (mvT hZ (own_w hw 43 rfl)) (notFace_of_selects (args := #[]) (mvT hZ (own_w hw 45 rfl))) (mvT hZ (own_w hw 45 rfl)) (mvT hZ (own_w hw 44 rfl)) (by decide) (backOf (W := 0) (rm8 l Z a0 hw [] ad1 oo b1 b2 b3 b4 (own_rH (own_rH (own_upd (own_upd (own_upd own_H0 ll (0 : Int32)) ll (1 : Int32)) ll (2 : Int32)) (own_upd (own_upd (own_upd own_zero (0 : Int32) (own_H0 ll)) (1 : Int32) ((own_upd own_H0 ll (0 : Int32)) ll)) (2 : Int32) ((own_upd (own_upd own_H0 ll (0 : Int32)) ll (1 : Int32)) ll)) (own_pP (own_upd (own_upd own_H0 ll (0 : Int32)) ll (1 : Int32)) (own_pP (own_upd own_H0 ll (0 : Int32)) (own_pP own_H0 own_zero ll (0 : Int32)) ll (1 : Int32)) ll (2 : Int32)) ll (1 : Int32)) (own_rN (own_upd (own_upd (own_upd own_zero (0 : Int32) (own_H0 ll)) (1 : Int32) ((own_upd own_H0 ll (0 : Int32)) ll)) (2 : Int32) ((own_upd (own_upd own_H0 ll (0 : Int32)) ll (1 : Int32)) ll)) (own_pP (own_upd (own_upd own_H0 ll (0 : Int32)) ll (1 : Int32)) (own_pP (own_upd own_H0 ll (0 : Int32)) (own_pP own_H0 own_zero ll (0 : Int32)) ll (1 : Int32)) ll (2 : Int32)) (1 : Int32)) (own_rP (own_upd (own_upd (own_upd own_zero (0 : Int32) (own_H0 ll)) (1 : Int32) ((own_upd own_H0 ll (0 : Int32)) ll)) (2 : Int32) ((own_upd (own_upd own_H0 ll (0 : Int32)) ll (1 : Int32)) ll)) (own_pP (own_upd (own_upd own_H0 ll (0 : Int32)) ll (1 : Int32)) (own_pP (own_upd own_H0 ll (0 : Int32)) (own_pP own_H0 own_zero ll (0 : Int32)) ll (1 : Int32)) ll (2 : Int32)) (1 : Int32)) ll (0 : Int32)) (own_upd (own_upd (own_upd (own_upd (own_upd own_zero ll (own_zero ll + (1 : Int32))) ll ((own_upd own_zero ll (own_zero ll + (1 : Int32))) ll + (1 : Int32))) ll ((own_upd (own_upd own_zero ll (own_zero ll + (1 : Int32))) ll ((own_upd own_zero ll (own_zero ll + (1 : Int32))) ll + (1 : Int32))) ll + (1 : Int32))) ll ((own_upd (own_upd (own_upd own_zero ll (own_zero ll + (1 : Int32))) ll ((own_upd own_zero ll (own_zero ll + (1 : Int32))) ll + (1 : Int32))) ll ((own_upd (own_upd own_zero ll (own_zero ll + (1 : Int32))) ll ((own_upd own_zero ll (own_zero ll + (1 : Int32))) ll + (1 : Int32))) ll + (1 : Int32))) ll - (1 : Int32))) ll ((own_upd (own_upd (own_upd (own_upd own_zero ll (own_zero ll + (1 : Int32))) ll ((own_upd own_zero ll (own_zero ll + (1 : Int32))) ll + (1 : Int32))) ll ((own_upd (own_upd own_zero ll (own_zero ll + (1 : Int32))) ll ((own_upd own_zero ll (own_zero ll + (1 : Int32))) ll + (1 : Int32))) ll + (1 : Int32))) ll ((own_upd (own_upd (own_upd own_zero ll (own_zero ll + (1 : Int32))) ll ((own_upd own_zero ll (own_zero ll + (1 : Int32))) ll + (1 : Int32))) ll ((own_upd (own_upd own_zero ll (own_zero ll + (1 : Int32))) ll ((own_upd own_zero ll (own_zero ll + (1 : Int32))) ll + (1 : Int32))) ll + (1 : Int32))) ll - (1 : Int32))) ll - (1 : Int32))) (own_rN (own_rN (own_upd (own_upd (own_upd own_zero (0 : Int32) (own_H0 ll)) (1 : Int32) ((own_upd own_H0 ll (0 : Int32)) ll)) (2 : Int32) ((own_upd (own_upd own_H0 ll (0 : Int32)) ll (1 : Int32)) ll)) (own_pP (own_upd (own_upd own_H0 ll (0 : Int32)) ll (1 : Int32)) (own_pP (own_upd own_H0 ll (0 : Int32)) (own_pP own_H0 own_zero ll (0 : Int32)) ll (1 : Int32)) ll (2 : Int32)) (1 : Int32)) (own_rP (own_upd (own_upd (own_upd own_zero (0 : Int32) (own_H0 ll)) (1 : Int32) ((own_upd own_H0 ll (0 : Int32)) ll)) (2 : Int32) ((own_upd (own_upd own_H0 ll (0 : Int32)) ll (1 : Int32)) ll)) (own_pP (own_upd (own_upd own_H0 ll (0 : Int32)) ll (1 : Int32)) (own_pP (own_upd own_H0 ll (0 : Int32)) (own_pP own_H0 own_zero ll (0 : Int32)) ll (1 : Int32)) ll (2 : Int32)) (1 : Int32)) (0 : Int32)) (own_rP (own_rN (own_upd (own_upd (own_upd own_zero (0 : Int32) (own_H0 ll)) (1 : Int32) ((own_upd own_H0 ll (0 : Int32)) ll)) (2 : Int32) ((own_upd (own_upd own_H0 ll (0 : Int32)) ll (1 : Int32)) ll)) (own_pP (own_upd (own_upd own_H0 ll (0 : Int32)) ll (1 : Int32)) (own_pP (own_upd own_H0 ll (0 : Int32)) (own_pP own_H0 own_zero ll (0 : Int32)) ll (1 : Int32)) ll (2 : Int32)) (1 : Int32)) (own_rP (own_upd (own_upd (own_upd own_zero (0 : Int32) (own_H0 ll)) (1 : Int32) ((own_upd own_H0 ll (0 : Int32)) ll)) (2 : Int32) ((own_upd (own_upd own_H0 ll (0 : Int32)) ll (1 : Int32)) ll)) (own_pP (own_upd (own_upd own_H0 ll (0 : Int32)) ll (1 : Int32)) (own_pP (own_upd own_H0 ll (0 : Int32)) (own_pP own_H0 own_zero ll (0 : Int32)) ll (1 : Int32)) ll (2 : Int32)) (1 : Int32)) (0 : Int32)) T9.heap n0 Zs9 V9 (by subst hoo; rcases hl with rfl | rfl <;> decide +kernel) (by subst hoo; rcases hl with rfl | rfl <;> decide +kernel)) hZ (own_w hw 46 rfl) (own_w hw 3 rfl) (by decide) (by decide)) q10a q10c (g := (mkF m 150 #[.val (.int p1), .val (.int p2), .val (.int p3), .val (.int (3 : Int32)), .val (.int (1 : Int32)), .val (.int ll), .val (.int oo), .val (.ref ad1), .val (.int (1 : Int32))] [(.int oo), (.ref ad1)])) rfl (by rw [hml]; rfl) (Steps.refl _) (argsL := [(.int oo)]) (rest := []) (lenOf pd__I_I rfl) rfl (by show 2 * 0 + _ ≤ _; exact Nat.le_of_eq rfl) (hb hby at_150) (fun _ _ => ⟨rfl, rfl, (by decide : 7 + 0 ≤ _), (by decide : 20 + 0 ≤ _)⟩)
  dsimp only [Pt.U, Pt.locs, Pt.cells, Pt.slots] at X10 l10 y10 z10 st10 hQ10
  subst l10 y10 z10
  obtain ⟨rfl, N10q, q10⟩ := hQ10
  have N10 := Fr.app N9 N10q
  have e10' : T10.heap = T9.heap := q10
  obtain ⟨cq11, kq11, q11a, q11b, q11c⟩ := isOf hZ e10' (V9.1)
  obtain ⟨_, _, ⟨T11, L11, k11, n11⟩, -, X11, ⟨Lc11, hQ11, l11, y11, z11⟩, st11⟩ := X10.virtualBack hx (y := own_m2) (z := own_m2) hown (mvT hZ (own_w hw 37 rfl)) (mvT hZ (own_w hw 38 rfl)) (notFace_of_selects (args := #[]) (mvT hZ (own_w hw 40 rfl))) (mvT hZ (own_w hw 40 rfl)) (mvT hZ (own_w hw 39 rfl)) (by decide) (backOf (W := 0) (rm7 l Z a0 hw [] ad1 oo b1 b2 b3 b4 (own_rH (own_rH (own_upd (own_upd (own_upd own_H0 ll (0 : Int32)) ll (1 : Int32)) ll (2 : Int32)) (own_upd (own_upd (own_upd own_zero (0 : Int32) (own_H0 ll)) (1 : Int32) ((own_upd own_H0 ll (0 : Int32)) ll)) (2 : Int32) ((own_upd (own_upd own_H0 ll (0 : Int32)) ll (1 : Int32)) ll)) (own_pP (own_upd (own_upd own_H0 ll (0 : Int32)) ll (1 : Int32)) (own_pP (own_upd own_H0 ll (0 : Int32)) (own_pP own_H0 own_zero ll (0 : Int32)) ll (1 : Int32)) ll (2 : Int32)) ll (1 : Int32)) (own_rN (own_upd (own_upd (own_upd own_zero (0 : Int32) (own_H0 ll)) (1 : Int32) ((own_upd own_H0 ll (0 : Int32)) ll)) (2 : Int32) ((own_upd (own_upd own_H0 ll (0 : Int32)) ll (1 : Int32)) ll)) (own_pP (own_upd (own_upd own_H0 ll (0 : Int32)) ll (1 : Int32)) (own_pP (own_upd own_H0 ll (0 : Int32)) (own_pP own_H0 own_zero ll (0 : Int32)) ll (1 : Int32)) ll (2 : Int32)) (1 : Int32)) (own_rP (own_upd (own_upd (own_upd own_zero (0 : Int32) (own_H0 ll)) (1 : Int32) ((own_upd own_H0 ll (0 : Int32)) ll)) (2 : Int32) ((own_upd (own_upd own_H0 ll (0 : Int32)) ll (1 : Int32)) ll)) (own_pP (own_upd (own_upd own_H0 ll (0 : Int32)) ll (1 : Int32)) (own_pP (own_upd own_H0 ll (0 : Int32)) (own_pP own_H0 own_zero ll (0 : Int32)) ll (1 : Int32)) ll (2 : Int32)) (1 : Int32)) ll (0 : Int32)) (own_upd (own_upd (own_upd (own_upd (own_upd own_zero ll (own_zero ll + (1 : Int32))) ll ((own_upd own_zero ll (own_zero ll + (1 : Int32))) ll + (1 : Int32))) ll ((own_upd (own_upd own_zero ll (own_zero ll + (1 : Int32))) ll ((own_upd own_zero ll (own_zero ll + (1 : Int32))) ll + (1 : Int32))) ll + (1 : Int32))) ll ((own_upd (own_upd (own_upd own_zero ll (own_zero ll + (1 : Int32))) ll ((own_upd own_zero ll (own_zero ll + (1 : Int32))) ll + (1 : Int32))) ll ((own_upd (own_upd own_zero ll (own_zero ll + (1 : Int32))) ll ((own_upd own_zero ll (own_zero ll + (1 : Int32))) ll + (1 : Int32))) ll + (1 : Int32))) ll - (1 : Int32))) ll ((own_upd (own_upd (own_upd (own_upd own_zero ll (own_zero ll + (1 : Int32))) ll ((own_upd own_zero ll (own_zero ll + (1 : Int32))) ll + (1 : Int32))) ll ((own_upd (own_upd own_zero ll (own_zero ll + (1 : Int32))) ll ((own_upd own_zero ll (own_zero ll + (1 : Int32))) ll + (1 : Int32))) ll + (1 : Int32))) ll ((own_upd (own_upd (own_upd own_zero ll (own_zero ll + (1 : Int32))) ll ((own_upd own_zero ll (own_zero ll + (1 : Int32))) ll + (1 : Int32))) ll ((own_upd (own_upd own_zero ll (own_zero ll + (1 : Int32))) ll ((own_upd own_zero ll (own_zero ll + (1 : Int32))) ll + (1 : Int32))) ll + (1 : Int32))) ll - (1 : Int32))) ll - (1 : Int32))) (own_rN (own_rN (own_upd (own_upd (own_upd own_zero (0 : Int32) (own_H0 ll)) (1 : Int32) ((own_upd own_H0 ll (0 : Int32)) ll)) (2 : Int32) ((own_upd (own_upd own_H0 ll (0 : Int32)) ll (1 : Int32)) ll)) (own_pP (own_upd (own_upd own_H0 ll (0 : Int32)) ll (1 : Int32)) (own_pP (own_upd own_H0 ll (0 : Int32)) (own_pP own_H0 own_zero ll (0 : Int32)) ll (1 : Int32)) ll (2 : Int32)) (1 : Int32)) (own_rP (own_upd (own_upd (own_upd own_zero (0 : Int32) (own_H0 ll)) (1 : Int32) ((own_upd own_H0 ll (0 : Int32)) ll)) (2 : Int32) ((own_upd (own_upd own_H0 ll (0 : Int32)) ll (1 : Int32)) ll)) (own_pP (own_upd (own_upd own_H0 ll (0 : Int32)) ll (1 : Int32)) (own_pP (own_upd own_H0 ll (0 : Int32)) (own_pP own_H0 own_zero ll (0 : Int32)) ll (1 : Int32)) ll (2 : Int32)) (1 : Int32)) (0 : Int32)) (own_rP (own_rN (own_upd (own_upd (own_upd own_zero (0 : Int32) (own_H0 ll)) (1 : Int32) ((own_upd own_H0 ll (0 : Int32)) ll)) (2 : Int32) ((own_upd (own_upd own_H0 ll (0 : Int32)) ll (1 : Int32)) ll)) (own_pP (own_upd (own_upd own_H0 ll (0 : Int32)) ll (1 : Int32)) (own_pP (own_upd own_H0 ll (0 : Int32)) (own_pP own_H0 own_zero ll (0 : Int32)) ll (1 : Int32)) ll (2 : Int32)) (1 : Int32)) (own_rP (own_upd (own_upd (own_upd own_zero (0 : Int32) (own_H0 ll)) (1 : Int32) ((own_upd own_H0 ll (0 : Int32)) ll)) (2 : Int32) ((own_upd (own_upd own_H0 ll (0 : Int32)) ll (1 : Int32)) ll)) (own_pP (own_upd (own_upd own_H0 ll (0 : Int32)) ll (1 : Int32)) (own_pP (own_upd own_H0 ll (0 : Int32)) (own_pP own_H0 own_zero ll (0 : Int32)) ll (1 : Int32)) ll (2 : Int32)) (1 : Int32)) (0 : Int32)) T9.heap n0 Zs9 V9 (by subst hoo; rcases hl with rfl | rfl <;> decide +kernel) (by subst hoo; rcases hl with rfl | rfl <;> decide +kernel)) hZ (own_w hw 41 rfl) (own_w hw 3 rfl) (by decide) (by decide)) q11a q11c (g := (mkF m 161 #[.val (.int p1), .val (.int p2), .val (.int p3), .val (.int (3 : Int32)), .val (.int (1 : Int32)), .val (.int ll), .val (.int oo), .val (.ref ad1), .val (.int (1 : Int32))] [(.int oo), (.ref ad1)])) rfl (by rw [hml]; rfl) (Steps.refl _) (argsL := [(.int oo)]) (rest := []) (lenOf pd__I_I rfl) rfl (by show 2 * 0 + _ ≤ _; exact Nat.le_of_eq rfl) (hb hby at_161) (fun _ _ => ⟨rfl, e10', (by decide : 7 + 0 ≤ _), (by decide : 20 + 0 ≤ _)⟩)
  dsimp only [Pt.U, Pt.locs, Pt.cells, Pt.slots] at X11 l11 y11 z11 st11 hQ11
  subst l11 y11 z11
  obtain ⟨rfl, N11q, q11⟩ := hQ11
  have N11 := Fr.app N10 N11q
  have e11' : T11.heap = T9.heap := q11
  obtain ⟨fs, hr, hrun, hended, hW, hsame⟩ := X11.leave (v := some (.int (1 : Int32))) (fun h => by rw [Bd.returns] at h; cases h)
  refine ⟨_, _, pre0 _ ?_, hrun, hended, _, _, rfl, ?_, ⟨_, rfl⟩, hW, hsame.mono (by decide) (by decide)⟩
  · show Steps p.tables e below (s₁.setTop (mkF m 0 #[.val (.int p1), .val (.int p2), .val (.int p3), .unset, .unset, .unset, .unset, .unset, .unset] [])) _
    refine XS.iconst X0.here hx rfl (hb hby at_0) ?_
    refine XS.iloadN X0.here hx rfl (hb hby at_1) rfl ?_
    show Steps p.tables e below (s₁.setTop (mkF m 2 #[.val (.int p1), .val (.int p2), .val (.int p3), .unset, .unset, .unset, .unset, .unset, .unset] [(.int p1), (.int (1 : Int32))])) _
    refine X0.ldcInt hx hown (mvT hZ (own_w hw 0 rfl)) (g := (mkF m 2 #[.val (.int p1), .val (.int p2), .val (.int p3), .unset, .unset, .unset, .unset, .unset, .unset] [(.int p1), (.int (1 : Int32))])) rfl (hb hby at_2) _ ?_
    show Steps p.tables e below (s₁.setTop (mkF m 4 #[.val (.int p1), .val (.int p2), .val (.int p3), .unset, .unset, .unset, .unset, .unset, .unset] [(.int (2147483647 : Int32)), (.int p1), (.int (1 : Int32))])) _
    refine XS.iand X0.here hx rfl (hb hby at_4) rfl ?_
    show Steps p.tables e below (s₁.setTop (mkF m 5 #[.val (.int p1), .val (.int p2), .val (.int p3), .unset, .unset, .unset, .unset, .unset, .unset] [(.int (p1 &&& (2147483647 : Int32))), (.int (1 : Int32))])) _
    refine XS.iconst X0.here hx rfl (hb hby at_5) ?_
    show Steps p.tables e below (s₁.setTop (mkF m 6 #[.val (.int p1), .val (.int p2), .val (.int p3), .unset, .unset, .unset, .unset, .unset, .unset] [(.int (3 : Int32)), (.int (p1 &&& (2147483647 : Int32))), (.int (1 : Int32))])) _
    refine iremM X0 hx rfl (hb hby at_6) rfl (by decide) ?_
    show Steps p.tables e below (s₁.setTop (mkF m 7 #[.val (.int p1), .val (.int p2), .val (.int p3), .unset, .unset, .unset, .unset, .unset, .unset] [(.int ((p1 &&& (2147483647 : Int32)) % (3 : Int32))), (.int (1 : Int32))])) _
    refine XS.iadd X0.here hx rfl (hb hby at_7) rfl ?_
    rw [hN]
    show Steps p.tables e below (s₁.setTop (mkF m 8 #[.val (.int p1), .val (.int p2), .val (.int p3), .unset, .unset, .unset, .unset, .unset, .unset] [(.int (3 : Int32))])) _
    refine XS.istoreN X0.here hx rfl (hb hby at_8) rfl (l' := #[.val (.int p1), .val (.int p2), .val (.int p3), .val (.int (3 : Int32)), .unset, .unset, .unset, .unset, .unset]) rfl ?_
    refine XS.iloadN X0.here hx rfl (hb hby at_9) rfl ?_
    show Steps p.tables e below (s₁.setTop (mkF m 10 #[.val (.int p1), .val (.int p2), .val (.int p3), .val (.int (3 : Int32)), .unset, .unset, .unset, .unset, .unset] [(.int p2)])) _
    refine X0.ldcInt hx hown (mvT hZ (own_w hw 0 rfl)) (g := (mkF m 10 #[.val (.int p1), .val (.int p2), .val (.int p3), .val (.int (3 : Int32)), .unset, .unset, .unset, .unset, .unset] [(.int p2)])) rfl (hb hby at_10) _ ?_
    show Steps p.tables e below (s₁.setTop (mkF m 12 #[.val (.int p1), .val (.int p2), .val (.int p3), .val (.int (3 : Int32)), .unset, .unset, .unset, .unset, .unset] [(.int (2147483647 : Int32)), (.int p2)])) _
    refine XS.iand X0.here hx rfl (hb hby at_12) rfl ?_
    show Steps p.tables e below (s₁.setTop (mkF m 13 #[.val (.int p1), .val (.int p2), .val (.int p3), .val (.int (3 : Int32)), .unset, .unset, .unset, .unset, .unset] [(.int (p2 &&& (2147483647 : Int32)))])) _
    refine XS.iloadN X0.here hx rfl (hb hby at_13) rfl ?_
    show Steps p.tables e below (s₁.setTop (mkF m 14 #[.val (.int p1), .val (.int p2), .val (.int p3), .val (.int (3 : Int32)), .unset, .unset, .unset, .unset, .unset] [(.int (3 : Int32)), (.int (p2 &&& (2147483647 : Int32)))])) _
    refine iremM X0 hx rfl (hb hby at_14) rfl (by decide) ?_
    rw [hE]
    show Steps p.tables e below (s₁.setTop (mkF m 15 #[.val (.int p1), .val (.int p2), .val (.int p3), .val (.int (3 : Int32)), .unset, .unset, .unset, .unset, .unset] [(.int (1 : Int32))])) _
    refine XS.istore X0.here hx rfl (hb hby at_15) rfl (l' := #[.val (.int p1), .val (.int p2), .val (.int p3), .val (.int (3 : Int32)), .val (.int (1 : Int32)), .unset, .unset, .unset, .unset]) rfl ?_
    refine XS.iloadN X0.here hx rfl (hb hby at_17) rfl ?_
    refine XS.iconst X0.here hx rfl (hb hby at_18) ?_
    show Steps p.tables e below (s₁.setTop (mkF m 19 #[.val (.int p1), .val (.int p2), .val (.int p3), .val (.int (3 : Int32)), .val (.int (1 : Int32)), .unset, .unset, .unset, .unset] [(.int (1 : Int32)), (.int p3)])) _
    refine XS.iand X0.here hx rfl (hb hby at_19) rfl ?_
    rw [← hll]
    show Steps p.tables e below (s₁.setTop (mkF m 20 #[.val (.int p1), .val (.int p2), .val (.int p3), .val (.int (3 : Int32)), .val (.int (1 : Int32)), .unset, .unset, .unset, .unset] [(.int ll)])) _
    refine XS.istore X0.here hx rfl (hb hby at_20) rfl (l' := #[.val (.int p1), .val (.int p2), .val (.int p3), .val (.int (3 : Int32)), .val (.int (1 : Int32)), .val (.int ll), .unset, .unset, .unset]) rfl ?_
    refine XS.iconst X0.here hx rfl (hb hby at_22) ?_
    refine XS.iload X0.here hx rfl (hb hby at_23) rfl ?_
    show Steps p.tables e below (s₁.setTop (mkF m 25 #[.val (.int p1), .val (.int p2), .val (.int p3), .val (.int (3 : Int32)), .val (.int (1 : Int32)), .val (.int ll), .unset, .unset, .unset] [(.int ll), (.int (1 : Int32))])) _
    refine XS.isub X0.here hx rfl (hb hby at_25) rfl ?_
    rw [← hoo]
    show Steps p.tables e below (s₁.setTop (mkF m 26 #[.val (.int p1), .val (.int p2), .val (.int p3), .val (.int (3 : Int32)), .val (.int (1 : Int32)), .val (.int ll), .unset, .unset, .unset] [(.int oo)])) _
    refine XS.istore X0.here hx rfl (hb hby at_26) rfl (l' := #[.val (.int p1), .val (.int p2), .val (.int p3), .val (.int (3 : Int32)), .val (.int (1 : Int32)), .val (.int ll), .val (.int oo), .unset, .unset]) rfl ?_
    show Steps p.tables e below (s₁.setTop (mkF m 28 #[.val (.int p1), .val (.int p2), .val (.int p3), .val (.int (3 : Int32)), .val (.int (1 : Int32)), .val (.int ll), .val (.int oo), .unset, .unset] [])) _
    refine st1 _ ?_
    show Steps p.tables e below (T1.setTop (mkF m 31 #[.val (.int p1), .val (.int p2), .val (.int p3), .val (.int (3 : Int32)), .val (.int (1 : Int32)), .val (.int ll), .val (.int oo), .unset, .unset] [(.ref ad1)])) _
    refine XS.dup X1.here hx rfl (hb hby at_31) rfl rfl ?_
    refine XS.iconst X1.here hx rfl (hb hby at_32) ?_
    refine XS.iconst X1.here hx rfl (hb hby at_33) ?_
    show Steps p.tables e below (T1.setTop (mkF m 34 #[.val (.int p1), .val (.int p2), .val (.int p3), .val (.int (3 : Int32)), .val (.int (1 : Int32)), .val (.int ll), .val (.int oo), .unset, .unset] [(.int (3 : Int32)), (.int (2 : Int32)), (.ref ad1), (.ref ad1)])) _
    refine st2.trans ?_
    show Steps p.tables e below (T2.setTop (mkF m 37 #[.val (.int p1), .val (.int p2), .val (.int p3), .val (.int (3 : Int32)), .val (.int (1 : Int32)), .val (.int ll), .val (.int oo), .unset, .unset] [(.ref ad1)])) _
    refine XS.astore X2.here hx rfl (hb hby at_37) rfl rfl (l' := #[.val (.int p1), .val (.int p2), .val (.int p3), .val (.int (3 : Int32)), .val (.int (1 : Int32)), .val (.int ll), .val (.int oo), .val (.ref ad1), .unset]) rfl ?_
    refine XS.aload X2.here hx rfl (hb hby at_39) rfl rfl ?_
    refine XS.iload X2.here hx rfl (hb hby at_41) rfl ?_
    refine XS.iconst X2.here hx rfl (hb hby at_43) ?_
    show Steps p.tables e below (T2.setTop (mkF m 44 #[.val (.int p1), .val (.int p2), .val (.int p3), .val (.int (3 : Int32)), .val (.int (1 : Int32)), .val (.int ll), .val (.int oo), .val (.ref ad1), .unset] [(.int (0 : Int32)), (.int ll), (.ref ad1)])) _
    refine st3.trans ?_
    show Steps p.tables e below (T3.setTop (mkF m 47 #[.val (.int p1), .val (.int p2), .val (.int p3), .val (.int (3 : Int32)), .val (.int (1 : Int32)), .val (.int ll), .val (.int oo), .val (.ref ad1), .unset] [])) _
    refine XS.iloadN X3.here hx rfl (hb hby at_47) rfl ?_
    refine XS.iconst X3.here hx rfl (hb hby at_48) ?_
    show Steps p.tables e below (T3.setTop (mkF m 49 #[.val (.int p1), .val (.int p2), .val (.int p3), .val (.int (3 : Int32)), .val (.int (1 : Int32)), .val (.int ll), .val (.int oo), .val (.ref ad1), .unset] [(.int (2 : Int32)), (.int (3 : Int32))])) _
    refine XS.icmpNo X3.here hx rfl (hb hby at_49) rfl (flt (by decide : ¬ ((3 : Int32) < (2 : Int32)))).1 ?_
    show Steps p.tables e below (T3.setTop (mkF m 52 #[.val (.int p1), .val (.int p2), .val (.int p3), .val (.int (3 : Int32)), .val (.int (1 : Int32)), .val (.int ll), .val (.int oo), .val (.ref ad1), .unset] [])) _
    refine XS.aload X3.here hx rfl (hb hby at_52) rfl rfl ?_
    refine XS.iload X3.here hx rfl (hb hby at_54) rfl ?_
    refine XS.iconst X3.here hx rfl (hb hby at_56) ?_
    show Steps p.tables e below (T3.setTop (mkF m 57 #[.val (.int p1), .val (.int p2), .val (.int p3), .val (.int (3 : Int32)), .val (.int (1 : Int32)), .val (.int ll), .val (.int oo), .val (.ref ad1), .unset] [(.int (1 : Int32)), (.int ll), (.ref ad1)])) _
    refine st4.trans ?_
    show Steps p.tables e below (T4.setTop (mkF m 60 #[.val (.int p1), .val (.int p2), .val (.int p3), .val (.int (3 : Int32)), .val (.int (1 : Int32)), .val (.int ll), .val (.int oo), .val (.ref ad1), .unset] [])) _
    refine XS.iloadN X4.here hx rfl (hb hby at_60) rfl ?_
    refine XS.iconst X4.here hx rfl (hb hby at_61) ?_
    show Steps p.tables e below (T4.setTop (mkF m 62 #[.val (.int p1), .val (.int p2), .val (.int p3), .val (.int (3 : Int32)), .val (.int (1 : Int32)), .val (.int ll), .val (.int oo), .val (.ref ad1), .unset] [(.int (3 : Int32)), (.int (3 : Int32))])) _
    refine XS.icmpNo X4.here hx rfl (hb hby at_62) rfl (flt (by decide : ¬ ((3 : Int32) < (3 : Int32)))).1 ?_
    show Steps p.tables e below (T4.setTop (mkF m 65 #[.val (.int p1), .val (.int p2), .val (.int p3), .val (.int (3 : Int32)), .val (.int (1 : Int32)), .val (.int ll), .val (.int oo), .val (.ref ad1), .unset] [])) _
    refine XS.aload X4.here hx rfl (hb hby at_65) rfl rfl ?_
    refine XS.iload X4.here hx rfl (hb hby at_67) rfl ?_
    refine XS.iconst X4.here hx rfl (hb hby at_69) ?_
    show Steps p.tables e below (T4.setTop (mkF m 70 #[.val (.int p1), .val (.int p2), .val (.int p3), .val (.int (3 : Int32)), .val (.int (1 : Int32)), .val (.int ll), .val (.int oo), .val (.ref ad1), .unset] [(.int (2 : Int32)), (.int ll), (.ref ad1)])) _
    refine st5.trans ?_
    show Steps p.tables e below (T5.setTop (mkF m 73 #[.val (.int p1), .val (.int p2), .val (.int p3), .val (.int (3 : Int32)), .val (.int (1 : Int32)), .val (.int ll), .val (.int oo), .val (.ref ad1), .unset] [])) _
    refine XS.aload X5.here hx rfl (hb hby at_73) rfl rfl ?_
    refine XS.iload X5.here hx rfl (hb hby at_75) rfl ?_
    refine XS.iload X5.here hx rfl (hb hby at_77) rfl ?_
    show Steps p.tables e below (T5.setTop (mkF m 79 #[.val (.int p1), .val (.int p2), .val (.int p3), .val (.int (3 : Int32)), .val (.int (1 : Int32)), .val (.int ll), .val (.int oo), .val (.ref ad1), .unset] [(.int (1 : Int32)), (.int ll), (.ref ad1)])) _
    refine st6.trans ?_
    show Steps p.tables e below (T6.setTop (mkF m 82 #[.val (.int p1), .val (.int p2), .val (.int p3), .val (.int (3 : Int32)), .val (.int (1 : Int32)), .val (.int ll), .val (.int oo), .val (.ref ad1), .unset] [])) _
    refine XS.aload X6.here hx rfl (hb hby at_82) rfl rfl ?_
    refine XS.iload X6.here hx rfl (hb hby at_84) rfl ?_
    refine XS.iloadN X6.here hx rfl (hb hby at_86) rfl ?_
    refine XS.iload X6.here hx rfl (hb hby at_87) rfl ?_
    refine XS.iconst X6.here hx rfl (hb hby at_89) ?_
    show Steps p.tables e below (T6.setTop (mkF m 90 #[.val (.int p1), .val (.int p2), .val (.int p3), .val (.int (3 : Int32)), .val (.int (1 : Int32)), .val (.int ll), .val (.int oo), .val (.ref ad1), .unset] [(.int (-1 : Int32)), (.int (1 : Int32)), (.int (3 : Int32)), (.int ll), (.ref ad1)])) _
    refine st7 _ ?_
    show Steps p.tables e below (T7.setTop (mkF m 93 #[.val (.int p1), .val (.int p2), .val (.int p3), .val (.int (3 : Int32)), .val (.int (1 : Int32)), .val (.int ll), .val (.int oo), .val (.ref ad1), .unset] [(.int (1 : Int32))])) _
    refine XS.istore X7.here hx rfl (hb hby at_93) rfl (l' := #[.val (.int p1), .val (.int p2), .val (.int p3), .val (.int (3 : Int32)), .val (.int (1 : Int32)), .val (.int ll), .val (.int oo), .val (.ref ad1), .val (.int (1 : Int32))]) rfl ?_
    refine XS.iload X7.here hx rfl (hb hby at_95) rfl ?_
    refine XS.iconst X7.here hx rfl (hb hby at_97) ?_
    show Steps p.tables e below (T7.setTop (mkF m 98 #[.val (.int p1), .val (.int p2), .val (.int p3), .val (.int (3 : Int32)), .val (.int (1 : Int32)), .val (.int ll), .val (.int oo), .val (.ref ad1), .val (.int (1 : Int32))] [(.int (1 : Int32)), (.int (1 : Int32))])) _
    refine XS.icmpNo X7.here hx rfl (hb hby at_98) rfl (flt (by decide : ¬ ((1 : Int32) < (1 : Int32)))).1 ?_
    show Steps p.tables e below (T7.setTop (mkF m 101 #[.val (.int p1), .val (.int p2), .val (.int p3), .val (.int (3 : Int32)), .val (.int (1 : Int32)), .val (.int ll), .val (.int oo), .val (.ref ad1), .val (.int (1 : Int32))] [])) _
    refine XS.aload X7.here hx rfl (hb hby at_101) rfl rfl ?_
    refine XS.iload X7.here hx rfl (hb hby at_103) rfl ?_
    refine XS.iload X7.here hx rfl (hb hby at_105) rfl ?_
    refine XS.iconst X7.here hx rfl (hb hby at_107) ?_
    show Steps p.tables e below (T7.setTop (mkF m 108 #[.val (.int p1), .val (.int p2), .val (.int p3), .val (.int (3 : Int32)), .val (.int (1 : Int32)), .val (.int ll), .val (.int oo), .val (.ref ad1), .val (.int (1 : Int32))] [(.int (1 : Int32)), (.int (1 : Int32)), (.int ll), (.ref ad1)])) _
    refine XS.isub X7.here hx rfl (hb hby at_108) rfl ?_
    show Steps p.tables e below (T7.setTop (mkF m 109 #[.val (.int p1), .val (.int p2), .val (.int p3), .val (.int (3 : Int32)), .val (.int (1 : Int32)), .val (.int ll), .val (.int oo), .val (.ref ad1), .val (.int (1 : Int32))] [(.int (0 : Int32)), (.int ll), (.ref ad1)])) _
    refine st8.trans ?_
    show Steps p.tables e below (T8.setTop (mkF m 112 #[.val (.int p1), .val (.int p2), .val (.int p3), .val (.int (3 : Int32)), .val (.int (1 : Int32)), .val (.int ll), .val (.int oo), .val (.ref ad1), .val (.int (1 : Int32))] [])) _
    refine XS.iload X8.here hx rfl (hb hby at_112) rfl ?_
    show Steps p.tables e below (T8.setTop (mkF m 114 #[.val (.int p1), .val (.int p2), .val (.int p3), .val (.int (3 : Int32)), .val (.int (1 : Int32)), .val (.int ll), .val (.int oo), .val (.ref ad1), .val (.int (1 : Int32))] [(.int (1 : Int32))])) _
    refine XS.ifNo X8.here hx rfl (hb hby at_114) rfl ((if0 _ _).trans (feq (by decide : ¬ ((1 : Int32) = (0 : Int32)))).1) ?_
    show Steps p.tables e below (T8.setTop (mkF m 117 #[.val (.int p1), .val (.int p2), .val (.int p3), .val (.int (3 : Int32)), .val (.int (1 : Int32)), .val (.int ll), .val (.int oo), .val (.ref ad1), .val (.int (1 : Int32))] [])) _
    refine XS.aload X8.here hx rfl (hb hby at_117) rfl rfl ?_
    refine XS.iload X8.here hx rfl (hb hby at_119) rfl ?_
    refine XS.iloadN X8.here hx rfl (hb hby at_121) rfl ?_
    refine XS.iload X8.here hx rfl (hb hby at_122) rfl ?_
    refine XS.iload X8.here hx rfl (hb hby at_124) rfl ?_
    refine XS.iconst X8.here hx rfl (hb hby at_126) ?_
    show Steps p.tables e below (T8.setTop (mkF m 127 #[.val (.int p1), .val (.int p2), .val (.int p3), .val (.int (3 : Int32)), .val (.int (1 : Int32)), .val (.int ll), .val (.int oo), .val (.ref ad1), .val (.int (1 : Int32))] [(.int (1 : Int32)), (.int (1 : Int32)), (.int (1 : Int32)), (.int (3 : Int32)), (.int ll), (.ref ad1)])) _
    refine XS.isub X8.here hx rfl (hb hby at_127) rfl ?_
    show Steps p.tables e below (T8.setTop (mkF m 128 #[.val (.int p1), .val (.int p2), .val (.int p3), .val (.int (3 : Int32)), .val (.int (1 : Int32)), .val (.int ll), .val (.int oo), .val (.ref ad1), .val (.int (1 : Int32))] [(.int (0 : Int32)), (.int (1 : Int32)), (.int (3 : Int32)), (.int ll), (.ref ad1)])) _
    refine st9 _ ?_
    show Steps p.tables e below (T9.setTop (mkF m 131 #[.val (.int p1), .val (.int p2), .val (.int p3), .val (.int (3 : Int32)), .val (.int (1 : Int32)), .val (.int ll), .val (.int oo), .val (.ref ad1), .val (.int (1 : Int32))] [(.int (1 : Int32))])) _
    refine XS.ifNo X9.here hx rfl (hb hby at_131) rfl ((if0 _ _).trans (feq (by decide : ¬ ((1 : Int32) = (0 : Int32)))).1) ?_
    show Steps p.tables e below (T9.setTop (mkF m 134 #[.val (.int p1), .val (.int p2), .val (.int p3), .val (.int (3 : Int32)), .val (.int (1 : Int32)), .val (.int ll), .val (.int oo), .val (.ref ad1), .val (.int (1 : Int32))] [])) _
    refine XS.iconst X9.here hx rfl (hb hby at_134) ?_
    refine XS.goto X9.here hx rfl (pc0 := 135) (pc' := 139) rfl (hb hby at_135) (by decide) (by decide) ?_
    refine XS.istore X9.here hx rfl (hb hby at_139) rfl (l' := #[.val (.int p1), .val (.int p2), .val (.int p3), .val (.int (3 : Int32)), .val (.int (1 : Int32)), .val (.int ll), .val (.int oo), .val (.ref ad1), .val (.int (1 : Int32))]) rfl ?_
    refine XS.iload X9.here hx rfl (hb hby at_141) rfl ?_
    show Steps p.tables e below (T9.setTop (mkF m 143 #[.val (.int p1), .val (.int p2), .val (.int p3), .val (.int (3 : Int32)), .val (.int (1 : Int32)), .val (.int ll), .val (.int oo), .val (.ref ad1), .val (.int (1 : Int32))] [(.int (1 : Int32))])) _
    refine XS.ifNo X9.here hx rfl (hb hby at_143) rfl ((if0 _ _).trans (feq (by decide : ¬ ((1 : Int32) = (0 : Int32)))).1) ?_
    show Steps p.tables e below (T9.setTop (mkF m 146 #[.val (.int p1), .val (.int p2), .val (.int p3), .val (.int (3 : Int32)), .val (.int (1 : Int32)), .val (.int ll), .val (.int oo), .val (.ref ad1), .val (.int (1 : Int32))] [])) _
    refine XS.aload X9.here hx rfl (hb hby at_146) rfl rfl ?_
    refine XS.iload X9.here hx rfl (hb hby at_148) rfl ?_
    show Steps p.tables e below (T9.setTop (mkF m 150 #[.val (.int p1), .val (.int p2), .val (.int p3), .val (.int (3 : Int32)), .val (.int (1 : Int32)), .val (.int ll), .val (.int oo), .val (.ref ad1), .val (.int (1 : Int32))] [(.int oo), (.ref ad1)])) _
    refine st10.trans ?_
    show Steps p.tables e below (T10.setTop (mkF m 153 #[.val (.int p1), .val (.int p2), .val (.int p3), .val (.int (3 : Int32)), .val (.int (1 : Int32)), .val (.int ll), .val (.int oo), .val (.ref ad1), .val (.int (1 : Int32))] [(.int ((own_rH (own_rH (own_upd (own_upd (own_upd own_H0 ll (0 : Int32)) ll (1 : Int32)) ll (2 : Int32)) (own_upd (own_upd (own_upd own_zero (0 : Int32) (own_H0 ll)) (1 : Int32) ((own_upd own_H0 ll (0 : Int32)) ll)) (2 : Int32) ((own_upd (own_upd own_H0 ll (0 : Int32)) ll (1 : Int32)) ll)) (own_pP (own_upd (own_upd own_H0 ll (0 : Int32)) ll (1 : Int32)) (own_pP (own_upd own_H0 ll (0 : Int32)) (own_pP own_H0 own_zero ll (0 : Int32)) ll (1 : Int32)) ll (2 : Int32)) ll (1 : Int32)) (own_rN (own_upd (own_upd (own_upd own_zero (0 : Int32) (own_H0 ll)) (1 : Int32) ((own_upd own_H0 ll (0 : Int32)) ll)) (2 : Int32) ((own_upd (own_upd own_H0 ll (0 : Int32)) ll (1 : Int32)) ll)) (own_pP (own_upd (own_upd own_H0 ll (0 : Int32)) ll (1 : Int32)) (own_pP (own_upd own_H0 ll (0 : Int32)) (own_pP own_H0 own_zero ll (0 : Int32)) ll (1 : Int32)) ll (2 : Int32)) (1 : Int32)) (own_rP (own_upd (own_upd (own_upd own_zero (0 : Int32) (own_H0 ll)) (1 : Int32) ((own_upd own_H0 ll (0 : Int32)) ll)) (2 : Int32) ((own_upd (own_upd own_H0 ll (0 : Int32)) ll (1 : Int32)) ll)) (own_pP (own_upd (own_upd own_H0 ll (0 : Int32)) ll (1 : Int32)) (own_pP (own_upd own_H0 ll (0 : Int32)) (own_pP own_H0 own_zero ll (0 : Int32)) ll (1 : Int32)) ll (2 : Int32)) (1 : Int32)) ll (0 : Int32)) oo))])) _
    refine XS.iconst X10.here hx rfl (hb hby at_153) ?_
    show Steps p.tables e below (T10.setTop (mkF m 154 #[.val (.int p1), .val (.int p2), .val (.int p3), .val (.int (3 : Int32)), .val (.int (1 : Int32)), .val (.int ll), .val (.int oo), .val (.ref ad1), .val (.int (1 : Int32))] [(.int (-1 : Int32)), (.int ((own_rH (own_rH (own_upd (own_upd (own_upd own_H0 ll (0 : Int32)) ll (1 : Int32)) ll (2 : Int32)) (own_upd (own_upd (own_upd own_zero (0 : Int32) (own_H0 ll)) (1 : Int32) ((own_upd own_H0 ll (0 : Int32)) ll)) (2 : Int32) ((own_upd (own_upd own_H0 ll (0 : Int32)) ll (1 : Int32)) ll)) (own_pP (own_upd (own_upd own_H0 ll (0 : Int32)) ll (1 : Int32)) (own_pP (own_upd own_H0 ll (0 : Int32)) (own_pP own_H0 own_zero ll (0 : Int32)) ll (1 : Int32)) ll (2 : Int32)) ll (1 : Int32)) (own_rN (own_upd (own_upd (own_upd own_zero (0 : Int32) (own_H0 ll)) (1 : Int32) ((own_upd own_H0 ll (0 : Int32)) ll)) (2 : Int32) ((own_upd (own_upd own_H0 ll (0 : Int32)) ll (1 : Int32)) ll)) (own_pP (own_upd (own_upd own_H0 ll (0 : Int32)) ll (1 : Int32)) (own_pP (own_upd own_H0 ll (0 : Int32)) (own_pP own_H0 own_zero ll (0 : Int32)) ll (1 : Int32)) ll (2 : Int32)) (1 : Int32)) (own_rP (own_upd (own_upd (own_upd own_zero (0 : Int32) (own_H0 ll)) (1 : Int32) ((own_upd own_H0 ll (0 : Int32)) ll)) (2 : Int32) ((own_upd (own_upd own_H0 ll (0 : Int32)) ll (1 : Int32)) ll)) (own_pP (own_upd (own_upd own_H0 ll (0 : Int32)) ll (1 : Int32)) (own_pP (own_upd own_H0 ll (0 : Int32)) (own_pP own_H0 own_zero ll (0 : Int32)) ll (1 : Int32)) ll (2 : Int32)) (1 : Int32)) ll (0 : Int32)) oo))])) _
    refine XS.icmpNo X10.here hx rfl (hb hby at_154) rfl (teq (show ((own_rH (own_rH (own_upd (own_upd (own_upd own_H0 ll (0 : Int32)) ll (1 : Int32)) ll (2 : Int32)) (own_upd (own_upd (own_upd own_zero (0 : Int32) (own_H0 ll)) (1 : Int32) ((own_upd own_H0 ll (0 : Int32)) ll)) (2 : Int32) ((own_upd (own_upd own_H0 ll (0 : Int32)) ll (1 : Int32)) ll)) (own_pP (own_upd (own_upd own_H0 ll (0 : Int32)) ll (1 : Int32)) (own_pP (own_upd own_H0 ll (0 : Int32)) (own_pP own_H0 own_zero ll (0 : Int32)) ll (1 : Int32)) ll (2 : Int32)) ll (1 : Int32)) (own_rN (own_upd (own_upd (own_upd own_zero (0 : Int32) (own_H0 ll)) (1 : Int32) ((own_upd own_H0 ll (0 : Int32)) ll)) (2 : Int32) ((own_upd (own_upd own_H0 ll (0 : Int32)) ll (1 : Int32)) ll)) (own_pP (own_upd (own_upd own_H0 ll (0 : Int32)) ll (1 : Int32)) (own_pP (own_upd own_H0 ll (0 : Int32)) (own_pP own_H0 own_zero ll (0 : Int32)) ll (1 : Int32)) ll (2 : Int32)) (1 : Int32)) (own_rP (own_upd (own_upd (own_upd own_zero (0 : Int32) (own_H0 ll)) (1 : Int32) ((own_upd own_H0 ll (0 : Int32)) ll)) (2 : Int32) ((own_upd (own_upd own_H0 ll (0 : Int32)) ll (1 : Int32)) ll)) (own_pP (own_upd (own_upd own_H0 ll (0 : Int32)) ll (1 : Int32)) (own_pP (own_upd own_H0 ll (0 : Int32)) (own_pP own_H0 own_zero ll (0 : Int32)) ll (1 : Int32)) ll (2 : Int32)) (1 : Int32)) ll (0 : Int32)) oo) = (-1 : Int32) by subst hoo; rcases hl with rfl | rfl <;> decide +kernel)).2 ?_
    show Steps p.tables e below (T10.setTop (mkF m 157 #[.val (.int p1), .val (.int p2), .val (.int p3), .val (.int (3 : Int32)), .val (.int (1 : Int32)), .val (.int ll), .val (.int oo), .val (.ref ad1), .val (.int (1 : Int32))] [])) _
    refine XS.aload X10.here hx rfl (hb hby at_157) rfl rfl ?_
    refine XS.iload X10.here hx rfl (hb hby at_159) rfl ?_
    show Steps p.tables e below (T10.setTop (mkF m 161 #[.val (.int p1), .val (.int p2), .val (.int p3), .val (.int (3 : Int32)), .val (.int (1 : Int32)), .val (.int ll), .val (.int oo), .val (.ref ad1), .val (.int (1 : Int32))] [(.int oo), (.ref ad1)])) _
    refine st11.trans ?_
    show Steps p.tables e below (T11.setTop (mkF m 164 #[.val (.int p1), .val (.int p2), .val (.int p3), .val (.int (3 : Int32)), .val (.int (1 : Int32)), .val (.int ll), .val (.int oo), .val (.ref ad1), .val (.int (1 : Int32))] [(.int ((own_upd (own_upd (own_upd (own_upd (own_upd own_zero ll (own_zero ll + (1 : Int32))) ll ((own_upd own_zero ll (own_zero ll + (1 : Int32))) ll + (1 : Int32))) ll ((own_upd (own_upd own_zero ll (own_zero ll + (1 : Int32))) ll ((own_upd own_zero ll (own_zero ll + (1 : Int32))) ll + (1 : Int32))) ll + (1 : Int32))) ll ((own_upd (own_upd (own_upd own_zero ll (own_zero ll + (1 : Int32))) ll ((own_upd own_zero ll (own_zero ll + (1 : Int32))) ll + (1 : Int32))) ll ((own_upd (own_upd own_zero ll (own_zero ll + (1 : Int32))) ll ((own_upd own_zero ll (own_zero ll + (1 : Int32))) ll + (1 : Int32))) ll + (1 : Int32))) ll - (1 : Int32))) ll ((own_upd (own_upd (own_upd (own_upd own_zero ll (own_zero ll + (1 : Int32))) ll ((own_upd own_zero ll (own_zero ll + (1 : Int32))) ll + (1 : Int32))) ll ((own_upd (own_upd own_zero ll (own_zero ll + (1 : Int32))) ll ((own_upd own_zero ll (own_zero ll + (1 : Int32))) ll + (1 : Int32))) ll + (1 : Int32))) ll ((own_upd (own_upd (own_upd own_zero ll (own_zero ll + (1 : Int32))) ll ((own_upd own_zero ll (own_zero ll + (1 : Int32))) ll + (1 : Int32))) ll ((own_upd (own_upd own_zero ll (own_zero ll + (1 : Int32))) ll ((own_upd own_zero ll (own_zero ll + (1 : Int32))) ll + (1 : Int32))) ll + (1 : Int32))) ll - (1 : Int32))) ll - (1 : Int32))) oo))])) _
    refine XS.ifNo X11.here hx rfl (hb hby at_164) rfl ((if0 _ _).trans (teq (show ((own_upd (own_upd (own_upd (own_upd (own_upd own_zero ll (own_zero ll + (1 : Int32))) ll ((own_upd own_zero ll (own_zero ll + (1 : Int32))) ll + (1 : Int32))) ll ((own_upd (own_upd own_zero ll (own_zero ll + (1 : Int32))) ll ((own_upd own_zero ll (own_zero ll + (1 : Int32))) ll + (1 : Int32))) ll + (1 : Int32))) ll ((own_upd (own_upd (own_upd own_zero ll (own_zero ll + (1 : Int32))) ll ((own_upd own_zero ll (own_zero ll + (1 : Int32))) ll + (1 : Int32))) ll ((own_upd (own_upd own_zero ll (own_zero ll + (1 : Int32))) ll ((own_upd own_zero ll (own_zero ll + (1 : Int32))) ll + (1 : Int32))) ll + (1 : Int32))) ll - (1 : Int32))) ll ((own_upd (own_upd (own_upd (own_upd own_zero ll (own_zero ll + (1 : Int32))) ll ((own_upd own_zero ll (own_zero ll + (1 : Int32))) ll + (1 : Int32))) ll ((own_upd (own_upd own_zero ll (own_zero ll + (1 : Int32))) ll ((own_upd own_zero ll (own_zero ll + (1 : Int32))) ll + (1 : Int32))) ll + (1 : Int32))) ll ((own_upd (own_upd (own_upd own_zero ll (own_zero ll + (1 : Int32))) ll ((own_upd own_zero ll (own_zero ll + (1 : Int32))) ll + (1 : Int32))) ll ((own_upd (own_upd own_zero ll (own_zero ll + (1 : Int32))) ll ((own_upd own_zero ll (own_zero ll + (1 : Int32))) ll + (1 : Int32))) ll + (1 : Int32))) ll - (1 : Int32))) ll - (1 : Int32))) oo) = (0 : Int32) by subst hoo; rcases hl with rfl | rfl <;> decide +kernel)).2) ?_
    show Steps p.tables e below (T11.setTop (mkF m 167 #[.val (.int p1), .val (.int p2), .val (.int p3), .val (.int (3 : Int32)), .val (.int (1 : Int32)), .val (.int ll), .val (.int oo), .val (.ref ad1), .val (.int (1 : Int32))] [])) _
    refine XS.iconst X11.here hx rfl (hb hby at_167) ?_
    refine XS.goto X11.here hx rfl (pc0 := 168) (pc' := 172) rfl (hb hby at_168) (by decide) (by decide) ?_
    refine XS.istore X11.here hx rfl (hb hby at_172) rfl (l' := #[.val (.int p1), .val (.int p2), .val (.int p3), .val (.int (3 : Int32)), .val (.int (1 : Int32)), .val (.int ll), .val (.int oo), .val (.ref ad1), .val (.int (1 : Int32))]) rfl ?_
    refine XS.iload X11.here hx rfl (hb hby at_174) rfl ?_
    show Steps p.tables e below (T11.setTop (mkF m 176 #[.val (.int p1), .val (.int p2), .val (.int p3), .val (.int (3 : Int32)), .val (.int (1 : Int32)), .val (.int ll), .val (.int oo), .val (.ref ad1), .val (.int (1 : Int32))] [(.int (1 : Int32))])) _
    exact retN X11 hx (t := .boolean) Bd.returns (by simp) (hb hby at_176) hr
  · show Q0_3_1 Z p1 p2 p3 h0 n0 _ T11.heap _
    exact ⟨rfl, N11⟩
def Q0_3_2 (Z : State) (p1 p2 p3 : Int32) (h0 : Heap) (n0 : Nat) (v : Option Value) (h : Heap) (L : List Loc) : Prop := v = some (.int (1 : Int32)) ∧ Fr n0 L
set_option maxRecDepth 65536 in
set_option maxHeartbeats 40000000 in
theorem rm0_3_2 (l : Launch) (Z : State) (a0 : Array Value) (hw : ∀ d ∈ tables_1, d.before a0 Z = true) (ws : List Jvm.Cond) (p1 p2 p3 : Int32) (h0 : Heap) (n0 : Nat) (Z0 : n0 ≤ h0.size) (hN : ((1 : Int32) + ((p1 &&& (2147483647 : Int32)) % (3 : Int32))) = (3 : Int32)) (hE : ((p2 &&& (2147483647 : Int32)) % (3 : Int32)) = (2 : Int32)) :
    MetFree l x (head1 (Jvm.Cond.code x code maxLocals ret :: ws) room_1) (fun a U => a = #[(.int p1), (.int p2), (.int p3)] ∧ Z.Warmed39 U.vm ∧ U.heap = h0) (fun _ _ _ _ _ => True) (fun _ U o U' => ∃ v L, o = .returned v ∧ Q0_3_2 Z p1 p2 p3 h0 n0 v U'.heap L ∧ FrameEnd U o U' L room_1.cells room_1.slots) := by
  refine MetFree.of_bodySF (plainFor_of_name pn_0) hisR ?_
  intro p e s m args below meth c s₁ Bd hml0 hP hK
  obtain ⟨rfl, hZ, hh⟩ := hP
  have hx := Bd.exec
  have hby := Bd.bytes
  have hml : c.maxLocals = 9 := hml0
  have hown : s.vm.findClass "com/example/process_stepper/processstepper/equivalence/IntListsRemovePinLaw" = some m.cls := findClass_of_methodNamed Bd.named
  have hnm := (name_of_methodNamed Bd.named Bd.method).1
  have X0 : Stand p l e room_1 s m #[(.int p1), (.int p2), (.int p3)] below meth c s₁ [] 0 0 := Stand.of_body Bd
  have e0 : s₁.heap = h0 := by rw [← hh, Bd.state]; rfl
  have N0 := Fr.nil n0
  have pre0 : ∀ t, Steps p.tables e below (s₁.setTop (mkF m 0 #[.val (.int p1), .val (.int p2), .val (.int p3), .unset, .unset, .unset, .unset, .unset, .unset] [])) t → Steps p.tables e below (s₁.setTop (entryFrame m #[(.int p1), (.int p2), (.int p3)] maxLocals)) t := fun t k => castTop (ef_0 m p1 p2 p3) k
  obtain ⟨ll, hll⟩ : ∃ z : Int32, z = (p3 &&& (1 : Int32)) := ⟨_, rfl⟩
  have hl : ll = (0 : Int32) ∨ ll = (1 : Int32) := by rw [hll]; exact own_bit p3
  obtain ⟨oo, hoo⟩ : ∃ z : Int32, z = ((1 : Int32) - ll) := ⟨_, rfl⟩
  obtain ⟨T1, h1, X1, e1, E1, A1, D1, -, st1⟩ := newO X0 hx hZ hown (own_w hw 1 rfl) (own_w hw 2 rfl) (own_w hw 3 rfl) e0 (g := (mkF m 28 #[.val (.int p1), .val (.int p2), .val (.int p3), .val (.int (3 : Int32)), .val (.int (2 : Int32)), .val (.int ll), .val (.int oo), .unset, .unset] [])) rfl (hb hby at_28) (by decide) (by decide)
  obtain ⟨ad1, g1⟩ : ∃ z, z = h0.size := ⟨_, rfl⟩
  rw [← g1] at A1 D1 st1
  have gn_ad1 : n0 ≤ ad1 := Nat.le_trans Z0 (Nat.le_of_eq g1.symm)
  have sz_ad1 : h0.size ≤ ad1 := Nat.le_trans (Keep.refl h0 []).1 (Nat.le_of_eq g1.symm)
  have E_ad1_1 : Exa Z h1 ad1 "com/example/process_stepper/processstepper/equivalence/IntLists" := A1
  have F_heads_ad1_1 : Fld Z h1 ad1 "com/example/process_stepper/processstepper/equivalence/IntLists" "heads" "[I" .null := D1 (Or.inl (own_w hw 12 rfl)) (ty := (.array .int)) (by decide)
  have F_sizes_ad1_1 : Fld Z h1 ad1 "com/example/process_stepper/processstepper/equivalence/IntLists" "sizes" "[I" .null := D1 (Or.inl (own_w hw 18 rfl)) (ty := (.array .int)) (by decide)
  have F_next_ad1_1 : Fld Z h1 ad1 "com/example/process_stepper/processstepper/equivalence/IntLists" "next" "[I" .null := D1 (Or.inl (own_w hw 20 rfl)) (ty := (.array .int)) (by decide)
  have F_previous_ad1_1 : Fld Z h1 ad1 "com/example/process_stepper/processstepper/equivalence/IntLists" "previous" "[I" .null := D1 (Or.inl (own_w hw 22 rfl)) (ty := (.array .int)) (by decide)
  have K1 : Keep h0 h1 [] := (Keep.refl h0 []).ext E1
  have Zs1 : n0 ≤ h1.size := Nat.le_trans Z0 E1.1
  obtain ⟨_, _, ⟨T2, L2, k2, n2⟩, -, X2, ⟨Lc2, hQ2, l2, y2, z2⟩, st2⟩ := X1.specialBack hx (y := own_m5) rfl hown (mvT hZ (own_w hw 4 rfl)) (mvT hZ (own_w hw 5 rfl)) (mvT hZ (own_w hw 6 rfl)) (by decide) (backOf (W := 1) (rm1 l Z a0 hw [] ad1 h1 n0 Zs1 E_ad1_1 F_heads_ad1_1 F_sizes_ad1_1 F_next_ad1_1 F_previous_ad1_1 gn_ad1) hZ (own_w hw 6 rfl) (own_w hw 3 rfl) (by decide) (by decide)) (g := (mkF m 34 #[.val (.int p1), .val (.int p2), .val (.int p3), .val (.int (3 : Int32)), .val (.int (2 : Int32)), .val (.int ll), .val (.int oo), .unset, .unset] [(.int (3 : Int32)), (.int (2 : Int32)), (.ref ad1), (.ref ad1)])) rfl (by rw [hml]; rfl) (Steps.refl _) (a := ad1) (argsL := [(.int (2 : Int32)), (.int (3 : Int32))]) (rest := [(.ref ad1)]) (lenOf pd__II_V rfl) rfl (by show 2 * 0 + _ ≤ _; exact Nat.le_of_eq rfl) (hb hby at_34) (fun _ _ => ⟨rfl, e1, (by decide : 1 + 4 ≤ _), (by decide : 4 + 10 ≤ _)⟩)
  dsimp only [Pt.U, Pt.locs, Pt.cells, Pt.slots] at X2 l2 y2 z2 st2 hQ2
  subst l2 y2 z2
  obtain ⟨rfl, N2q, b1, b2, b3, b4, K2q, -, V2⟩ := hQ2
  have N2 := Fr.app N0 N2q
  have Zs2 : n0 ≤ T2.heap.size := Nat.le_trans Zs1 K2q.1
  obtain ⟨cq3, kq3, q3a, q3b, q3c⟩ := isOf hZ rfl (V2.1)
  obtain ⟨_, _, ⟨T3, L3, k3, n3⟩, -, X3, ⟨Lc3, hQ3, l3, y3, z3⟩, st3⟩ := X2.virtualBack hx (y := own_m6) (z := own_m6) hown (mvT hZ (own_w hw 23 rfl)) (mvT hZ (own_w hw 24 rfl)) (notFace_of_selects (args := #[]) (mvT hZ (own_w hw 26 rfl))) (mvT hZ (own_w hw 26 rfl)) (mvT hZ (own_w hw 25 rfl)) (by decide) (backOf (W := 0) (rm4 l Z a0 hw [] ad1 ll (0 : Int32) b1 b2 b3 b4 own_H0 own_zero own_zero own_zero T2.heap n0 Zs2 V2 (by rcases hl with rfl | rfl <;> decide +kernel) (by rcases hl with rfl | rfl <;> decide +kernel) (by decide) (by decide) (by unfold own_in; rcases hl with rfl | rfl <;> decide +kernel)) hZ (own_w hw 27 rfl) (own_w hw 3 rfl) (by decide) (by decide)) q3a q3c (g := (mkF m 44 #[.val (.int p1), .val (.int p2), .val (.int p3), .val (.int (3 : Int32)), .val (.int (2 : Int32)), .val (.int ll), .val (.int oo), .val (.ref ad1), .unset] [(.int (0 : Int32)), (.int ll), (.ref ad1)])) rfl (by rw [hml]; rfl) (Steps.refl _) (argsL := [(.int ll), (.int (0 : Int32))]) (rest := []) (lenOf pd__II_V rfl) rfl (by show 2 * 0 + _ ≤ _; exact Nat.le_of_eq rfl) (hb hby at_44) (fun _ _ => ⟨rfl, rfl, (by decide : 5 + 0 ≤ _), (by decide : 14 + 0 ≤ _)⟩)
  dsimp only [Pt.U, Pt.locs, Pt.cells, Pt.slots] at X3 l3 y3 z3 st3 hQ3
  subst l3 y3 z3
  obtain ⟨rfl, N3q, K3q, V3⟩ := hQ3
  have N3 := Fr.app N2 N3q
  have Zs3 : n0 ≤ T3.heap.size := Nat.le_trans Zs2 K3q.1
  obtain ⟨cq4, kq4, q4a, q4b, q4c⟩ := isOf hZ rfl (V3.1)
  obtain ⟨_, _, ⟨T4, L4, k4, n4⟩, -, X4, ⟨Lc4, hQ4, l4, y4, z4⟩, st4⟩ := X3.virtualBack hx (y := own_m6) (z := own_m6) hown (mvT hZ (own_w hw 23 rfl)) (mvT hZ (own_w hw 24 rfl)) (notFace_of_selects (args := #[]) (mvT hZ (own_w hw 26 rfl))) (mvT hZ (own_w hw 26 rfl)) (mvT hZ (own_w hw 25 rfl)) (by decide) (backOf (W := 0) (rm4 l Z a0 hw [] ad1 ll (1 : Int32) b1 b2 b3 b4 (own_upd own_H0 ll (0 : Int32)) (own_upd own_zero ll (own_zero ll + (1 : Int32))) (own_upd own_zero (0 : Int32) (own_H0 ll)) (own_pP own_H0 own_zero ll (0 : Int32)) T3.heap n0 Zs3 V3 (by rcases hl with rfl | rfl <;> decide +kernel) (by rcases hl with rfl | rfl <;> decide +kernel) (by decide) (by decide) (by unfold own_in; rcases hl with rfl | rfl <;> decide +kernel)) hZ (own_w hw 27 rfl) (own_w hw 3 rfl) (by decide) (by decide)) q4a q4c (g := (mkF m 57 #[.val (.int p1), .val (.int p2), .val (.int p3), .val (.int (3 : Int32)), .val (.int (2 : Int32)), .val (.int ll), .val (.int oo), .val (.ref ad1), .unset] [(.int (1 : Int32)), (.int ll), (.ref ad1)])) rfl (by rw [hml]; rfl) (Steps.refl _) (argsL := [(.int ll), (.int (1 : Int32))]) (rest := []) (lenOf pd__II_V rfl) rfl (by show 2 * 0 + _ ≤ _; exact Nat.le_of_eq rfl) (hb hby at_57) (fun _ _ => ⟨rfl, rfl, (by decide : 5 + 0 ≤ _), (by decide : 14 + 0 ≤ _)⟩)
  dsimp only [Pt.U, Pt.locs, Pt.cells, Pt.slots] at X4 l4 y4 z4 st4 hQ4
  subst l4 y4 z4
  obtain ⟨rfl, N4q, K4q, V4⟩ := hQ4
  have N4 := Fr.app N3 N4q
  have Zs4 : n0 ≤ T4.heap.size := Nat.le_trans Zs3 K4q.1
  obtain ⟨cq5, kq5, q5a, q5b, q5c⟩ := isOf hZ rfl (V4.1)
  obtain ⟨_, _, ⟨T5, L5, k5, n5⟩, -, X5, ⟨Lc5, hQ5, l5, y5, z5⟩, st5⟩ := X4.virtualBack hx (y := own_m6) (z := own_m6) hown (mvT hZ (own_w hw 23 rfl)) (mvT hZ (own_w hw 24 rfl)) (notFace_of_selects (args := #[]) (mvT hZ (own_w hw 26 rfl))) (mvT hZ (own_w hw 26 rfl)) (mvT hZ (own_w hw 25 rfl)) (by decide) (backOf (W := 0) (rm4 l Z a0 hw [] ad1 ll (2 : Int32) b1 b2 b3 b4 (own_upd (own_upd own_H0 ll (0 : Int32)) ll (1 : Int32)) (own_upd (own_upd own_zero ll (own_zero ll + (1 : Int32))) ll ((own_upd own_zero ll (own_zero ll + (1 : Int32))) ll + (1 : Int32))) (own_upd (own_upd own_zero (0 : Int32) (own_H0 ll)) (1 : Int32) ((own_upd own_H0 ll (0 : Int32)) ll)) (own_pP (own_upd own_H0 ll (0 : Int32)) (own_pP own_H0 own_zero ll (0 : Int32)) ll (1 : Int32)) T4.heap n0 Zs4 V4 (by rcases hl with rfl | rfl <;> decide +kernel) (by rcases hl with rfl | rfl <;> decide +kernel) (by decide) (by decide) (by unfold own_in; rcases hl with rfl | rfl <;> decide +kernel)) hZ (own_w hw 27 rfl) (own_w hw 3 rfl) (by decide) (by decide)) q5a q5c (g := (mkF m 70 #[.val (.int p1), .val (.int p2), .val (.int p3), .val (.int (3 : Int32)), .val (.int (2 : Int32)), .val (.int ll), .val (.int oo), .val (.ref ad1), .unset] [(.int (2 : Int32)), (.int ll), (.ref ad1)])) rfl (by rw [hml]; rfl) (Steps.refl _) (argsL := [(.int ll), (.int (2 : Int32))]) (rest := []) (lenOf pd__II_V rfl) rfl (by show 2 * 0 + _ ≤ _; exact Nat.le_of_eq rfl) (hb hby at_70) (fun _ _ => ⟨rfl, rfl, (by decide : 5 + 0 ≤ _), (by decide : 14 + 0 ≤ _)⟩)
  dsimp only [Pt.U, Pt.locs, Pt.cells, Pt.slots] at X5 l5 y5 z5 st5 hQ5
  subst l5 y5 z5
  obtain ⟨rfl, N5q, K5q, V5⟩ := hQ5
  have N5 := Fr.app N4 N5q
  have Zs5 : n0 ≤ T5.heap.size := Nat.le_trans Zs4 K5q.1
  obtain ⟨cq6, kq6, q6a, q6b, q6c⟩ := isOf hZ rfl (V5.1)
  obtain ⟨_, _, ⟨T6, L6, k6, n6⟩, -, X6, ⟨Lc6, hQ6, l6, y6, z6⟩, st6⟩ := X5.virtualBack hx (y := own_m7) (z := own_m7) hown (mvT hZ (own_w hw 28 rfl)) (mvT hZ (own_w hw 29 rfl)) (notFace_of_selects (args := #[]) (mvT hZ (own_w hw 31 rfl))) (mvT hZ (own_w hw 31 rfl)) (mvT hZ (own_w hw 30 rfl)) (by decide) (backOf (W := 0) (rm5 l Z a0 hw [] ad1 ll (2 : Int32) b1 b2 b3 b4 (own_upd (own_upd (own_upd own_H0 ll (0 : Int32)) ll (1 : Int32)) ll (2 : Int32)) (own_upd (own_upd (own_upd own_zero ll (own_zero ll + (1 : Int32))) ll ((own_upd own_zero ll (own_zero ll + (1 : Int32))) ll + (1 : Int32))) ll ((own_upd (own_upd own_zero ll (own_zero ll + (1 : Int32))) ll ((own_upd own_zero ll (own_zero ll + (1 : Int32))) ll + (1 : Int32))) ll + (1 : Int32))) (own_upd (own_upd (own_upd own_zero (0 : Int32) (own_H0 ll)) (1 : Int32) ((own_upd own_H0 ll (0 : Int32)) ll)) (2 : Int32) ((own_upd (own_upd own_H0 ll (0 : Int32)) ll (1 : Int32)) ll)) (own_pP (own_upd (own_upd own_H0 ll (0 : Int32)) ll (1 : Int32)) (own_pP (own_upd own_H0 ll (0 : Int32)) (own_pP own_H0 own_zero ll (0 : Int32)) ll (1 : Int32)) ll (2 : Int32)) T5.heap n0 Zs5 V5 (by rcases hl with rfl | rfl <;> decide +kernel) (by rcases hl with rfl | rfl <;> decide +kernel) (by decide) (by decide) (by unfold own_in; rcases hl with rfl | rfl <;> decide +kernel) (by unfold own_in; rcases hl with rfl | rfl <;> decide +kernel)) hZ (own_w hw 32 rfl) (own_w hw 3 rfl) (by decide) (by decide)) q6a q6c (g := (mkF m 79 #[.val (.int p1), .val (.int p2), .val (.int p3), .val (.int (3 : Int32)), .val (.int (2 : Int32)), .val (.int ll), .val (.int oo), .val (.ref ad1), .unset] [(.int (2 : Int32)), (.int ll), (.ref ad1)])) rfl (by rw [hml]; rfl) (Steps.refl _) (argsL := [(.int ll), (.int (2 : Int32))]) (rest := []) (lenOf pd__II_V rfl) rfl (by show 2 * 0 + _ ≤ _; exact Nat.le_of_eq rfl) (hb hby at_79) (fun _ _ => ⟨rfl, rfl, (by decide : 5 + 0 ≤ _), (by decide : 14 + 0 ≤ _)⟩)
  dsimp only [Pt.U, Pt.locs, Pt.cells, Pt.slots] at X6 l6 y6 z6 st6 hQ6
  subst l6 y6 z6
  obtain ⟨rfl, N6q, K6q, V6⟩ := hQ6
  have N6 := Fr.app N5 N6q
  have Zs6 : n0 ≤ T6.heap.size := Nat.le_trans Zs5 K6q.1
  obtain ⟨_, _, ⟨T7, L7, k7, n7⟩, -, X7, ⟨Lc7, hQ7, l7, y7, z7⟩, st7⟩ := Jvm.LawKit.callS X6 hx (y := own_m8) hown (mvT hZ (own_w hw 33 rfl)) (mvT hZ (own_w hw 34 rfl)) (mvT hZ (own_w hw 35 rfl)) (mvT hZ (own_w hw 36 rfl)) (by decide) (backOf (W := 0) (rm6_3_2_m1 l Z a0 hw [] ad1 ll b1 b2 b3 b4 (own_rH (own_upd (own_upd (own_upd own_H0 ll (0 : Int32)) ll (1 : Int32)) ll (2 : Int32)) (own_upd (own_upd (own_upd own_zero (0 : Int32) (own_H0 ll)) (1 : Int32) ((own_upd own_H0 ll (0 : Int32)) ll)) (2 : Int32) ((own_upd (own_upd own_H0 ll (0 : Int32)) ll (1 : Int32)) ll)) (own_pP (own_upd (own_upd own_H0 ll (0 : Int32)) ll (1 : Int32)) (own_pP (own_upd own_H0 ll (0 : Int32)) (own_pP own_H0 own_zero ll (0 : Int32)) ll (1 : Int32)) ll (2 : Int32)) ll (2 : Int32)) (own_upd (own_upd (own_upd (own_upd own_zero ll (own_zero ll + (1 : Int32))) ll ((own_upd own_zero ll (own_zero ll + (1 : Int32))) ll + (1 : Int32))) ll ((own_upd (own_upd own_zero ll (own_zero ll + (1 : Int32))) ll ((own_upd own_zero ll (own_zero ll + (1 : Int32))) ll + (1 : Int32))) ll + (1 : Int32))) ll ((own_upd (own_upd (own_upd own_zero ll (own_zero ll + (1 : Int32))) ll ((own_upd own_zero ll (own_zero ll + (1 : Int32))) ll + (1 : Int32))) ll ((own_upd (own_upd own_zero ll (own_zero ll + (1 : Int32))) ll ((own_upd own_zero ll (own_zero ll + (1 : Int32))) ll + (1 : Int32))) ll + (1 : Int32))) ll - (1 : Int32))) (own_rN (own_upd (own_upd (own_upd own_zero (0 : Int32) (own_H0 ll)) (1 : Int32) ((own_upd own_H0 ll (0 : Int32)) ll)) (2 : Int32) ((own_upd (own_upd own_H0 ll (0 : Int32)) ll (1 : Int32)) ll)) (own_pP (own_upd (own_upd own_H0 ll (0 : Int32)) ll (1 : Int32)) (own_pP (own_upd own_H0 ll (0 : Int32)) (own_pP own_H0 own_zero ll (0 : Int32)) ll (1 : Int32)) ll (2 : Int32)) (2 : Int32)) (own_rP (own_upd (own_upd (own_upd own_zero (0 : Int32) (own_H0 ll)) (1 : Int32) ((own_upd own_H0 ll (0 : Int32)) ll)) (2 : Int32) ((own_upd (own_upd own_H0 ll (0 : Int32)) ll (1 : Int32)) ll)) (own_pP (own_upd (own_upd own_H0 ll (0 : Int32)) ll (1 : Int32)) (own_pP (own_upd own_H0 ll (0 : Int32)) (own_pP own_H0 own_zero ll (0 : Int32)) ll (1 : Int32)) ll (2 : Int32)) (2 : Int32)) T6.heap n0 Zs6 V6 (by rcases hl with rfl | rfl <;> decide +kernel) (by rcases hl with rfl | rfl <;> decide +kernel) (by rcases hl with rfl | rfl <;> decide +kernel) (by rcases hl with rfl | rfl <;> decide +kernel) (by rcases hl with rfl | rfl <;> decide +kernel) (by rcases hl with rfl | rfl <;> decide +kernel)) hZ (own_w hw 36 rfl) (own_w hw 35 rfl) (by decide) (by decide)) (g := (mkF m 90 #[.val (.int p1), .val (.int p2), .val (.int p3), .val (.int (3 : Int32)), .val (.int (2 : Int32)), .val (.int ll), .val (.int oo), .val (.ref ad1), .unset] [(.int (-1 : Int32)), (.int (2 : Int32)), (.int (3 : Int32)), (.int ll), (.ref ad1)])) rfl (by rw [hml]; rfl) (argsL := [(.ref ad1), (.int ll), (.int (3 : Int32)), (.int (2 : Int32)), (.int (-1 : Int32))]) (rest := []) (lenOf pd__Lcom_example_process_stepper_processstepper_equivalence_IntLists_IIII_Z rfl) rfl (by show 2 * 0 + _ ≤ _; exact Nat.le_of_eq rfl) (hb hby at_90) (fun _ _ => ⟨rfl, rfl, (by decide : 5 + 1 ≤ _), (by decide : 14 + 3 ≤ _)⟩)
  dsimp only [Pt.U, Pt.locs, Pt.cells, Pt.slots] at X7 l7 y7 z7 st7 hQ7
  subst l7 y7 z7
  obtain ⟨rfl, N7q, K7q⟩ := hQ7
  have N7 := Fr.app N6 N7q
  have V7 : own_L Z n0 T7.heap ad1 b1 b2 b3 b4 (own_rH (own_upd (own_upd (own_upd own_H0 ll (0 : Int32)) ll (1 : Int32)) ll (2 : Int32)) (own_upd (own_upd (own_upd own_zero (0 : Int32) (own_H0 ll)) (1 : Int32) ((own_upd own_H0 ll (0 : Int32)) ll)) (2 : Int32) ((own_upd (own_upd own_H0 ll (0 : Int32)) ll (1 : Int32)) ll)) (own_pP (own_upd (own_upd own_H0 ll (0 : Int32)) ll (1 : Int32)) (own_pP (own_upd own_H0 ll (0 : Int32)) (own_pP own_H0 own_zero ll (0 : Int32)) ll (1 : Int32)) ll (2 : Int32)) ll (2 : Int32)) (own_upd (own_upd (own_upd (own_upd own_zero ll (own_zero ll + (1 : Int32))) ll ((own_upd own_zero ll (own_zero ll + (1 : Int32))) ll + (1 : Int32))) ll ((own_upd (own_upd own_zero ll (own_zero ll + (1 : Int32))) ll ((own_upd own_zero ll (own_zero ll + (1 : Int32))) ll + (1 : Int32))) ll + (1 : Int32))) ll ((own_upd (own_upd (own_upd own_zero ll (own_zero ll + (1 : Int32))) ll ((own_upd own_zero ll (own_zero ll + (1 : Int32))) ll + (1 : Int32))) ll ((own_upd (own_upd own_zero ll (own_zero ll + (1 : Int32))) ll ((own_upd own_zero ll (own_zero ll + (1 : Int32))) ll + (1 : Int32))) ll + (1 : Int32))) ll - (1 : Int32))) (own_rN (own_upd (own_upd (own_upd own_zero (0 : Int32) (own_H0 ll)) (1 : Int32) ((own_upd own_H0 ll (0 : Int32)) ll)) (2 : Int32) ((own_upd (own_upd own_H0 ll (0 : Int32)) ll (1 : Int32)) ll)) (own_pP (own_upd (own_upd own_H0 ll (0 : Int32)) ll (1 : Int32)) (own_pP (own_upd own_H0 ll (0 : Int32)) (own_pP own_H0 own_zero ll (0 : Int32)) ll (1 : Int32)) ll (2 : Int32)) (2 : Int32)) (own_rP (own_upd (own_upd (own_upd own_zero (0 : Int32) (own_H0 ll)) (1 : Int32) ((own_upd own_H0 ll (0 : Int32)) ll)) (2 : Int32) ((own_upd (own_upd own_H0 ll (0 : Int32)) ll (1 : Int32)) ll)) (own_pP (own_upd (own_upd own_H0 ll (0 : Int32)) ll (1 : Int32)) (own_pP (own_upd own_H0 ll (0 : Int32)) (own_pP own_H0 own_zero ll (0 : Int32)) ll (1 : Int32)) ll (2 : Int32)) (2 : Int32)) := own_L_keep V6 K7q nin0 nin0 nin0 nin0 nin0
  have Zs7 : n0 ≤ T7.heap.size := Nat.le_trans Zs6 K7q.1
  obtain ⟨cq8, kq8, q8a, q8b, q8c⟩ := isOf hZ rfl (V7.1)
  obtain ⟨_, _, ⟨T8, L8, k8, n8⟩, -, X8, ⟨Lc8, hQ8, l8, y8, z8⟩, st8⟩ := X7.virtualBack hx (y := own_m7) (z := own_m7) hown (mvT hZ (own_w hw 28 rfl)) (mvT hZ (own_w hw 29 rfl)) (notFace_of_selects (args := #[]) (mvT hZ (own_w hw 31 rfl))) (mvT hZ (own_w hw 31 rfl)) (mvT hZ (own_w hw 30 rfl)) (by decide) (backOf (W := 0) (rm5 l Z a0 hw [] ad1 ll (1 : Int32) b1 b2 b3 b4 (own_rH (own_upd (own_upd (own_upd own_H0 ll (0 : Int32)) ll (1 : Int32)) ll (2 : Int32)) (own_upd (own_upd (own_upd own_zero (0 : Int32) (own_H0 ll)) (1 : Int32) ((own_upd own_H0 ll (0 : Int32)) ll)) (2 : Int32) ((own_upd (own_upd own_H0 ll (0 : Int32)) ll (1 : Int32)) ll)) (own_pP (own_upd (own_upd own_H0 ll (0 : Int32)) ll (1 : Int32)) (own_pP (own_upd own_H0 ll (0 : Int32)) (own_pP own_H0 own_zero ll (0 : Int32)) ll (1 : Int32)) ll (2 : Int32)) ll (2 : Int32)) (own_upd (own_upd (own_upd (own_upd own_zero ll (own_zero ll + (1 : Int32))) ll ((own_upd own_zero ll (own_zero ll + (1 : Int32))) ll + (1 : Int32))) ll ((own_upd (own_upd own_zero ll (own_zero ll + (1 : Int32))) ll ((own_upd own_zero ll (own_zero ll + (1 : Int32))) ll + (1 : Int32))) ll + (1 : Int32))) ll ((own_upd (own_upd (own_upd own_zero ll (own_zero ll + (1 : Int32))) ll ((own_upd own_zero ll (own_zero ll + (1 : Int32))) ll + (1 : Int32))) ll ((own_upd (own_upd own_zero ll (own_zero ll + (1 : Int32))) ll ((own_upd own_zero ll (own_zero ll + (1 : Int32))) ll + (1 : Int32))) ll + (1 : Int32))) ll - (1 : Int32))) (own_rN (own_upd (own_upd (own_upd own_zero (0 : Int32) (own_H0 ll)) (1 : Int32) ((own_upd own_H0 ll (0 : Int32)) ll)) (2 : Int32) ((own_upd (own_upd own_H0 ll (0 : Int32)) ll (1 : Int32)) ll)) (own_pP (own_upd (own_upd own_H0 ll (0 : Int32)) ll (1 : Int32)) (own_pP (own_upd own_H0 ll (0 : Int32)) (own_pP own_H0 own_zero ll (0 : Int32)) ll (1 : Int32)) ll (2 : Int32)) (2 : Int32)) (own_rP (own_upd (own_upd (own_upd own_zero (0 : Int32) (own_H0 ll)) (1 : Int32) ((own_upd own_H0 ll (0 : Int32)) ll)) (2 : Int32) ((own_upd (own_upd own_H0 ll (0 : Int32)) ll (1 : Int32)) ll)) (own_pP (own_upd (own_upd own_H0 ll (0 : Int32)) ll (1 : Int32)) (own_pP (own_upd own_H0 ll (0 : Int32)) (own_pP own_H0 own_zero ll (0 : Int32)) ll (1 : Int32)) ll (2 : Int32)) (2 : Int32)) T7.heap n0 Zs7 V7 (by rcases hl with rfl | rfl <;> decide +kernel) (by rcases hl with rfl | rfl <;> decide +kernel) (by decide) (by decide) (by unfold own_in; rcases hl with rfl | rfl <;> decide +kernel) (by unfold own_in; rcases hl with rfl | rfl <;> decide +kernel)) hZ (own_w hw 32 rfl) (own_w hw 3 rfl) (by decide) (by decide)) q8a q8c (g := (mkF m 109 #[.val (.int p1), .val (.int p2), .val (.int p3), .val (.int (3 : Int32)), .val (.int (2 : Int32)), .val (.int ll), .val (.int oo), .val (.ref ad1), .val (.int (1 : Int32))] [(.int (1 : Int32)), (.int ll), (.ref ad1)])) rfl (by rw [hml]; rfl) (Steps.refl _) (argsL := [(.int ll), (.int (1 : Int32))]) (rest := []) (lenOf pd__II_V rfl) rfl (by show 2 * 0 + _ ≤ _; exact Nat.le_of_eq rfl) (hb hby at_109) (fun _ _ => ⟨rfl, rfl, (by decide : 6 + 0 ≤ _), (by decide : 17 + 0 ≤ _)⟩)
  dsimp only [Pt.U, Pt.locs, Pt.cells, Pt.slots] at X8 l8 y8 z8 st8 hQ8
  subst l8 y8 z8
  obtain ⟨rfl, N8q, K8q, V8⟩ := hQ8
  have N8 := Fr.app N7 N8q
  have Zs8 : n0 ≤ T8.heap.size := Nat.le_trans Zs7 K8q.1
  obtain ⟨_, _, ⟨T9, L9, k9, n9⟩, -, X9, ⟨Lc9, hQ9, l9, y9, z9⟩, st9⟩ := Jvm.LawKit.callS X8 hx (y := own_m8) hown (mvT hZ (own_w hw 33 rfl)) (mvT hZ (own_w hw 34 rfl)) (mvT hZ (own_w hw 35 rfl)) (mvT hZ (own_w hw 36 rfl)) (by decide) (backOf (W := 0) (rm6_3_2_1 l Z a0 hw [] ad1 ll b1 b2 b3 b4 (own_rH (own_rH (own_upd (own_upd (own_upd own_H0 ll (0 : Int32)) ll (1 : Int32)) ll (2 : Int32)) (own_upd (own_upd (own_upd own_zero (0 : Int32) (own_H0 ll)) (1 : Int32) ((own_upd own_H0 ll (0 : Int32)) ll)) (2 : Int32) ((own_upd (own_upd own_H0 ll (0 : Int32)) ll (1 : Int32)) ll)) (own_pP (own_upd (own_upd own_H0 ll (0 : Int32)) ll (1 : Int32)) (own_pP (own_upd own_H0 ll (0 : Int32)) (own_pP own_H0 own_zero ll (0 : Int32)) ll (1 : Int32)) ll (2 : Int32)) ll (2 : Int32)) (own_rN (own_upd (own_upd (own_upd own_zero (0 : Int32) (own_H0 ll)) (1 : Int32) ((own_upd own_H0 ll (0 : Int32)) ll)) (2 : Int32) ((own_upd (own_upd own_H0 ll (0 : Int32)) ll (1 : Int32)) ll)) (own_pP (own_upd (own_upd own_H0 ll (0 : Int32)) ll (1 : Int32)) (own_pP (own_upd own_H0 ll (0 : Int32)) (own_pP own_H0 own_zero ll (0 : Int32)) ll (1 : Int32)) ll (2 : Int32)) (2 : Int32)) (own_rP (own_upd (own_upd (own_upd own_zero (0 : Int32) (own_H0 ll)) (1 : Int32) ((own_upd own_H0 ll (0 : Int32)) ll)) (2 : Int32) ((own_upd (own_upd own_H0 ll (0 : Int32)) ll (1 : Int32)) ll)) (own_pP (own_upd (own_upd own_H0 ll (0 : Int32)) ll (1 : Int32)) (own_pP (own_upd own_H0 ll (0 : Int32)) (own_pP own_H0 own_zero ll (0 : Int32)) ll (1 : Int32)) ll (2 : Int32)) (2 : Int32)) ll (1 : Int32)) (own_upd (own_upd (own_upd (own_upd (own_upd own_zero ll (own_zero ll + (1 : Int32))) ll ((own_upd own_zero ll (own_zero ll + (1 : Int32))) ll + (1 : Int32))) ll ((own_upd (own_upd own_zero ll (own_zero ll + (1 : Int32))) ll ((own_upd own_zero ll (own_zero ll + (1 : Int32))) ll + (1 : Int32))) ll + (1 : Int32))) ll ((own_upd (own_upd (own_upd own_zero ll (own_zero ll + (1 : Int32))) ll ((own_upd own_zero ll (own_zero ll + (1 : Int32))) ll + (1 : Int32))) ll ((own_upd (own_upd own_zero ll (own_zero ll + (1 : Int32))) ll ((own_upd own_zero ll (own_zero ll + (1 : Int32))) ll + (1 : Int32))) ll + (1 : Int32))) ll - (1 : Int32))) ll ((own_upd (own_upd (own_upd (own_upd own_zero ll (own_zero ll + (1 : Int32))) ll ((own_upd own_zero ll (own_zero ll + (1 : Int32))) ll + (1 : Int32))) ll ((own_upd (own_upd own_zero ll (own_zero ll + (1 : Int32))) ll ((own_upd own_zero ll (own_zero ll + (1 : Int32))) ll + (1 : Int32))) ll + (1 : Int32))) ll ((own_upd (own_upd (own_upd own_zero ll (own_zero ll + (1 : Int32))) ll ((own_upd own_zero ll (own_zero ll + (1 : Int32))) ll + (1 : Int32))) ll ((own_upd (own_upd own_zero ll (own_zero ll + (1 : Int32))) ll ((own_upd own_zero ll (own_zero ll + (1 : Int32))) ll + (1 : Int32))) ll + (1 : Int32))) ll - (1 : Int32))) ll - (1 : Int32))) (own_rN (own_rN (own_upd (own_upd (own_upd own_zero (0 : Int32) (own_H0 ll)) (1 : Int32) ((own_upd own_H0 ll (0 : Int32)) ll)) (2 : Int32) ((own_upd (own_upd own_H0 ll (0 : Int32)) ll (1 : Int32)) ll)) (own_pP (own_upd (own_upd own_H0 ll (0 : Int32)) ll (1 : Int32)) (own_pP (own_upd own_H0 ll (0 : Int32)) (own_pP own_H0 own_zero ll (0 : Int32)) ll (1 : Int32)) ll (2 : Int32)) (2 : Int32)) (own_rP (own_upd (own_upd (own_upd own_zero (0 : Int32) (own_H0 ll)) (1 : Int32) ((own_upd own_H0 ll (0 : Int32)) ll)) (2 : Int32) ((own_upd (own_upd own_H0 ll (0 : Int32)) ll (1 : Int32)) ll)) (own_pP (own_upd (own_upd own_H0 ll (0 : Int32)) ll (1 : Int32)) (own_pP (own_upd own_H0 ll (0 : Int32)) (own_pP own_H0 own_zero ll (0 : Int32)) ll (1 : Int32)) ll (2 : Int32)) (2 : Int32)) (1 : Int32)) (own_rP (own_rN (own_upd (own_upd (own_upd own_zero (0 : Int32) (own_H0 ll)) (1 : Int32) ((own_upd own_H0 ll (0 : Int32)) ll)) (2 : Int32) ((own_upd (own_upd own_H0 ll (0 : Int32)) ll (1 : Int32)) ll)) (own_pP (own_upd (own_upd own_H0 ll (0 : Int32)) ll (1 : Int32)) (own_pP (own_upd own_H0 ll (0 : Int32)) (own_pP own_H0 own_zero ll (0 : Int32)) ll (1 : Int32)) ll (2 : Int32)) (2 : Int32)) (own_rP (own_upd (own_upd (own_upd own_zero (0 : Int32) (own_H0 ll)) (1 : Int32) ((own_upd own_H0 ll (0 : Int32)) ll)) (2 : Int32) ((own_upd (own_upd own_H0 ll (0 : Int32)) ll (1 : Int32)) ll)) (own_pP (own_upd (own_upd own_H0 ll (0 : Int32)) ll (1 : Int32)) (own_pP (own_upd own_H0 ll (0 : Int32)) (own_pP own_H0 own_zero ll (0 : Int32)) ll (1 : Int32)) ll (2 : Int32)) (2 : Int32)) (1 : Int32)) T8.heap n0 Zs8 V8 (by rcases hl with rfl | rfl <;> decide +kernel) (by rcases hl with rfl | rfl <;> decide +kernel) (by rcases hl with rfl | rfl <;> decide +kernel) (by rcases hl with rfl | rfl <;> decide +kernel) (by rcases hl with rfl | rfl <;> decide +kernel)) hZ (own_w hw 36 rfl) (own_w hw 35 rfl) (by decide) (by decide)) (g := (mkF m 128 #[.val (.int p1), .val (.int p2), .val (.int p3), .val (.int (3 : Int32)), .val (.int (2 : Int32)), .val (.int ll), .val (.int oo), .val (.ref ad1), .val (.int (1 : Int32))] [(.int (1 : Int32)), (.int (2 : Int32)), (.int (3 : Int32)), (.int ll), (.ref ad1)])) rfl (by rw [hml]; rfl) (argsL := [(.ref ad1), (.int ll), (.int (3 : Int32)), (.int (2 : Int32)), (.int (1 : Int32))]) (rest := []) (lenOf pd__Lcom_example_process_stepper_processstepper_equivalence_IntLists_IIII_Z rfl) rfl (by show 2 * 0 + _ ≤ _; exact Nat.le_of_eq rfl) (hb hby at_128) (fun _ _ => ⟨rfl, rfl, (by decide : 6 + 1 ≤ _), (by decide : 17 + 3 ≤ _)⟩)
  dsimp only [Pt.U, Pt.locs, Pt.cells, Pt.slots] at X9 l9 y9 z9 st9 hQ9
  subst l9 y9 z9
  obtain ⟨rfl, N9q, K9q⟩ := hQ9
  have N9 := Fr.app N8 N9q
  have V9 : own_L Z n0 T9.heap ad1 b1 b2 b3 b4 (own_rH (own_rH (own_upd (own_upd (own_upd own_H0 ll (0 : Int32)) ll (1 : Int32)) ll (2 : Int32)) (own_upd (own_upd (own_upd own_zero (0 : Int32) (own_H0 ll)) (1 : Int32) ((own_upd own_H0 ll (0 : Int32)) ll)) (2 : Int32) ((own_upd (own_upd own_H0 ll (0 : Int32)) ll (1 : Int32)) ll)) (own_pP (own_upd (own_upd own_H0 ll (0 : Int32)) ll (1 : Int32)) (own_pP (own_upd own_H0 ll (0 : Int32)) (own_pP own_H0 own_zero ll (0 : Int32)) ll (1 : Int32)) ll (2 : Int32)) ll (2 : Int32)) (own_rN (own_upd (own_upd (own_upd own_zero (0 : Int32) (own_H0 ll)) (1 : Int32) ((own_upd own_H0 ll (0 : Int32)) ll)) (2 : Int32) ((own_upd (own_upd own_H0 ll (0 : Int32)) ll (1 : Int32)) ll)) (own_pP (own_upd (own_upd own_H0 ll (0 : Int32)) ll (1 : Int32)) (own_pP (own_upd own_H0 ll (0 : Int32)) (own_pP own_H0 own_zero ll (0 : Int32)) ll (1 : Int32)) ll (2 : Int32)) (2 : Int32)) (own_rP (own_upd (own_upd (own_upd own_zero (0 : Int32) (own_H0 ll)) (1 : Int32) ((own_upd own_H0 ll (0 : Int32)) ll)) (2 : Int32) ((own_upd (own_upd own_H0 ll (0 : Int32)) ll (1 : Int32)) ll)) (own_pP (own_upd (own_upd own_H0 ll (0 : Int32)) ll (1 : Int32)) (own_pP (own_upd own_H0 ll (0 : Int32)) (own_pP own_H0 own_zero ll (0 : Int32)) ll (1 : Int32)) ll (2 : Int32)) (2 : Int32)) ll (1 : Int32)) (own_upd (own_upd (own_upd (own_upd (own_upd own_zero ll (own_zero ll + (1 : Int32))) ll ((own_upd own_zero ll (own_zero ll + (1 : Int32))) ll + (1 : Int32))) ll ((own_upd (own_upd own_zero ll (own_zero ll + (1 : Int32))) ll ((own_upd own_zero ll (own_zero ll + (1 : Int32))) ll + (1 : Int32))) ll + (1 : Int32))) ll ((own_upd (own_upd (own_upd own_zero ll (own_zero ll + (1 : Int32))) ll ((own_upd own_zero ll (own_zero ll + (1 : Int32))) ll + (1 : Int32))) ll ((own_upd (own_upd own_zero ll (own_zero ll + (1 : Int32))) ll ((own_upd own_zero ll (own_zero ll + (1 : Int32))) ll + (1 : Int32))) ll + (1 : Int32))) ll - (1 : Int32))) ll ((own_upd (own_upd (own_upd (own_upd own_zero ll (own_zero ll + (1 : Int32))) ll ((own_upd own_zero ll (own_zero ll + (1 : Int32))) ll + (1 : Int32))) ll ((own_upd (own_upd own_zero ll (own_zero ll + (1 : Int32))) ll ((own_upd own_zero ll (own_zero ll + (1 : Int32))) ll + (1 : Int32))) ll + (1 : Int32))) ll ((own_upd (own_upd (own_upd own_zero ll (own_zero ll + (1 : Int32))) ll ((own_upd own_zero ll (own_zero ll + (1 : Int32))) ll + (1 : Int32))) ll ((own_upd (own_upd own_zero ll (own_zero ll + (1 : Int32))) ll ((own_upd own_zero ll (own_zero ll + (1 : Int32))) ll + (1 : Int32))) ll + (1 : Int32))) ll - (1 : Int32))) ll - (1 : Int32))) (own_rN (own_rN (own_upd (own_upd (own_upd own_zero (0 : Int32) (own_H0 ll)) (1 : Int32) ((own_upd own_H0 ll (0 : Int32)) ll)) (2 : Int32) ((own_upd (own_upd own_H0 ll (0 : Int32)) ll (1 : Int32)) ll)) (own_pP (own_upd (own_upd own_H0 ll (0 : Int32)) ll (1 : Int32)) (own_pP (own_upd own_H0 ll (0 : Int32)) (own_pP own_H0 own_zero ll (0 : Int32)) ll (1 : Int32)) ll (2 : Int32)) (2 : Int32)) (own_rP (own_upd (own_upd (own_upd own_zero (0 : Int32) (own_H0 ll)) (1 : Int32) ((own_upd own_H0 ll (0 : Int32)) ll)) (2 : Int32) ((own_upd (own_upd own_H0 ll (0 : Int32)) ll (1 : Int32)) ll)) (own_pP (own_upd (own_upd own_H0 ll (0 : Int32)) ll (1 : Int32)) (own_pP (own_upd own_H0 ll (0 : Int32)) (own_pP own_H0 own_zero ll (0 : Int32)) ll (1 : Int32)) ll (2 : Int32)) (2 : Int32)) (1 : Int32)) (own_rP (own_rN (own_upd (own_upd (own_upd own_zero (0 : Int32) (own_H0 ll)) (1 : Int32) ((own_upd own_H0 ll (0 : Int32)) ll)) (2 : Int32) ((own_upd (own_upd own_H0 ll (0 : Int32)) ll (1 : Int32)) ll)) (own_pP (own_upd (own_upd own_H0 ll (0 : Int32)) ll (1 : Int32)) (own_pP (own_upd own_H0 ll (0 : Int32)) (own_pP own_H0 own_zero ll (0 : Int32)) ll (1 : Int32)) ll (2 : Int32)) (2 : Int32)) (own_rP (own_upd (own_upd (own_upd own_zero (0 : Int32) (own_H0 ll)) (1 : Int32) ((own_upd own_H0 ll (0 : Int32)) ll)) (2 : Int32) ((own_upd (own_upd own_H0 ll (0 : Int32)) ll (1 : Int32)) ll)) (own_pP (own_upd (own_upd own_H0 ll (0 : Int32)) ll (1 : Int32)) (own_pP (own_upd own_H0 ll (0 : Int32)) (own_pP own_H0 own_zero ll (0 : Int32)) ll (1 : Int32)) ll (2 : Int32)) (2 : Int32)) (1 : Int32)) := own_L_keep V8 K9q nin0 nin0 nin0 nin0 nin0
  have Zs9 : n0 ≤ T9.heap.size := Nat.le_trans Zs8 K9q.1
  obtain ⟨cq10, kq10, q10a, q10b, q10c⟩ := isOf hZ rfl (V9.1)
  obtain ⟨_, _, ⟨T10, L10, k10, n10⟩, -, X10, ⟨Lc10, hQ10, l10, y10, z10⟩, st10⟩ := X9.virtualBack hx (y := own_m3) (z := own_m3) hown (mvT hZ (own_w hw 42 rfl)) (mvT hZ (own_w hw 43 rfl)) (notFace_of_selects (args := #[]) (mvT hZ (own_w hw 45 rfl))) (mvT hZ (own_w hw 45 rfl)) (mvT hZ (own_w hw 44 rfl)) (by decide) (backOf (W := 0) (rm8 l Z a0 hw [] ad1 oo b1 b2 b3 b4 (own_rH (own_rH (own_upd (own_upd (own_upd own_H0 ll (0 : Int32)) ll (1 : Int32)) ll (2 : Int32)) (own_upd (own_upd (own_upd own_zero (0 : Int32) (own_H0 ll)) (1 : Int32) ((own_upd own_H0 ll (0 : Int32)) ll)) (2 : Int32) ((own_upd (own_upd own_H0 ll (0 : Int32)) ll (1 : Int32)) ll)) (own_pP (own_upd (own_upd own_H0 ll (0 : Int32)) ll (1 : Int32)) (own_pP (own_upd own_H0 ll (0 : Int32)) (own_pP own_H0 own_zero ll (0 : Int32)) ll (1 : Int32)) ll (2 : Int32)) ll (2 : Int32)) (own_rN (own_upd (own_upd (own_upd own_zero (0 : Int32) (own_H0 ll)) (1 : Int32) ((own_upd own_H0 ll (0 : Int32)) ll)) (2 : Int32) ((own_upd (own_upd own_H0 ll (0 : Int32)) ll (1 : Int32)) ll)) (own_pP (own_upd (own_upd own_H0 ll (0 : Int32)) ll (1 : Int32)) (own_pP (own_upd own_H0 ll (0 : Int32)) (own_pP own_H0 own_zero ll (0 : Int32)) ll (1 : Int32)) ll (2 : Int32)) (2 : Int32)) (own_rP (own_upd (own_upd (own_upd own_zero (0 : Int32) (own_H0 ll)) (1 : Int32) ((own_upd own_H0 ll (0 : Int32)) ll)) (2 : Int32) ((own_upd (own_upd own_H0 ll (0 : Int32)) ll (1 : Int32)) ll)) (own_pP (own_upd (own_upd own_H0 ll (0 : Int32)) ll (1 : Int32)) (own_pP (own_upd own_H0 ll (0 : Int32)) (own_pP own_H0 own_zero ll (0 : Int32)) ll (1 : Int32)) ll (2 : Int32)) (2 : Int32)) ll (1 : Int32)) (own_upd (own_upd (own_upd (own_upd (own_upd own_zero ll (own_zero ll + (1 : Int32))) ll ((own_upd own_zero ll (own_zero ll + (1 : Int32))) ll + (1 : Int32))) ll ((own_upd (own_upd own_zero ll (own_zero ll + (1 : Int32))) ll ((own_upd own_zero ll (own_zero ll + (1 : Int32))) ll + (1 : Int32))) ll + (1 : Int32))) ll ((own_upd (own_upd (own_upd own_zero ll (own_zero ll + (1 : Int32))) ll ((own_upd own_zero ll (own_zero ll + (1 : Int32))) ll + (1 : Int32))) ll ((own_upd (own_upd own_zero ll (own_zero ll + (1 : Int32))) ll ((own_upd own_zero ll (own_zero ll + (1 : Int32))) ll + (1 : Int32))) ll + (1 : Int32))) ll - (1 : Int32))) ll ((own_upd (own_upd (own_upd (own_upd own_zero ll (own_zero ll + (1 : Int32))) ll ((own_upd own_zero ll (own_zero ll + (1 : Int32))) ll + (1 : Int32))) ll ((own_upd (own_upd own_zero ll (own_zero ll + (1 : Int32))) ll ((own_upd own_zero ll (own_zero ll + (1 : Int32))) ll + (1 : Int32))) ll + (1 : Int32))) ll ((own_upd (own_upd (own_upd own_zero ll (own_zero ll + (1 : Int32))) ll ((own_upd own_zero ll (own_zero ll + (1 : Int32))) ll + (1 : Int32))) ll ((own_upd (own_upd own_zero ll (own_zero ll + (1 : Int32))) ll ((own_upd own_zero ll (own_zero ll + (1 : Int32))) ll + (1 : Int32))) ll + (1 : Int32))) ll - (1 : Int32))) ll - (1 : Int32))) (own_rN (own_rN (own_upd (own_upd (own_upd own_zero (0 : Int32) (own_H0 ll)) (1 : Int32) ((own_upd own_H0 ll (0 : Int32)) ll)) (2 : Int32) ((own_upd (own_upd own_H0 ll (0 : Int32)) ll (1 : Int32)) ll)) (own_pP (own_upd (own_upd own_H0 ll (0 : Int32)) ll (1 : Int32)) (own_pP (own_upd own_H0 ll (0 : Int32)) (own_pP own_H0 own_zero ll (0 : Int32)) ll (1 : Int32)) ll (2 : Int32)) (2 : Int32)) (own_rP (own_upd (own_upd (own_upd own_zero (0 : Int32) (own_H0 ll)) (1 : Int32) ((own_upd own_H0 ll (0 : Int32)) ll)) (2 : Int32) ((own_upd (own_upd own_H0 ll (0 : Int32)) ll (1 : Int32)) ll)) (own_pP (own_upd (own_upd own_H0 ll (0 : Int32)) ll (1 : Int32)) (own_pP (own_upd own_H0 ll (0 : Int32)) (own_pP own_H0 own_zero ll (0 : Int32)) ll (1 : Int32)) ll (2 : Int32)) (2 : Int32)) (1 : Int32)) (own_rP (own_rN (own_upd (own_upd (own_upd own_zero (0 : Int32) (own_H0 ll)) (1 : Int32) ((own_upd own_H0 ll (0 : Int32)) ll)) (2 : Int32) ((own_upd (own_upd own_H0 ll (0 : Int32)) ll (1 : Int32)) ll)) (own_pP (own_upd (own_upd own_H0 ll (0 : Int32)) ll (1 : Int32)) (own_pP (own_upd own_H0 ll (0 : Int32)) (own_pP own_H0 own_zero ll (0 : Int32)) ll (1 : Int32)) ll (2 : Int32)) (2 : Int32)) (own_rP (own_upd (own_upd (own_upd own_zero (0 : Int32) (own_H0 ll)) (1 : Int32) ((own_upd own_H0 ll (0 : Int32)) ll)) (2 : Int32) ((own_upd (own_upd own_H0 ll (0 : Int32)) ll (1 : Int32)) ll)) (own_pP (own_upd (own_upd own_H0 ll (0 : Int32)) ll (1 : Int32)) (own_pP (own_upd own_H0 ll (0 : Int32)) (own_pP own_H0 own_zero ll (0 : Int32)) ll (1 : Int32)) ll (2 : Int32)) (2 : Int32)) (1 : Int32)) T9.heap n0 Zs9 V9 (by subst hoo; rcases hl with rfl | rfl <;> decide +kernel) (by subst hoo; rcases hl with rfl | rfl <;> decide +kernel)) hZ (own_w hw 46 rfl) (own_w hw 3 rfl) (by decide) (by decide)) q10a q10c (g := (mkF m 150 #[.val (.int p1), .val (.int p2), .val (.int p3), .val (.int (3 : Int32)), .val (.int (2 : Int32)), .val (.int ll), .val (.int oo), .val (.ref ad1), .val (.int (1 : Int32))] [(.int oo), (.ref ad1)])) rfl (by rw [hml]; rfl) (Steps.refl _) (argsL := [(.int oo)]) (rest := []) (lenOf pd__I_I rfl) rfl (by show 2 * 0 + _ ≤ _; exact Nat.le_of_eq rfl) (hb hby at_150) (fun _ _ => ⟨rfl, rfl, (by decide : 7 + 0 ≤ _), (by decide : 20 + 0 ≤ _)⟩)
  dsimp only [Pt.U, Pt.locs, Pt.cells, Pt.slots] at X10 l10 y10 z10 st10 hQ10
  subst l10 y10 z10
  obtain ⟨rfl, N10q, q10⟩ := hQ10
  have N10 := Fr.app N9 N10q
  have e10' : T10.heap = T9.heap := q10
  obtain ⟨cq11, kq11, q11a, q11b, q11c⟩ := isOf hZ e10' (V9.1)
  obtain ⟨_, _, ⟨T11, L11, k11, n11⟩, -, X11, ⟨Lc11, hQ11, l11, y11, z11⟩, st11⟩ := X10.virtualBack hx (y := own_m2) (z := own_m2) hown (mvT hZ (own_w hw 37 rfl)) (mvT hZ (own_w hw 38 rfl)) (notFace_of_selects (args := #[]) (mvT hZ (own_w hw 40 rfl))) (mvT hZ (own_w hw 40 rfl)) (mvT hZ (own_w hw 39 rfl)) (by decide) (backOf (W := 0) (rm7 l Z a0 hw [] ad1 oo b1 b2 b3 b4 (own_rH (own_rH (own_upd (own_upd (own_upd own_H0 ll (0 : Int32)) ll (1 : Int32)) ll (2 : Int32)) (own_upd (own_upd (own_upd own_zero (0 : Int32) (own_H0 ll)) (1 : Int32) ((own_upd own_H0 ll (0 : Int32)) ll)) (2 : Int32) ((own_upd (own_upd own_H0 ll (0 : Int32)) ll (1 : Int32)) ll)) (own_pP (own_upd (own_upd own_H0 ll (0 : Int32)) ll (1 : Int32)) (own_pP (own_upd own_H0 ll (0 : Int32)) (own_pP own_H0 own_zero ll (0 : Int32)) ll (1 : Int32)) ll (2 : Int32)) ll (2 : Int32)) (own_rN (own_upd (own_upd (own_upd own_zero (0 : Int32) (own_H0 ll)) (1 : Int32) ((own_upd own_H0 ll (0 : Int32)) ll)) (2 : Int32) ((own_upd (own_upd own_H0 ll (0 : Int32)) ll (1 : Int32)) ll)) (own_pP (own_upd (own_upd own_H0 ll (0 : Int32)) ll (1 : Int32)) (own_pP (own_upd own_H0 ll (0 : Int32)) (own_pP own_H0 own_zero ll (0 : Int32)) ll (1 : Int32)) ll (2 : Int32)) (2 : Int32)) (own_rP (own_upd (own_upd (own_upd own_zero (0 : Int32) (own_H0 ll)) (1 : Int32) ((own_upd own_H0 ll (0 : Int32)) ll)) (2 : Int32) ((own_upd (own_upd own_H0 ll (0 : Int32)) ll (1 : Int32)) ll)) (own_pP (own_upd (own_upd own_H0 ll (0 : Int32)) ll (1 : Int32)) (own_pP (own_upd own_H0 ll (0 : Int32)) (own_pP own_H0 own_zero ll (0 : Int32)) ll (1 : Int32)) ll (2 : Int32)) (2 : Int32)) ll (1 : Int32)) (own_upd (own_upd (own_upd (own_upd (own_upd own_zero ll (own_zero ll + (1 : Int32))) ll ((own_upd own_zero ll (own_zero ll + (1 : Int32))) ll + (1 : Int32))) ll ((own_upd (own_upd own_zero ll (own_zero ll + (1 : Int32))) ll ((own_upd own_zero ll (own_zero ll + (1 : Int32))) ll + (1 : Int32))) ll + (1 : Int32))) ll ((own_upd (own_upd (own_upd own_zero ll (own_zero ll + (1 : Int32))) ll ((own_upd own_zero ll (own_zero ll + (1 : Int32))) ll + (1 : Int32))) ll ((own_upd (own_upd own_zero ll (own_zero ll + (1 : Int32))) ll ((own_upd own_zero ll (own_zero ll + (1 : Int32))) ll + (1 : Int32))) ll + (1 : Int32))) ll - (1 : Int32))) ll ((own_upd (own_upd (own_upd (own_upd own_zero ll (own_zero ll + (1 : Int32))) ll ((own_upd own_zero ll (own_zero ll + (1 : Int32))) ll + (1 : Int32))) ll ((own_upd (own_upd own_zero ll (own_zero ll + (1 : Int32))) ll ((own_upd own_zero ll (own_zero ll + (1 : Int32))) ll + (1 : Int32))) ll + (1 : Int32))) ll ((own_upd (own_upd (own_upd own_zero ll (own_zero ll + (1 : Int32))) ll ((own_upd own_zero ll (own_zero ll + (1 : Int32))) ll + (1 : Int32))) ll ((own_upd (own_upd own_zero ll (own_zero ll + (1 : Int32))) ll ((own_upd own_zero ll (own_zero ll + (1 : Int32))) ll + (1 : Int32))) ll + (1 : Int32))) ll - (1 : Int32))) ll - (1 : Int32))) (own_rN (own_rN (own_upd (own_upd (own_upd own_zero (0 : Int32) (own_H0 ll)) (1 : Int32) ((own_upd own_H0 ll (0 : Int32)) ll)) (2 : Int32) ((own_upd (own_upd own_H0 ll (0 : Int32)) ll (1 : Int32)) ll)) (own_pP (own_upd (own_upd own_H0 ll (0 : Int32)) ll (1 : Int32)) (own_pP (own_upd own_H0 ll (0 : Int32)) (own_pP own_H0 own_zero ll (0 : Int32)) ll (1 : Int32)) ll (2 : Int32)) (2 : Int32)) (own_rP (own_upd (own_upd (own_upd own_zero (0 : Int32) (own_H0 ll)) (1 : Int32) ((own_upd own_H0 ll (0 : Int32)) ll)) (2 : Int32) ((own_upd (own_upd own_H0 ll (0 : Int32)) ll (1 : Int32)) ll)) (own_pP (own_upd (own_upd own_H0 ll (0 : Int32)) ll (1 : Int32)) (own_pP (own_upd own_H0 ll (0 : Int32)) (own_pP own_H0 own_zero ll (0 : Int32)) ll (1 : Int32)) ll (2 : Int32)) (2 : Int32)) (1 : Int32)) (own_rP (own_rN (own_upd (own_upd (own_upd own_zero (0 : Int32) (own_H0 ll)) (1 : Int32) ((own_upd own_H0 ll (0 : Int32)) ll)) (2 : Int32) ((own_upd (own_upd own_H0 ll (0 : Int32)) ll (1 : Int32)) ll)) (own_pP (own_upd (own_upd own_H0 ll (0 : Int32)) ll (1 : Int32)) (own_pP (own_upd own_H0 ll (0 : Int32)) (own_pP own_H0 own_zero ll (0 : Int32)) ll (1 : Int32)) ll (2 : Int32)) (2 : Int32)) (own_rP (own_upd (own_upd (own_upd own_zero (0 : Int32) (own_H0 ll)) (1 : Int32) ((own_upd own_H0 ll (0 : Int32)) ll)) (2 : Int32) ((own_upd (own_upd own_H0 ll (0 : Int32)) ll (1 : Int32)) ll)) (own_pP (own_upd (own_upd own_H0 ll (0 : Int32)) ll (1 : Int32)) (own_pP (own_upd own_H0 ll (0 : Int32)) (own_pP own_H0 own_zero ll (0 : Int32)) ll (1 : Int32)) ll (2 : Int32)) (2 : Int32)) (1 : Int32)) T9.heap n0 Zs9 V9 (by subst hoo; rcases hl with rfl | rfl <;> decide +kernel) (by subst hoo; rcases hl with rfl | rfl <;> decide +kernel)) hZ (own_w hw 41 rfl) (own_w hw 3 rfl) (by decide) (by decide)) q11a q11c (g := (mkF m 161 #[.val (.int p1), .val (.int p2), .val (.int p3), .val (.int (3 : Int32)), .val (.int (2 : Int32)), .val (.int ll), .val (.int oo), .val (.ref ad1), .val (.int (1 : Int32))] [(.int oo), (.ref ad1)])) rfl (by rw [hml]; rfl) (Steps.refl _) (argsL := [(.int oo)]) (rest := []) (lenOf pd__I_I rfl) rfl (by show 2 * 0 + _ ≤ _; exact Nat.le_of_eq rfl) (hb hby at_161) (fun _ _ => ⟨rfl, e10', (by decide : 7 + 0 ≤ _), (by decide : 20 + 0 ≤ _)⟩)
  dsimp only [Pt.U, Pt.locs, Pt.cells, Pt.slots] at X11 l11 y11 z11 st11 hQ11
  subst l11 y11 z11
  obtain ⟨rfl, N11q, q11⟩ := hQ11
  have N11 := Fr.app N10 N11q
  have e11' : T11.heap = T9.heap := q11
  obtain ⟨fs, hr, hrun, hended, hW, hsame⟩ := X11.leave (v := some (.int (1 : Int32))) (fun h => by rw [Bd.returns] at h; cases h)
  refine ⟨_, _, pre0 _ ?_, hrun, hended, _, _, rfl, ?_, ⟨_, rfl⟩, hW, hsame.mono (by decide) (by decide)⟩
  · show Steps p.tables e below (s₁.setTop (mkF m 0 #[.val (.int p1), .val (.int p2), .val (.int p3), .unset, .unset, .unset, .unset, .unset, .unset] [])) _
    refine XS.iconst X0.here hx rfl (hb hby at_0) ?_
    refine XS.iloadN X0.here hx rfl (hb hby at_1) rfl ?_
    show Steps p.tables e below (s₁.setTop (mkF m 2 #[.val (.int p1), .val (.int p2), .val (.int p3), .unset, .unset, .unset, .unset, .unset, .unset] [(.int p1), (.int (1 : Int32))])) _
    refine X0.ldcInt hx hown (mvT hZ (own_w hw 0 rfl)) (g := (mkF m 2 #[.val (.int p1), .val (.int p2), .val (.int p3), .unset, .unset, .unset, .unset, .unset, .unset] [(.int p1), (.int (1 : Int32))])) rfl (hb hby at_2) _ ?_
    show Steps p.tables e below (s₁.setTop (mkF m 4 #[.val (.int p1), .val (.int p2), .val (.int p3), .unset, .unset, .unset, .unset, .unset, .unset] [(.int (2147483647 : Int32)), (.int p1), (.int (1 : Int32))])) _
    refine XS.iand X0.here hx rfl (hb hby at_4) rfl ?_
    show Steps p.tables e below (s₁.setTop (mkF m 5 #[.val (.int p1), .val (.int p2), .val (.int p3), .unset, .unset, .unset, .unset, .unset, .unset] [(.int (p1 &&& (2147483647 : Int32))), (.int (1 : Int32))])) _
    refine XS.iconst X0.here hx rfl (hb hby at_5) ?_
    show Steps p.tables e below (s₁.setTop (mkF m 6 #[.val (.int p1), .val (.int p2), .val (.int p3), .unset, .unset, .unset, .unset, .unset, .unset] [(.int (3 : Int32)), (.int (p1 &&& (2147483647 : Int32))), (.int (1 : Int32))])) _
    refine iremM X0 hx rfl (hb hby at_6) rfl (by decide) ?_
    show Steps p.tables e below (s₁.setTop (mkF m 7 #[.val (.int p1), .val (.int p2), .val (.int p3), .unset, .unset, .unset, .unset, .unset, .unset] [(.int ((p1 &&& (2147483647 : Int32)) % (3 : Int32))), (.int (1 : Int32))])) _
    refine XS.iadd X0.here hx rfl (hb hby at_7) rfl ?_
    rw [hN]
    show Steps p.tables e below (s₁.setTop (mkF m 8 #[.val (.int p1), .val (.int p2), .val (.int p3), .unset, .unset, .unset, .unset, .unset, .unset] [(.int (3 : Int32))])) _
    refine XS.istoreN X0.here hx rfl (hb hby at_8) rfl (l' := #[.val (.int p1), .val (.int p2), .val (.int p3), .val (.int (3 : Int32)), .unset, .unset, .unset, .unset, .unset]) rfl ?_
    refine XS.iloadN X0.here hx rfl (hb hby at_9) rfl ?_
    show Steps p.tables e below (s₁.setTop (mkF m 10 #[.val (.int p1), .val (.int p2), .val (.int p3), .val (.int (3 : Int32)), .unset, .unset, .unset, .unset, .unset] [(.int p2)])) _
    refine X0.ldcInt hx hown (mvT hZ (own_w hw 0 rfl)) (g := (mkF m 10 #[.val (.int p1), .val (.int p2), .val (.int p3), .val (.int (3 : Int32)), .unset, .unset, .unset, .unset, .unset] [(.int p2)])) rfl (hb hby at_10) _ ?_
    show Steps p.tables e below (s₁.setTop (mkF m 12 #[.val (.int p1), .val (.int p2), .val (.int p3), .val (.int (3 : Int32)), .unset, .unset, .unset, .unset, .unset] [(.int (2147483647 : Int32)), (.int p2)])) _
    refine XS.iand X0.here hx rfl (hb hby at_12) rfl ?_
    show Steps p.tables e below (s₁.setTop (mkF m 13 #[.val (.int p1), .val (.int p2), .val (.int p3), .val (.int (3 : Int32)), .unset, .unset, .unset, .unset, .unset] [(.int (p2 &&& (2147483647 : Int32)))])) _
    refine XS.iloadN X0.here hx rfl (hb hby at_13) rfl ?_
    show Steps p.tables e below (s₁.setTop (mkF m 14 #[.val (.int p1), .val (.int p2), .val (.int p3), .val (.int (3 : Int32)), .unset, .unset, .unset, .unset, .unset] [(.int (3 : Int32)), (.int (p2 &&& (2147483647 : Int32)))])) _
    refine iremM X0 hx rfl (hb hby at_14) rfl (by decide) ?_
    rw [hE]
    show Steps p.tables e below (s₁.setTop (mkF m 15 #[.val (.int p1), .val (.int p2), .val (.int p3), .val (.int (3 : Int32)), .unset, .unset, .unset, .unset, .unset] [(.int (2 : Int32))])) _
    refine XS.istore X0.here hx rfl (hb hby at_15) rfl (l' := #[.val (.int p1), .val (.int p2), .val (.int p3), .val (.int (3 : Int32)), .val (.int (2 : Int32)), .unset, .unset, .unset, .unset]) rfl ?_
    refine XS.iloadN X0.here hx rfl (hb hby at_17) rfl ?_
    refine XS.iconst X0.here hx rfl (hb hby at_18) ?_
    show Steps p.tables e below (s₁.setTop (mkF m 19 #[.val (.int p1), .val (.int p2), .val (.int p3), .val (.int (3 : Int32)), .val (.int (2 : Int32)), .unset, .unset, .unset, .unset] [(.int (1 : Int32)), (.int p3)])) _
    refine XS.iand X0.here hx rfl (hb hby at_19) rfl ?_
    rw [← hll]
    show Steps p.tables e below (s₁.setTop (mkF m 20 #[.val (.int p1), .val (.int p2), .val (.int p3), .val (.int (3 : Int32)), .val (.int (2 : Int32)), .unset, .unset, .unset, .unset] [(.int ll)])) _
    refine XS.istore X0.here hx rfl (hb hby at_20) rfl (l' := #[.val (.int p1), .val (.int p2), .val (.int p3), .val (.int (3 : Int32)), .val (.int (2 : Int32)), .val (.int ll), .unset, .unset, .unset]) rfl ?_
    refine XS.iconst X0.here hx rfl (hb hby at_22) ?_
    refine XS.iload X0.here hx rfl (hb hby at_23) rfl ?_
    show Steps p.tables e below (s₁.setTop (mkF m 25 #[.val (.int p1), .val (.int p2), .val (.int p3), .val (.int (3 : Int32)), .val (.int (2 : Int32)), .val (.int ll), .unset, .unset, .unset] [(.int ll), (.int (1 : Int32))])) _
    refine XS.isub X0.here hx rfl (hb hby at_25) rfl ?_
    rw [← hoo]
    show Steps p.tables e below (s₁.setTop (mkF m 26 #[.val (.int p1), .val (.int p2), .val (.int p3), .val (.int (3 : Int32)), .val (.int (2 : Int32)), .val (.int ll), .unset, .unset, .unset] [(.int oo)])) _
    refine XS.istore X0.here hx rfl (hb hby at_26) rfl (l' := #[.val (.int p1), .val (.int p2), .val (.int p3), .val (.int (3 : Int32)), .val (.int (2 : Int32)), .val (.int ll), .val (.int oo), .unset, .unset]) rfl ?_
    show Steps p.tables e below (s₁.setTop (mkF m 28 #[.val (.int p1), .val (.int p2), .val (.int p3), .val (.int (3 : Int32)), .val (.int (2 : Int32)), .val (.int ll), .val (.int oo), .unset, .unset] [])) _
    refine st1 _ ?_
    show Steps p.tables e below (T1.setTop (mkF m 31 #[.val (.int p1), .val (.int p2), .val (.int p3), .val (.int (3 : Int32)), .val (.int (2 : Int32)), .val (.int ll), .val (.int oo), .unset, .unset] [(.ref ad1)])) _
    refine XS.dup X1.here hx rfl (hb hby at_31) rfl rfl ?_
    refine XS.iconst X1.here hx rfl (hb hby at_32) ?_
    refine XS.iconst X1.here hx rfl (hb hby at_33) ?_
    show Steps p.tables e below (T1.setTop (mkF m 34 #[.val (.int p1), .val (.int p2), .val (.int p3), .val (.int (3 : Int32)), .val (.int (2 : Int32)), .val (.int ll), .val (.int oo), .unset, .unset] [(.int (3 : Int32)), (.int (2 : Int32)), (.ref ad1), (.ref ad1)])) _
    refine st2.trans ?_
    show Steps p.tables e below (T2.setTop (mkF m 37 #[.val (.int p1), .val (.int p2), .val (.int p3), .val (.int (3 : Int32)), .val (.int (2 : Int32)), .val (.int ll), .val (.int oo), .unset, .unset] [(.ref ad1)])) _
    refine XS.astore X2.here hx rfl (hb hby at_37) rfl rfl (l' := #[.val (.int p1), .val (.int p2), .val (.int p3), .val (.int (3 : Int32)), .val (.int (2 : Int32)), .val (.int ll), .val (.int oo), .val (.ref ad1), .unset]) rfl ?_
    refine XS.aload X2.here hx rfl (hb hby at_39) rfl rfl ?_
    refine XS.iload X2.here hx rfl (hb hby at_41) rfl ?_
    refine XS.iconst X2.here hx rfl (hb hby at_43) ?_
    show Steps p.tables e below (T2.setTop (mkF m 44 #[.val (.int p1), .val (.int p2), .val (.int p3), .val (.int (3 : Int32)), .val (.int (2 : Int32)), .val (.int ll), .val (.int oo), .val (.ref ad1), .unset] [(.int (0 : Int32)), (.int ll), (.ref ad1)])) _
    refine st3.trans ?_
    show Steps p.tables e below (T3.setTop (mkF m 47 #[.val (.int p1), .val (.int p2), .val (.int p3), .val (.int (3 : Int32)), .val (.int (2 : Int32)), .val (.int ll), .val (.int oo), .val (.ref ad1), .unset] [])) _
    refine XS.iloadN X3.here hx rfl (hb hby at_47) rfl ?_
    refine XS.iconst X3.here hx rfl (hb hby at_48) ?_
    show Steps p.tables e below (T3.setTop (mkF m 49 #[.val (.int p1), .val (.int p2), .val (.int p3), .val (.int (3 : Int32)), .val (.int (2 : Int32)), .val (.int ll), .val (.int oo), .val (.ref ad1), .unset] [(.int (2 : Int32)), (.int (3 : Int32))])) _
    refine XS.icmpNo X3.here hx rfl (hb hby at_49) rfl (flt (by decide : ¬ ((3 : Int32) < (2 : Int32)))).1 ?_
    show Steps p.tables e below (T3.setTop (mkF m 52 #[.val (.int p1), .val (.int p2), .val (.int p3), .val (.int (3 : Int32)), .val (.int (2 : Int32)), .val (.int ll), .val (.int oo), .val (.ref ad1), .unset] [])) _
    refine XS.aload X3.here hx rfl (hb hby at_52) rfl rfl ?_
    refine XS.iload X3.here hx rfl (hb hby at_54) rfl ?_
    refine XS.iconst X3.here hx rfl (hb hby at_56) ?_
    show Steps p.tables e below (T3.setTop (mkF m 57 #[.val (.int p1), .val (.int p2), .val (.int p3), .val (.int (3 : Int32)), .val (.int (2 : Int32)), .val (.int ll), .val (.int oo), .val (.ref ad1), .unset] [(.int (1 : Int32)), (.int ll), (.ref ad1)])) _
    refine st4.trans ?_
    show Steps p.tables e below (T4.setTop (mkF m 60 #[.val (.int p1), .val (.int p2), .val (.int p3), .val (.int (3 : Int32)), .val (.int (2 : Int32)), .val (.int ll), .val (.int oo), .val (.ref ad1), .unset] [])) _
    refine XS.iloadN X4.here hx rfl (hb hby at_60) rfl ?_
    refine XS.iconst X4.here hx rfl (hb hby at_61) ?_
    show Steps p.tables e below (T4.setTop (mkF m 62 #[.val (.int p1), .val (.int p2), .val (.int p3), .val (.int (3 : Int32)), .val (.int (2 : Int32)), .val (.int ll), .val (.int oo), .val (.ref ad1), .unset] [(.int (3 : Int32)), (.int (3 : Int32))])) _
    refine XS.icmpNo X4.here hx rfl (hb hby at_62) rfl (flt (by decide : ¬ ((3 : Int32) < (3 : Int32)))).1 ?_
    show Steps p.tables e below (T4.setTop (mkF m 65 #[.val (.int p1), .val (.int p2), .val (.int p3), .val (.int (3 : Int32)), .val (.int (2 : Int32)), .val (.int ll), .val (.int oo), .val (.ref ad1), .unset] [])) _
    refine XS.aload X4.here hx rfl (hb hby at_65) rfl rfl ?_
    refine XS.iload X4.here hx rfl (hb hby at_67) rfl ?_
    refine XS.iconst X4.here hx rfl (hb hby at_69) ?_
    show Steps p.tables e below (T4.setTop (mkF m 70 #[.val (.int p1), .val (.int p2), .val (.int p3), .val (.int (3 : Int32)), .val (.int (2 : Int32)), .val (.int ll), .val (.int oo), .val (.ref ad1), .unset] [(.int (2 : Int32)), (.int ll), (.ref ad1)])) _
    refine st5.trans ?_
    show Steps p.tables e below (T5.setTop (mkF m 73 #[.val (.int p1), .val (.int p2), .val (.int p3), .val (.int (3 : Int32)), .val (.int (2 : Int32)), .val (.int ll), .val (.int oo), .val (.ref ad1), .unset] [])) _
    refine XS.aload X5.here hx rfl (hb hby at_73) rfl rfl ?_
    refine XS.iload X5.here hx rfl (hb hby at_75) rfl ?_
    refine XS.iload X5.here hx rfl (hb hby at_77) rfl ?_
    show Steps p.tables e below (T5.setTop (mkF m 79 #[.val (.int p1), .val (.int p2), .val (.int p3), .val (.int (3 : Int32)), .val (.int (2 : Int32)), .val (.int ll), .val (.int oo), .val (.ref ad1), .unset] [(.int (2 : Int32)), (.int ll), (.ref ad1)])) _
    refine st6.trans ?_
    show Steps p.tables e below (T6.setTop (mkF m 82 #[.val (.int p1), .val (.int p2), .val (.int p3), .val (.int (3 : Int32)), .val (.int (2 : Int32)), .val (.int ll), .val (.int oo), .val (.ref ad1), .unset] [])) _
    refine XS.aload X6.here hx rfl (hb hby at_82) rfl rfl ?_
    refine XS.iload X6.here hx rfl (hb hby at_84) rfl ?_
    refine XS.iloadN X6.here hx rfl (hb hby at_86) rfl ?_
    refine XS.iload X6.here hx rfl (hb hby at_87) rfl ?_
    refine XS.iconst X6.here hx rfl (hb hby at_89) ?_
    show Steps p.tables e below (T6.setTop (mkF m 90 #[.val (.int p1), .val (.int p2), .val (.int p3), .val (.int (3 : Int32)), .val (.int (2 : Int32)), .val (.int ll), .val (.int oo), .val (.ref ad1), .unset] [(.int (-1 : Int32)), (.int (2 : Int32)), (.int (3 : Int32)), (.int ll), (.ref ad1)])) _
    refine st7 _ ?_
    show Steps p.tables e below (T7.setTop (mkF m 93 #[.val (.int p1), .val (.int p2), .val (.int p3), .val (.int (3 : Int32)), .val (.int (2 : Int32)), .val (.int ll), .val (.int oo), .val (.ref ad1), .unset] [(.int (1 : Int32))])) _
    refine XS.istore X7.here hx rfl (hb hby at_93) rfl (l' := #[.val (.int p1), .val (.int p2), .val (.int p3), .val (.int (3 : Int32)), .val (.int (2 : Int32)), .val (.int ll), .val (.int oo), .val (.ref ad1), .val (.int (1 : Int32))]) rfl ?_
    refine XS.iload X7.here hx rfl (hb hby at_95) rfl ?_
    refine XS.iconst X7.here hx rfl (hb hby at_97) ?_
    show Steps p.tables e below (T7.setTop (mkF m 98 #[.val (.int p1), .val (.int p2), .val (.int p3), .val (.int (3 : Int32)), .val (.int (2 : Int32)), .val (.int ll), .val (.int oo), .val (.ref ad1), .val (.int (1 : Int32))] [(.int (1 : Int32)), (.int (2 : Int32))])) _
    refine XS.icmpNo X7.here hx rfl (hb hby at_98) rfl (flt (by decide : ¬ ((2 : Int32) < (1 : Int32)))).1 ?_
    show Steps p.tables e below (T7.setTop (mkF m 101 #[.val (.int p1), .val (.int p2), .val (.int p3), .val (.int (3 : Int32)), .val (.int (2 : Int32)), .val (.int ll), .val (.int oo), .val (.ref ad1), .val (.int (1 : Int32))] [])) _
    refine XS.aload X7.here hx rfl (hb hby at_101) rfl rfl ?_
    refine XS.iload X7.here hx rfl (hb hby at_103) rfl ?_
    refine XS.iload X7.here hx rfl (hb hby at_105) rfl ?_
    refine XS.iconst X7.here hx rfl (hb hby at_107) ?_
    show Steps p.tables e below (T7.setTop (mkF m 108 #[.val (.int p1), .val (.int p2), .val (.int p3), .val (.int (3 : Int32)), .val (.int (2 : Int32)), .val (.int ll), .val (.int oo), .val (.ref ad1), .val (.int (1 : Int32))] [(.int (1 : Int32)), (.int (2 : Int32)), (.int ll), (.ref ad1)])) _
    refine XS.isub X7.here hx rfl (hb hby at_108) rfl ?_
    show Steps p.tables e below (T7.setTop (mkF m 109 #[.val (.int p1), .val (.int p2), .val (.int p3), .val (.int (3 : Int32)), .val (.int (2 : Int32)), .val (.int ll), .val (.int oo), .val (.ref ad1), .val (.int (1 : Int32))] [(.int (1 : Int32)), (.int ll), (.ref ad1)])) _
    refine st8.trans ?_
    show Steps p.tables e below (T8.setTop (mkF m 112 #[.val (.int p1), .val (.int p2), .val (.int p3), .val (.int (3 : Int32)), .val (.int (2 : Int32)), .val (.int ll), .val (.int oo), .val (.ref ad1), .val (.int (1 : Int32))] [])) _
    refine XS.iload X8.here hx rfl (hb hby at_112) rfl ?_
    show Steps p.tables e below (T8.setTop (mkF m 114 #[.val (.int p1), .val (.int p2), .val (.int p3), .val (.int (3 : Int32)), .val (.int (2 : Int32)), .val (.int ll), .val (.int oo), .val (.ref ad1), .val (.int (1 : Int32))] [(.int (1 : Int32))])) _
    refine XS.ifNo X8.here hx rfl (hb hby at_114) rfl ((if0 _ _).trans (feq (by decide : ¬ ((1 : Int32) = (0 : Int32)))).1) ?_
    show Steps p.tables e below (T8.setTop (mkF m 117 #[.val (.int p1), .val (.int p2), .val (.int p3), .val (.int (3 : Int32)), .val (.int (2 : Int32)), .val (.int ll), .val (.int oo), .val (.ref ad1), .val (.int (1 : Int32))] [])) _
    refine XS.aload X8.here hx rfl (hb hby at_117) rfl rfl ?_
    refine XS.iload X8.here hx rfl (hb hby at_119) rfl ?_
    refine XS.iloadN X8.here hx rfl (hb hby at_121) rfl ?_
    refine XS.iload X8.here hx rfl (hb hby at_122) rfl ?_
    refine XS.iload X8.here hx rfl (hb hby at_124) rfl ?_
    refine XS.iconst X8.here hx rfl (hb hby at_126) ?_
    show Steps p.tables e below (T8.setTop (mkF m 127 #[.val (.int p1), .val (.int p2), .val (.int p3), .val (.int (3 : Int32)), .val (.int (2 : Int32)), .val (.int ll), .val (.int oo), .val (.ref ad1), .val (.int (1 : Int32))] [(.int (1 : Int32)), (.int (2 : Int32)), (.int (2 : Int32)), (.int (3 : Int32)), (.int ll), (.ref ad1)])) _
    refine XS.isub X8.here hx rfl (hb hby at_127) rfl ?_
    show Steps p.tables e below (T8.setTop (mkF m 128 #[.val (.int p1), .val (.int p2), .val (.int p3), .val (.int (3 : Int32)), .val (.int (2 : Int32)), .val (.int ll), .val (.int oo), .val (.ref ad1), .val (.int (1 : Int32))] [(.int (1 : Int32)), (.int (2 : Int32)), (.int (3 : Int32)), (.int ll), (.ref ad1)])) _
    refine st9 _ ?_
    show Steps p.tables e below (T9.setTop (mkF m 131 #[.val (.int p1), .val (.int p2), .val (.int p3), .val (.int (3 : Int32)), .val (.int (2 : Int32)), .val (.int ll), .val (.int oo), .val (.ref ad1), .val (.int (1 : Int32))] [(.int (1 : Int32))])) _
    refine XS.ifNo X9.here hx rfl (hb hby at_131) rfl ((if0 _ _).trans (feq (by decide : ¬ ((1 : Int32) = (0 : Int32)))).1) ?_
    show Steps p.tables e below (T9.setTop (mkF m 134 #[.val (.int p1), .val (.int p2), .val (.int p3), .val (.int (3 : Int32)), .val (.int (2 : Int32)), .val (.int ll), .val (.int oo), .val (.ref ad1), .val (.int (1 : Int32))] [])) _
    refine XS.iconst X9.here hx rfl (hb hby at_134) ?_
    refine XS.goto X9.here hx rfl (pc0 := 135) (pc' := 139) rfl (hb hby at_135) (by decide) (by decide) ?_
    refine XS.istore X9.here hx rfl (hb hby at_139) rfl (l' := #[.val (.int p1), .val (.int p2), .val (.int p3), .val (.int (3 : Int32)), .val (.int (2 : Int32)), .val (.int ll), .val (.int oo), .val (.ref ad1), .val (.int (1 : Int32))]) rfl ?_
    refine XS.iload X9.here hx rfl (hb hby at_141) rfl ?_
    show Steps p.tables e below (T9.setTop (mkF m 143 #[.val (.int p1), .val (.int p2), .val (.int p3), .val (.int (3 : Int32)), .val (.int (2 : Int32)), .val (.int ll), .val (.int oo), .val (.ref ad1), .val (.int (1 : Int32))] [(.int (1 : Int32))])) _
    refine XS.ifNo X9.here hx rfl (hb hby at_143) rfl ((if0 _ _).trans (feq (by decide : ¬ ((1 : Int32) = (0 : Int32)))).1) ?_
    show Steps p.tables e below (T9.setTop (mkF m 146 #[.val (.int p1), .val (.int p2), .val (.int p3), .val (.int (3 : Int32)), .val (.int (2 : Int32)), .val (.int ll), .val (.int oo), .val (.ref ad1), .val (.int (1 : Int32))] [])) _
    refine XS.aload X9.here hx rfl (hb hby at_146) rfl rfl ?_
    refine XS.iload X9.here hx rfl (hb hby at_148) rfl ?_
    show Steps p.tables e below (T9.setTop (mkF m 150 #[.val (.int p1), .val (.int p2), .val (.int p3), .val (.int (3 : Int32)), .val (.int (2 : Int32)), .val (.int ll), .val (.int oo), .val (.ref ad1), .val (.int (1 : Int32))] [(.int oo), (.ref ad1)])) _
    refine st10.trans ?_
    show Steps p.tables e below (T10.setTop (mkF m 153 #[.val (.int p1), .val (.int p2), .val (.int p3), .val (.int (3 : Int32)), .val (.int (2 : Int32)), .val (.int ll), .val (.int oo), .val (.ref ad1), .val (.int (1 : Int32))] [(.int ((own_rH (own_rH (own_upd (own_upd (own_upd own_H0 ll (0 : Int32)) ll (1 : Int32)) ll (2 : Int32)) (own_upd (own_upd (own_upd own_zero (0 : Int32) (own_H0 ll)) (1 : Int32) ((own_upd own_H0 ll (0 : Int32)) ll)) (2 : Int32) ((own_upd (own_upd own_H0 ll (0 : Int32)) ll (1 : Int32)) ll)) (own_pP (own_upd (own_upd own_H0 ll (0 : Int32)) ll (1 : Int32)) (own_pP (own_upd own_H0 ll (0 : Int32)) (own_pP own_H0 own_zero ll (0 : Int32)) ll (1 : Int32)) ll (2 : Int32)) ll (2 : Int32)) (own_rN (own_upd (own_upd (own_upd own_zero (0 : Int32) (own_H0 ll)) (1 : Int32) ((own_upd own_H0 ll (0 : Int32)) ll)) (2 : Int32) ((own_upd (own_upd own_H0 ll (0 : Int32)) ll (1 : Int32)) ll)) (own_pP (own_upd (own_upd own_H0 ll (0 : Int32)) ll (1 : Int32)) (own_pP (own_upd own_H0 ll (0 : Int32)) (own_pP own_H0 own_zero ll (0 : Int32)) ll (1 : Int32)) ll (2 : Int32)) (2 : Int32)) (own_rP (own_upd (own_upd (own_upd own_zero (0 : Int32) (own_H0 ll)) (1 : Int32) ((own_upd own_H0 ll (0 : Int32)) ll)) (2 : Int32) ((own_upd (own_upd own_H0 ll (0 : Int32)) ll (1 : Int32)) ll)) (own_pP (own_upd (own_upd own_H0 ll (0 : Int32)) ll (1 : Int32)) (own_pP (own_upd own_H0 ll (0 : Int32)) (own_pP own_H0 own_zero ll (0 : Int32)) ll (1 : Int32)) ll (2 : Int32)) (2 : Int32)) ll (1 : Int32)) oo))])) _
    refine XS.iconst X10.here hx rfl (hb hby at_153) ?_
    show Steps p.tables e below (T10.setTop (mkF m 154 #[.val (.int p1), .val (.int p2), .val (.int p3), .val (.int (3 : Int32)), .val (.int (2 : Int32)), .val (.int ll), .val (.int oo), .val (.ref ad1), .val (.int (1 : Int32))] [(.int (-1 : Int32)), (.int ((own_rH (own_rH (own_upd (own_upd (own_upd own_H0 ll (0 : Int32)) ll (1 : Int32)) ll (2 : Int32)) (own_upd (own_upd (own_upd own_zero (0 : Int32) (own_H0 ll)) (1 : Int32) ((own_upd own_H0 ll (0 : Int32)) ll)) (2 : Int32) ((own_upd (own_upd own_H0 ll (0 : Int32)) ll (1 : Int32)) ll)) (own_pP (own_upd (own_upd own_H0 ll (0 : Int32)) ll (1 : Int32)) (own_pP (own_upd own_H0 ll (0 : Int32)) (own_pP own_H0 own_zero ll (0 : Int32)) ll (1 : Int32)) ll (2 : Int32)) ll (2 : Int32)) (own_rN (own_upd (own_upd (own_upd own_zero (0 : Int32) (own_H0 ll)) (1 : Int32) ((own_upd own_H0 ll (0 : Int32)) ll)) (2 : Int32) ((own_upd (own_upd own_H0 ll (0 : Int32)) ll (1 : Int32)) ll)) (own_pP (own_upd (own_upd own_H0 ll (0 : Int32)) ll (1 : Int32)) (own_pP (own_upd own_H0 ll (0 : Int32)) (own_pP own_H0 own_zero ll (0 : Int32)) ll (1 : Int32)) ll (2 : Int32)) (2 : Int32)) (own_rP (own_upd (own_upd (own_upd own_zero (0 : Int32) (own_H0 ll)) (1 : Int32) ((own_upd own_H0 ll (0 : Int32)) ll)) (2 : Int32) ((own_upd (own_upd own_H0 ll (0 : Int32)) ll (1 : Int32)) ll)) (own_pP (own_upd (own_upd own_H0 ll (0 : Int32)) ll (1 : Int32)) (own_pP (own_upd own_H0 ll (0 : Int32)) (own_pP own_H0 own_zero ll (0 : Int32)) ll (1 : Int32)) ll (2 : Int32)) (2 : Int32)) ll (1 : Int32)) oo))])) _
    refine XS.icmpNo X10.here hx rfl (hb hby at_154) rfl (teq (show ((own_rH (own_rH (own_upd (own_upd (own_upd own_H0 ll (0 : Int32)) ll (1 : Int32)) ll (2 : Int32)) (own_upd (own_upd (own_upd own_zero (0 : Int32) (own_H0 ll)) (1 : Int32) ((own_upd own_H0 ll (0 : Int32)) ll)) (2 : Int32) ((own_upd (own_upd own_H0 ll (0 : Int32)) ll (1 : Int32)) ll)) (own_pP (own_upd (own_upd own_H0 ll (0 : Int32)) ll (1 : Int32)) (own_pP (own_upd own_H0 ll (0 : Int32)) (own_pP own_H0 own_zero ll (0 : Int32)) ll (1 : Int32)) ll (2 : Int32)) ll (2 : Int32)) (own_rN (own_upd (own_upd (own_upd own_zero (0 : Int32) (own_H0 ll)) (1 : Int32) ((own_upd own_H0 ll (0 : Int32)) ll)) (2 : Int32) ((own_upd (own_upd own_H0 ll (0 : Int32)) ll (1 : Int32)) ll)) (own_pP (own_upd (own_upd own_H0 ll (0 : Int32)) ll (1 : Int32)) (own_pP (own_upd own_H0 ll (0 : Int32)) (own_pP own_H0 own_zero ll (0 : Int32)) ll (1 : Int32)) ll (2 : Int32)) (2 : Int32)) (own_rP (own_upd (own_upd (own_upd own_zero (0 : Int32) (own_H0 ll)) (1 : Int32) ((own_upd own_H0 ll (0 : Int32)) ll)) (2 : Int32) ((own_upd (own_upd own_H0 ll (0 : Int32)) ll (1 : Int32)) ll)) (own_pP (own_upd (own_upd own_H0 ll (0 : Int32)) ll (1 : Int32)) (own_pP (own_upd own_H0 ll (0 : Int32)) (own_pP own_H0 own_zero ll (0 : Int32)) ll (1 : Int32)) ll (2 : Int32)) (2 : Int32)) ll (1 : Int32)) oo) = (-1 : Int32) by subst hoo; rcases hl with rfl | rfl <;> decide +kernel)).2 ?_
    show Steps p.tables e below (T10.setTop (mkF m 157 #[.val (.int p1), .val (.int p2), .val (.int p3), .val (.int (3 : Int32)), .val (.int (2 : Int32)), .val (.int ll), .val (.int oo), .val (.ref ad1), .val (.int (1 : Int32))] [])) _
    refine XS.aload X10.here hx rfl (hb hby at_157) rfl rfl ?_
    refine XS.iload X10.here hx rfl (hb hby at_159) rfl ?_
    show Steps p.tables e below (T10.setTop (mkF m 161 #[.val (.int p1), .val (.int p2), .val (.int p3), .val (.int (3 : Int32)), .val (.int (2 : Int32)), .val (.int ll), .val (.int oo), .val (.ref ad1), .val (.int (1 : Int32))] [(.int oo), (.ref ad1)])) _
    refine st11.trans ?_
    show Steps p.tables e below (T11.setTop (mkF m 164 #[.val (.int p1), .val (.int p2), .val (.int p3), .val (.int (3 : Int32)), .val (.int (2 : Int32)), .val (.int ll), .val (.int oo), .val (.ref ad1), .val (.int (1 : Int32))] [(.int ((own_upd (own_upd (own_upd (own_upd (own_upd own_zero ll (own_zero ll + (1 : Int32))) ll ((own_upd own_zero ll (own_zero ll + (1 : Int32))) ll + (1 : Int32))) ll ((own_upd (own_upd own_zero ll (own_zero ll + (1 : Int32))) ll ((own_upd own_zero ll (own_zero ll + (1 : Int32))) ll + (1 : Int32))) ll + (1 : Int32))) ll ((own_upd (own_upd (own_upd own_zero ll (own_zero ll + (1 : Int32))) ll ((own_upd own_zero ll (own_zero ll + (1 : Int32))) ll + (1 : Int32))) ll ((own_upd (own_upd own_zero ll (own_zero ll + (1 : Int32))) ll ((own_upd own_zero ll (own_zero ll + (1 : Int32))) ll + (1 : Int32))) ll + (1 : Int32))) ll - (1 : Int32))) ll ((own_upd (own_upd (own_upd (own_upd own_zero ll (own_zero ll + (1 : Int32))) ll ((own_upd own_zero ll (own_zero ll + (1 : Int32))) ll + (1 : Int32))) ll ((own_upd (own_upd own_zero ll (own_zero ll + (1 : Int32))) ll ((own_upd own_zero ll (own_zero ll + (1 : Int32))) ll + (1 : Int32))) ll + (1 : Int32))) ll ((own_upd (own_upd (own_upd own_zero ll (own_zero ll + (1 : Int32))) ll ((own_upd own_zero ll (own_zero ll + (1 : Int32))) ll + (1 : Int32))) ll ((own_upd (own_upd own_zero ll (own_zero ll + (1 : Int32))) ll ((own_upd own_zero ll (own_zero ll + (1 : Int32))) ll + (1 : Int32))) ll + (1 : Int32))) ll - (1 : Int32))) ll - (1 : Int32))) oo))])) _
    refine XS.ifNo X11.here hx rfl (hb hby at_164) rfl ((if0 _ _).trans (teq (show ((own_upd (own_upd (own_upd (own_upd (own_upd own_zero ll (own_zero ll + (1 : Int32))) ll ((own_upd own_zero ll (own_zero ll + (1 : Int32))) ll + (1 : Int32))) ll ((own_upd (own_upd own_zero ll (own_zero ll + (1 : Int32))) ll ((own_upd own_zero ll (own_zero ll + (1 : Int32))) ll + (1 : Int32))) ll + (1 : Int32))) ll ((own_upd (own_upd (own_upd own_zero ll (own_zero ll + (1 : Int32))) ll ((own_upd own_zero ll (own_zero ll + (1 : Int32))) ll + (1 : Int32))) ll ((own_upd (own_upd own_zero ll (own_zero ll + (1 : Int32))) ll ((own_upd own_zero ll (own_zero ll + (1 : Int32))) ll + (1 : Int32))) ll + (1 : Int32))) ll - (1 : Int32))) ll ((own_upd (own_upd (own_upd (own_upd own_zero ll (own_zero ll + (1 : Int32))) ll ((own_upd own_zero ll (own_zero ll + (1 : Int32))) ll + (1 : Int32))) ll ((own_upd (own_upd own_zero ll (own_zero ll + (1 : Int32))) ll ((own_upd own_zero ll (own_zero ll + (1 : Int32))) ll + (1 : Int32))) ll + (1 : Int32))) ll ((own_upd (own_upd (own_upd own_zero ll (own_zero ll + (1 : Int32))) ll ((own_upd own_zero ll (own_zero ll + (1 : Int32))) ll + (1 : Int32))) ll ((own_upd (own_upd own_zero ll (own_zero ll + (1 : Int32))) ll ((own_upd own_zero ll (own_zero ll + (1 : Int32))) ll + (1 : Int32))) ll + (1 : Int32))) ll - (1 : Int32))) ll - (1 : Int32))) oo) = (0 : Int32) by subst hoo; rcases hl with rfl | rfl <;> decide +kernel)).2) ?_
    show Steps p.tables e below (T11.setTop (mkF m 167 #[.val (.int p1), .val (.int p2), .val (.int p3), .val (.int (3 : Int32)), .val (.int (2 : Int32)), .val (.int ll), .val (.int oo), .val (.ref ad1), .val (.int (1 : Int32))] [])) _
    refine XS.iconst X11.here hx rfl (hb hby at_167) ?_
    refine XS.goto X11.here hx rfl (pc0 := 168) (pc' := 172) rfl (hb hby at_168) (by decide) (by decide) ?_
    refine XS.istore X11.here hx rfl (hb hby at_172) rfl (l' := #[.val (.int p1), .val (.int p2), .val (.int p3), .val (.int (3 : Int32)), .val (.int (2 : Int32)), .val (.int ll), .val (.int oo), .val (.ref ad1), .val (.int (1 : Int32))]) rfl ?_
    refine XS.iload X11.here hx rfl (hb hby at_174) rfl ?_
    show Steps p.tables e below (T11.setTop (mkF m 176 #[.val (.int p1), .val (.int p2), .val (.int p3), .val (.int (3 : Int32)), .val (.int (2 : Int32)), .val (.int ll), .val (.int oo), .val (.ref ad1), .val (.int (1 : Int32))] [(.int (1 : Int32))])) _
    exact retN X11 hx (t := .boolean) Bd.returns (by simp) (hb hby at_176) hr
  · show Q0_3_2 Z p1 p2 p3 h0 n0 _ T11.heap _
    exact ⟨rfl, N11⟩
def Q0 (Z : State) (p1 p2 p3 : Int32) (h0 : Heap) (n0 : Nat) (v : Option Value) (h : Heap) (L : List Loc) : Prop := v = some (.int (1 : Int32)) ∧ Fr n0 L
theorem rm0 (l : Launch) (Z : State) (a0 : Array Value) (hw : ∀ d ∈ tables_1, d.before a0 Z = true) (ws : List Jvm.Cond) (p1 p2 p3 : Int32) (h0 : Heap) (n0 : Nat) (Z0 : n0 ≤ h0.size) :
    MetFree l x (head1 (Jvm.Cond.code x code maxLocals ret :: ws) room_1) (fun a U => a = #[(.int p1), (.int p2), (.int p3)] ∧ Z.Warmed39 U.vm ∧ U.heap = h0) (fun _ _ _ _ _ => True) (fun _ U o U' => ∃ v L, o = .returned v ∧ Q0 Z p1 p2 p3 h0 n0 v U'.heap L ∧ FrameEnd U o U' L room_1.cells room_1.slots) := by
  obtain ⟨r, hr⟩ : ∃ z : Int32, z = ((p1 &&& (2147483647 : Int32)) % (3 : Int32)) := ⟨_, rfl⟩
  have r3 := own_mod p1 3 r 3 (by decide) (by decide) hr
  rcases own_small r r3.1 r3.2 with q | q | q
  · have hN : ((1 : Int32) + ((p1 &&& (2147483647 : Int32)) % (3 : Int32))) = (1 : Int32) := by rw [← hr, q]; decide
    obtain ⟨e, he⟩ : ∃ z : Int32, z = ((p2 &&& (2147483647 : Int32)) % (1 : Int32)) := ⟨_, rfl⟩
    have e3 := own_mod p2 1 e 1 (by decide) (by decide) he
    rcases own_small e e3.1 (by omega) with u | u | u
    · exact rm0_1_0 l Z a0 hw ws p1 p2 p3 h0 n0 Z0 hN (he ▸ u)
    · rw [u] at e3; exact absurd e3.2 (by decide)
    · rw [u] at e3; exact absurd e3.2 (by decide)
  · have hN : ((1 : Int32) + ((p1 &&& (2147483647 : Int32)) % (3 : Int32))) = (2 : Int32) := by rw [← hr, q]; decide
    obtain ⟨e, he⟩ : ∃ z : Int32, z = ((p2 &&& (2147483647 : Int32)) % (2 : Int32)) := ⟨_, rfl⟩
    have e3 := own_mod p2 2 e 2 (by decide) (by decide) he
    rcases own_small e e3.1 (by omega) with u | u | u
    · exact rm0_2_0 l Z a0 hw ws p1 p2 p3 h0 n0 Z0 hN (he ▸ u)
    · exact rm0_2_1 l Z a0 hw ws p1 p2 p3 h0 n0 Z0 hN (he ▸ u)
    · rw [u] at e3; exact absurd e3.2 (by decide)
  · have hN : ((1 : Int32) + ((p1 &&& (2147483647 : Int32)) % (3 : Int32))) = (3 : Int32) := by rw [← hr, q]; decide
    obtain ⟨e, he⟩ : ∃ z : Int32, z = ((p2 &&& (2147483647 : Int32)) % (3 : Int32)) := ⟨_, rfl⟩
    have e3 := own_mod p2 3 e 3 (by decide) (by decide) he
    rcases own_small e e3.1 (by omega) with u | u | u
    · exact rm0_3_0 l Z a0 hw ws p1 p2 p3 h0 n0 Z0 hN (he ▸ u)
    · exact rm0_3_1 l Z a0 hw ws p1 p2 p3 h0 n0 Z0 hN (he ▸ u)
    · exact rm0_3_2 l Z a0 hw ws p1 p2 p3 h0 n0 Z0 hN (he ▸ u)
set_option maxRecDepth 65536 in
set_option maxHeartbeats 40000000 in
theorem comes_1 {Post : Tables → Env → Array Value → State → Outcome → State → Prop} (hpost : ∀ tb e args s v u, (limb_1_1.after args s (.returned v) u = true ∧ limb_1_2.after args s (.returned v) u = true ∧ True) → FrameEnd s (.returned v) u (Jvm.fieldLocs frame_1_writes args s ++ Jvm.arrayLocs frame_1_arrays args s ++ Jvm.staticLocs frame_1_statics s) 24 128 → Post tb e args s (.returned v) u) :
    ArmFor flags0 classFile x code maxLocals ret World_1 tables_1 room_1 Calls_1 rest_1 Pre_1 Post := by
  intro l hfl _ _ p e ha hc hk s m args below hf hA hF happ hP
  obtain ⟨hcalls, hrest, hpre⟩ := hP
  obtain ⟨-, -, -, hnamed, -, -, -, hat⟩ := (Spec.applies_iff hf).mp happ
  obtain ⟨hg, hn⟩ := and_e (Cond.before_iff.mp (show (Jvm.Cond.and given_1 narrow_1).before args s = true from hpre))
  obtain ⟨g15, g16⟩ := and_e hg
  obtain ⟨g17, g18⟩ := and_e g16
  obtain ⟨g19, g20⟩ := and_e g18
  obtain ⟨w0, w1, w2, rfl⟩ : ∃ w0 w1 w2 : Value, args = #[w0, w1, w2] := by
    have hs : args.size = 3 := by simpa [Cond.value, given_1] using g15
    obtain ⟨L⟩ := args
    match L, hs with
    | [w0, w1, w2], _ => exact ⟨w0, w1, w2, rfl⟩
  have hw := fun d (hd : d ∈ tables_1) => atoms_spec (ws := Jvm.Cond.code x code maxLocals ret :: tables_1) hat d (List.mem_cons_of_mem _ hd)
  have hfit : Fit s := fun {y c} hc i hi => by
    obtain ⟨ha, rfl⟩ := Array.getElem?_eq_some_iff.mp hc
    have q := List.all_eq_true.mp ((Array.all_eq_true_iff_forall_mem.mp hF) _ (Array.getElem_mem ha)) i (List.mem_range.mpr hi)
    simpa [Array.getElem?_eq_getElem hi] using q
  obtain ⟨i0, ei0⟩ := is_v g17
  obtain rfl : w0 = (.int i0) := Option.some.inj ei0
  obtain ⟨i1, ei1⟩ := is_v g19
  obtain rfl : w1 = (.int i1) := Option.some.inj ei1
  obtain ⟨i2, ei2⟩ := is_v g20
  obtain rfl : w2 = (.int i2) := Option.some.inj ei2
  obtain ⟨n, o, h1, h2, h3, _, L, rfl, ⟨rfl, N⟩, hq⟩ := rm0 l s _ hw tables_1 i0 i1 i2 s.heap s.heap.size (Nat.le_refl _) p e ha hc hk s m _ below hf ((Spec.applies_iff_loose hf).mp happ).1 ⟨rfl, State.Warmed39.refl s, rfl⟩ trivial
  refine ⟨n, _, h1, h2, h3, hpost _ _ _ _ _ _ ⟨Cond.after_iff.mpr rfl, Cond.after_iff.mpr (eq_i res_at (Term.int_eval (1)) rfl), trivial⟩ ⟨hq.1, hq.2.1, (hq.2.2.sift fun y hy => Or.inr (N y hy)).mono (by decide) (by decide)⟩⟩
theorem main_1_1 : Claimed_1_1 := comes_1 fun _ _ _ _ _ _ h hF => ⟨h.1, hF⟩
theorem main_1_2 : Claimed_1_2 := comes_1 fun _ _ _ _ _ _ h hF => ⟨h.2.1, hF⟩
end Jvm.Pilot.@@N@@
namespace Jvm.Pilot.@@N@@
open Jvm Jvm.ClassFile Sem Op Lib Jvm.Free Jvm.Stand Jvm.Pilot.@@N@@.Jvm.D
/-! MADE BY PROGRAM (witnessworld.py) out of the Statement's table words and the real class files: 10 classes; the members and pool entries that the words name. The judged class is class 1, her method 1. -/
namespace start1
open Jvm.ClassFile
def u (s : String) : CpInfo := .utf8 (stringToUtf16 s)
/-- a pool by its gaps: so many unusable entries, then the entry; so many at the end -/
def gap : Nat → List CpInfo → List CpInfo
  | 0, r => r
  | n + 1, r => .unusable :: gap n r
def poolList (es : List (Nat × CpInfo)) (last : Nat) : List CpInfo := es.foldr (fun e r => gap e.1 (e.2 :: r)) (gap last [])
def pool (es : List (Nat × CpInfo)) (last : Nat) : Array CpInfo := ⟨poolList es last⟩
def fileOf (pool : Array CpInfo) (this : Nat) (attrs : Array Attribute := #[]) (ms : Array MethodInfo := #[]) (fl : Nat := 33) (sup : Nat := 0) (ifs : Array Nat := #[]) (fds : Array FieldInfo := #[]) : ClassFile where
  minorVersion := 0
  majorVersion := 65
  constantPool := pool
  accessFlags := fl
  thisClass := this
  superClass := sup
  interfaces := ifs
  fields := fds
  methods := ms
  attributes := attrs
def plain (name : String) (sup : Option ClassId) : Class where
  name := name
  kind := .ordinary
  loader := none
  accessFlags := 33
  super := sup
  interfaces := #[]
  cf := none
  fields := #[]
  methods := #[]
  instanceTypes := #[]
  staticTypes := #[]
  resolved := #[]
  callSites := []
  init := .initialized
  statics := none
  mirror := none

def pool0 : Array CpInfo := pool [(5, u "<init>"), (0, u "()V"), (1, .class_ 10), (1, u "java/lang/Object")] 113

def k0c0 : Code := { maxStack := 0, maxLocals := 1, code := object_method_1_code, exceptionTable := #[], attributes := #[] }
def k0m0 : Method := { name := "<init>", desc := "()V", sig := { parameters := [], returnType := none }, accessFlags := 1, code := some k0c0 }
/-- java/lang/Object -/
def k0 : Class := { plain "java/lang/Object" none with
  accessFlags := 33
  interfaces := #[]
  cf := some (fileOf pool0 8 #[] #[{ accessFlags := 1, nameIndex := 5, descriptorIndex := 6, attributes := #[] }] 33 0 #[] #[])
  fields := #[]
  methods := #[k0m0]
  instanceTypes := #[]
  staticTypes := #[]
  resolved := Array.replicate 124 none
  statics := none }

def pool1 : Array CpInfo := pool [(2, .class_ 4), (1, u "java/lang/Object"), (0, u "<init>"), (0, u "()V"), (0, .integer 2147483647), (0, .class_ 9), (0, u "com/example/process_stepper/processstepper/equivalence/IntLists"), (0, .methodref 8 11), (0, .nameAndType 5 12), (0, u "(II)V"), (0, .methodref 8 14), (0, .nameAndType 15 12), (0, u "push"), (0, .methodref 8 17), (0, .nameAndType 18 12), (0, u "remove"), (0, .methodref 20 21), (0, .class_ 22), (0, .nameAndType 23 24), (0, u "com/example/process_stepper/processstepper/equivalence/IntListsRemovePinLaw"), (0, u "matches"), (0, u "(Lcom/example/process_stepper/processstepper/equivalence/IntLists;IIII)Z"), (0, .methodref 8 26), (0, .nameAndType 27 28), (0, u "first"), (0, u "(I)I"), (0, .methodref 8 30), (0, .nameAndType 31 28), (0, u "size"), (0, .methodref 8 33), (0, .nameAndType 34 28), (0, u "next"), (2, u "law"), (0, u "(III)Z")] 5

def k1m0 : Method := { name := "<init>", desc := "()V", sig := { parameters := [], returnType := none }, accessFlags := 1, code := none }
def k1c1 : Code := { maxStack := 6, maxLocals := 9, code := code, exceptionTable := #[], attributes := #[] }
def k1m1 : Method := { name := "law", desc := "(III)Z", sig := { parameters := [.int, .int, .int], returnType := some .boolean }, accessFlags := 9, code := some k1c1 }
def k1c2 : Code := { maxStack := 3, maxLocals := 7, code := method_3_code, exceptionTable := #[], attributes := #[] }
def k1m2 : Method := { name := "matches", desc := "(Lcom/example/process_stepper/processstepper/equivalence/IntLists;IIII)Z", sig := { parameters := [(.object "com/example/process_stepper/processstepper/equivalence/IntLists"), .int, .int, .int, .int], returnType := some .boolean }, accessFlags := 10, code := some k1c2 }
/-- com/example/process_stepper/processstepper/equivalence/IntListsRemovePinLaw -/
def k1 : Class := { plain "com/example/process_stepper/processstepper/equivalence/IntListsRemovePinLaw" (some 0) with
  accessFlags := 49
  interfaces := #[]
  cf := some (fileOf pool1 20 #[] #[{ accessFlags := 1, nameIndex := 5, descriptorIndex := 6, attributes := #[] }, { accessFlags := 9, nameIndex := 37, descriptorIndex := 38, attributes := #[] }, { accessFlags := 10, nameIndex := 23, descriptorIndex := 24, attributes := #[] }] 49 2 #[] #[])
  fields := #[]
  methods := #[k1m0, k1m1, k1m2]
  instanceTypes := #[]
  staticTypes := #[]
  resolved := Array.replicate 44 none
  statics := none }

def pool2 : Array CpInfo := pool [(1, .methodref 2 3), (0, .class_ 4), (0, .nameAndType 5 6), (0, u "java/lang/Object"), (0, u "<init>"), (0, u "()V"), (0, .fieldref 8 9), (0, .class_ 10), (0, .nameAndType 11 12), (0, u "com/example/process_stepper/processstepper/equivalence/IntLists"), (0, u "heads"), (0, u "[I"), (0, .methodref 14 15), (0, .class_ 16), (0, .nameAndType 17 18), (0, u "java/util/Arrays"), (0, u "fill"), (0, u "([II)V"), (0, .fieldref 8 20), (0, .nameAndType 21 12), (0, u "sizes"), (0, .fieldref 8 23), (0, .nameAndType 24 12), (0, u "next"), (0, .fieldref 8 26), (0, .nameAndType 27 12), (0, u "previous"), (7, u "NONE"), (0, u "I"), (2, u "(II)V"), (4, u "first"), (0, u "(I)I"), (0, u "size"), (0, u "push"), (0, u "remove")] 4

def k2c0 : Code := { maxStack := 2, maxLocals := 3, code := prog_108_method_1_code, exceptionTable := #[], attributes := #[] }
def k2m0 : Method := { name := "<init>", desc := "(II)V", sig := { parameters := [.int, .int], returnType := none }, accessFlags := 0, code := some k2c0 }
def k2c1 : Code := { maxStack := 2, maxLocals := 2, code := prog_108_method_3_code, exceptionTable := #[], attributes := #[] }
def k2m1 : Method := { name := "first", desc := "(I)I", sig := { parameters := [.int], returnType := some .int }, accessFlags := 0, code := some k2c1 }
def k2c2 : Code := { maxStack := 2, maxLocals := 2, code := prog_108_method_4_code, exceptionTable := #[], attributes := #[] }
def k2m2 : Method := { name := "next", desc := "(I)I", sig := { parameters := [.int], returnType := some .int }, accessFlags := 0, code := some k2c2 }
def k2c3 : Code := { maxStack := 2, maxLocals := 2, code := prog_108_method_5_code, exceptionTable := #[], attributes := #[] }
def k2m3 : Method := { name := "size", desc := "(I)I", sig := { parameters := [.int], returnType := some .int }, accessFlags := 0, code := some k2c3 }
def k2c4 : Code := { maxStack := 4, maxLocals := 3, code := prog_108_method_6_code, exceptionTable := #[], attributes := #[] }
def k2m4 : Method := { name := "push", desc := "(II)V", sig := { parameters := [.int, .int], returnType := none }, accessFlags := 0, code := some k2c4 }
def k2c5 : Code := { maxStack := 4, maxLocals := 3, code := prog_108_method_7_code, exceptionTable := #[], attributes := #[] }
def k2m5 : Method := { name := "remove", desc := "(II)V", sig := { parameters := [.int, .int], returnType := none }, accessFlags := 0, code := some k2c5 }
/-- com/example/process_stepper/processstepper/equivalence/IntLists -/
def k2 : Class := { plain "com/example/process_stepper/processstepper/equivalence/IntLists" (some 0) with
  accessFlags := 48
  interfaces := #[]
  cf := some (fileOf pool2 8 #[] #[{ accessFlags := 0, nameIndex := 5, descriptorIndex := 39, attributes := #[] }, { accessFlags := 0, nameIndex := 44, descriptorIndex := 45, attributes := #[] }, { accessFlags := 0, nameIndex := 24, descriptorIndex := 45, attributes := #[] }, { accessFlags := 0, nameIndex := 46, descriptorIndex := 45, attributes := #[] }, { accessFlags := 0, nameIndex := 47, descriptorIndex := 39, attributes := #[] }, { accessFlags := 0, nameIndex := 48, descriptorIndex := 39, attributes := #[] }] 48 2 #[] #[{ accessFlags := 26, nameIndex := 35, descriptorIndex := 36, attributes := #[] }, { accessFlags := 2, nameIndex := 11, descriptorIndex := 12, attributes := #[] }, { accessFlags := 2, nameIndex := 21, descriptorIndex := 12, attributes := #[] }, { accessFlags := 2, nameIndex := 24, descriptorIndex := 12, attributes := #[] }, { accessFlags := 2, nameIndex := 27, descriptorIndex := 12, attributes := #[] }])
  fields := #[{ name := "NONE", type := .int, accessFlags := 26, slot := 0, constantValue := 0 }, { name := "heads", type := (.array .int), accessFlags := 2, slot := 0, constantValue := 0 }, { name := "sizes", type := (.array .int), accessFlags := 2, slot := 1, constantValue := 0 }, { name := "next", type := (.array .int), accessFlags := 2, slot := 2, constantValue := 0 }, { name := "previous", type := (.array .int), accessFlags := 2, slot := 3, constantValue := 0 }]
  methods := #[k2m0, k2m1, k2m2, k2m3, k2m4, k2m5]
  instanceTypes := #[(.array .int), (.array .int), (.array .int), (.array .int)]
  staticTypes := #[.int]
  resolved := Array.replicate 53 none
  statics := none }

def pool3 : Array CpInfo := pool [(2, .class_ 4), (1, u "java/lang/Object"), (0, u "<init>"), (0, u "()V"), (7, .class_ 16), (1, u "java/util/Arrays"), (57, .class_ 76), (1, u "java/util/Arrays$NaturalOrder"), (36, .class_ 115), (1, u "java/util/Arrays$LegacyMergeSort"), (1, u "Z"), (257, .class_ 376), (0, u "java/util/Arrays$ArrayList"), (68, u "$assertionsDisabled"), (269, u "MIN_ARRAY_SORT_GRAN"), (0, u "I"), (2, u "INSERTIONSORT_THRESHOLD"), (120, u "fill"), (4, u "([II)V"), (129, .class_ 976), (0, u "java/util/Arrays$ArrayItr")] 52

def k3m0 : Method := { name := "<init>", desc := "()V", sig := { parameters := [], returnType := none }, accessFlags := 2, code := none }
def k3c1 : Code := { maxStack := 3, maxLocals := 4, code := jdk_65_method_103_code, exceptionTable := #[], attributes := #[] }
def k3m1 : Method := { name := "fill", desc := "([II)V", sig := { parameters := [(.array .int), .int], returnType := none }, accessFlags := 9, code := some k3c1 }
/-- java/util/Arrays -/
def k3 : Class := { plain "java/util/Arrays" (some 0) with
  accessFlags := 49
  interfaces := #[]
  cf := some (fileOf pool3 14 #[.nestMembers #[975, 375, 113, 74]] #[{ accessFlags := 2, nameIndex := 5, descriptorIndex := 6, attributes := #[] }, { accessFlags := 9, nameIndex := 840, descriptorIndex := 845, attributes := #[] }] 49 2 #[] #[{ accessFlags := 26, nameIndex := 715, descriptorIndex := 716, attributes := #[] }, { accessFlags := 26, nameIndex := 719, descriptorIndex := 716, attributes := #[] }, { accessFlags := 4120, nameIndex := 445, descriptorIndex := 117, attributes := #[] }])
  fields := #[{ name := "MIN_ARRAY_SORT_GRAN", type := .int, accessFlags := 26, slot := 0, constantValue := 0 }, { name := "INSERTIONSORT_THRESHOLD", type := .int, accessFlags := 26, slot := 1, constantValue := 0 }, { name := "$assertionsDisabled", type := .boolean, accessFlags := 4120, slot := 2, constantValue := 0 }]
  methods := #[k3m0, k3m1]
  instanceTypes := #[]
  staticTypes := #[.int, .int, .boolean]
  resolved := Array.replicate 1029 none
  statics := none }

def pool4 : Array CpInfo := pool [(1, u "java/lang/Cloneable"), (0, .class_ 1), (0, u "java/lang/Object"), (0, .class_ 3)] 3

/-- java/lang/Cloneable -/
def k4 : Class := { plain "java/lang/Cloneable" (some 0) with
  accessFlags := 1537
  interfaces := #[]
  cf := some (fileOf pool4 2 #[] #[] 1537 4 #[] #[])
  fields := #[]
  methods := #[]
  instanceTypes := #[]
  staticTypes := #[]
  resolved := Array.replicate 8 none
  statics := none }

def pool5 : Array CpInfo := pool [(1, u "java/io/Serializable"), (0, .class_ 1), (0, u "java/lang/Object"), (0, .class_ 3)] 3

/-- java/io/Serializable -/
def k5 : Class := { plain "java/io/Serializable" (some 0) with
  accessFlags := 1537
  interfaces := #[]
  cf := some (fileOf pool5 2 #[] #[] 1537 4 #[] #[])
  fields := #[]
  methods := #[]
  instanceTypes := #[]
  staticTypes := #[]
  resolved := Array.replicate 8 none
  statics := none }

/-- the primitive byte -/
def k6 : Class := { plain "byte" none with kind := .primitive 'B', accessFlags := 0x411 }
/-- [B -/
def k7 : Class := { plain "[B" (some 0) with kind := .array 6 .byte, interfaces := #[4, 5], accessFlags := 1041 }

/-- the primitive int -/
def k8 : Class := { plain "int" none with kind := .primitive 'I', accessFlags := 0x411 }
/-- [I -/
def k9 : Class := { plain "[I" (some 0) with kind := .array 8 .int, interfaces := #[4, 5], accessFlags := 1041 }

def heap : Heap := #[]
def classes : Array Class := #[k0, k1, k2, k3, k4, k5, k6, k7, k8, k9]
def interned : List (Array UInt16 × Addr) := []
def slotsUsed : Nat := 0
def theMethod : MethodId := ⟨1, 1⟩
def args0 : Array Value := #[.int 5, .int 3, .int 1]
def aboutOver (below : List Frame) : State where
  vm := { classes := classes, interned := interned.toArray }
  heap := heap
  slotsUsed := slotsUsed
  threads := #[{ frames := .invoking theMethod args0 :: below }]
def below0 : List Frame := [.native { method := ⟨0, 0⟩, args := #[] }]
def about1 : State := aboutOver below0
def p0 : Program := .bare "" "" ""
def e0 : Env := launch0.env 0 0 0
theorem w_frames : about1.frames = Frame.invoking theMethod args0 :: below0 := rfl
set_option maxRecDepth 65536 in
theorem w_args : argsFit about1.vm theMethod args0 = true := by decide +kernel
set_option maxRecDepth 65536 in
theorem w_heap : heapFits about1 = true := by decide +kernel
set_option maxRecDepth 65536 in
theorem w_runnable : about1.curStatus? = some .runnable := by decide +kernel
set_option maxRecDepth 65536 in
theorem w_alone : about1.alone = true := by decide +kernel
set_option maxRecDepth 65536 in
theorem w_named : about1.methodNamed? x = some theMethod := by decide +kernel
set_option maxRecDepth 65536 in
theorem w_hears : about1.hears theMethod below0 = true := by decide +kernel
set_option maxRecDepth 65536 in
theorem w_ripe : about1.ripe theMethod args0 below0 = true := by decide +kernel
theorem w_running : about1.status = .running := rfl
set_option maxRecDepth 65536 in
theorem w_room : about1.hasRoom e0.platform room_1 = true :=
  launch0.hasRoom_least _ room_1 (by decide +kernel) (by decide +kernel) (by decide +kernel) (by decide +kernel) (by decide +kernel) (by decide +kernel)
theorem allAtoms_all (ts : List Jvm.Cond) (a : Array Jvm.Value) (st : Jvm.State) : (allAtoms ts).before a st = ts.all (fun c => c.before a st) := by
  induction ts with
  | nil => rfl
  | cons c t ih =>
    show (Jvm.Cond.and c (allAtoms t)).before a st = _
    rw [Jvm.Cond.before_and, ih, List.all_cons]
def words1 : List Jvm.Cond := Jvm.Cond.code x code maxLocals ret :: tables_1
/-- a 'code' word, met by the world's own term for the bytes: nothing is compared byte by byte -/
theorem code_word {y : MethodName} {bytes : ByteArray} {mx : Nat} {rt : Option FieldType} {a : Array Value} {s : State} {m : MethodId} {meth : Method} {c : Code} (h1 : s.methodNamed? y = some m) (h2 : s.vm.method? m = some meth) (h3 : meth.code = some c) (h4 : c.code = bytes)
    (h5 : (c.maxLocals == mx && c.exceptionTable.isEmpty && decide (c.maxStack ≤ mostOperands) && decide (meth.sig.returnType = rt) && !meth.locks && decide (parseMethodDescriptor y.desc = some meth.sig)) = true) : (Jvm.Cond.code y bytes mx rt).before a s = true := by
  simp only [Bool.and_eq_true, beq_iff_eq, Bool.not_eq_true', decide_eq_true_eq] at h5
  obtain ⟨⟨⟨⟨⟨g1, g2⟩, g3⟩, g4⟩, g5⟩, g6⟩ := h5
  simp [Cond.before, Cond.holds, Cond.value, h1, h2, h3, h4, g1, g2, g3, g4, g5, g6]
def isCode : Jvm.Cond → Bool
  | .code _ _ _ _ => true
  | _ => false
theorem all_split {L : List Jvm.Cond} {P : Jvm.Cond → Bool} (h1 : L.all (fun c => isCode c || P c) = true) (h2 : ∀ c ∈ L.filter isCode, P c = true) : L.all P = true := by
  refine List.all_eq_true.mpr fun c hc => ?_
  have h := List.all_eq_true.mp h1 c hc
  rcases Bool.eq_false_or_eq_true (isCode c) with hi | hi
  · exact h2 c (List.mem_filter.mpr ⟨hc, hi⟩)
  · simpa [hi] using h
set_option maxRecDepth 65536 in
theorem w_c0 : (Jvm.Cond.code x code maxLocals ret).before args0 about1 = true := code_word (m := ⟨1, 1⟩) (meth := k1m1) (c := k1c1) (by decide +kernel) rfl rfl rfl (by decide +kernel)
set_option maxRecDepth 65536 in
theorem w_c1 : (Jvm.Cond.code ({ cls := "com/example/process_stepper/processstepper/equivalence/IntLists", name := "<init>", desc := "(II)V" } : Jvm.MethodName) prog_108_method_1_code (3 : Nat) (Option.none : Option Jvm.ClassFile.FieldType)).before args0 about1 = true := code_word (m := ⟨2, 0⟩) (meth := k2m0) (c := k2c0) (by decide +kernel) rfl rfl rfl (by decide +kernel)
set_option maxRecDepth 65536 in
theorem w_c2 : (Jvm.Cond.code ({ cls := "java/lang/Object", name := "<init>", desc := "()V" } : Jvm.MethodName) object_method_1_code (1 : Nat) (Option.none : Option Jvm.ClassFile.FieldType)).before args0 about1 = true := code_word (m := ⟨0, 0⟩) (meth := k0m0) (c := k0c0) (by decide +kernel) rfl rfl rfl (by decide +kernel)
set_option maxRecDepth 65536 in
theorem w_c3 : (Jvm.Cond.code ({ cls := "java/util/Arrays", name := "fill", desc := "([II)V" } : Jvm.MethodName) jdk_65_method_103_code (4 : Nat) (Option.none : Option Jvm.ClassFile.FieldType)).before args0 about1 = true := code_word (m := ⟨3, 1⟩) (meth := k3m1) (c := k3c1) (by decide +kernel) rfl rfl rfl (by decide +kernel)
set_option maxRecDepth 65536 in
theorem w_c4 : (Jvm.Cond.code ({ cls := "com/example/process_stepper/processstepper/equivalence/IntLists", name := "push", desc := "(II)V" } : Jvm.MethodName) prog_108_method_6_code (3 : Nat) (Option.none : Option Jvm.ClassFile.FieldType)).before args0 about1 = true := code_word (m := ⟨2, 4⟩) (meth := k2m4) (c := k2c4) (by decide +kernel) rfl rfl rfl (by decide +kernel)
set_option maxRecDepth 65536 in
theorem w_c5 : (Jvm.Cond.code ({ cls := "com/example/process_stepper/processstepper/equivalence/IntLists", name := "remove", desc := "(II)V" } : Jvm.MethodName) prog_108_method_7_code (3 : Nat) (Option.none : Option Jvm.ClassFile.FieldType)).before args0 about1 = true := code_word (m := ⟨2, 5⟩) (meth := k2m5) (c := k2c5) (by decide +kernel) rfl rfl rfl (by decide +kernel)
set_option maxRecDepth 65536 in
theorem w_c6 : (Jvm.Cond.code ({ cls := "com/example/process_stepper/processstepper/equivalence/IntListsRemovePinLaw", name := "matches", desc := "(Lcom/example/process_stepper/processstepper/equivalence/IntLists;IIII)Z" } : Jvm.MethodName) method_3_code (7 : Nat) (Option.some Jvm.ClassFile.FieldType.boolean)).before args0 about1 = true := code_word (m := ⟨1, 2⟩) (meth := k1m2) (c := k1c2) (by decide +kernel) rfl rfl rfl (by decide +kernel)
set_option maxRecDepth 65536 in
theorem w_c7 : (Jvm.Cond.code ({ cls := "com/example/process_stepper/processstepper/equivalence/IntLists", name := "size", desc := "(I)I" } : Jvm.MethodName) prog_108_method_5_code (2 : Nat) (Option.some Jvm.ClassFile.FieldType.int)).before args0 about1 = true := code_word (m := ⟨2, 3⟩) (meth := k2m3) (c := k2c3) (by decide +kernel) rfl rfl rfl (by decide +kernel)
set_option maxRecDepth 65536 in
theorem w_c8 : (Jvm.Cond.code ({ cls := "com/example/process_stepper/processstepper/equivalence/IntLists", name := "first", desc := "(I)I" } : Jvm.MethodName) prog_108_method_3_code (2 : Nat) (Option.some Jvm.ClassFile.FieldType.int)).before args0 about1 = true := code_word (m := ⟨2, 1⟩) (meth := k2m1) (c := k2c1) (by decide +kernel) rfl rfl rfl (by decide +kernel)
set_option maxRecDepth 65536 in
theorem w_c9 : (Jvm.Cond.code ({ cls := "com/example/process_stepper/processstepper/equivalence/IntLists", name := "next", desc := "(I)I" } : Jvm.MethodName) prog_108_method_4_code (2 : Nat) (Option.some Jvm.ClassFile.FieldType.int)).before args0 about1 = true := code_word (m := ⟨2, 2⟩) (meth := k2m2) (c := k2c2) (by decide +kernel) rfl rfl rfl (by decide +kernel)
def codes1 : List Jvm.Cond := [Jvm.Cond.code x code maxLocals ret, Jvm.Cond.code ({ cls := "com/example/process_stepper/processstepper/equivalence/IntLists", name := "<init>", desc := "(II)V" } : Jvm.MethodName) prog_108_method_1_code (3 : Nat) (Option.none : Option Jvm.ClassFile.FieldType), Jvm.Cond.code ({ cls := "java/lang/Object", name := "<init>", desc := "()V" } : Jvm.MethodName) object_method_1_code (1 : Nat) (Option.none : Option Jvm.ClassFile.FieldType), Jvm.Cond.code ({ cls := "java/util/Arrays", name := "fill", desc := "([II)V" } : Jvm.MethodName) jdk_65_method_103_code (4 : Nat) (Option.none : Option Jvm.ClassFile.FieldType), Jvm.Cond.code ({ cls := "com/example/process_stepper/processstepper/equivalence/IntLists", name := "push", desc := "(II)V" } : Jvm.MethodName) prog_108_method_6_code (3 : Nat) (Option.none : Option Jvm.ClassFile.FieldType), Jvm.Cond.code ({ cls := "com/example/process_stepper/processstepper/equivalence/IntLists", name := "remove", desc := "(II)V" } : Jvm.MethodName) prog_108_method_7_code (3 : Nat) (Option.none : Option Jvm.ClassFile.FieldType), Jvm.Cond.code ({ cls := "com/example/process_stepper/processstepper/equivalence/IntListsRemovePinLaw", name := "matches", desc := "(Lcom/example/process_stepper/processstepper/equivalence/IntLists;IIII)Z" } : Jvm.MethodName) method_3_code (7 : Nat) (Option.some Jvm.ClassFile.FieldType.boolean), Jvm.Cond.code ({ cls := "com/example/process_stepper/processstepper/equivalence/IntLists", name := "size", desc := "(I)I" } : Jvm.MethodName) prog_108_method_5_code (2 : Nat) (Option.some Jvm.ClassFile.FieldType.int), Jvm.Cond.code ({ cls := "com/example/process_stepper/processstepper/equivalence/IntLists", name := "first", desc := "(I)I" } : Jvm.MethodName) prog_108_method_3_code (2 : Nat) (Option.some Jvm.ClassFile.FieldType.int), Jvm.Cond.code ({ cls := "com/example/process_stepper/processstepper/equivalence/IntLists", name := "next", desc := "(I)I" } : Jvm.MethodName) prog_108_method_4_code (2 : Nat) (Option.some Jvm.ClassFile.FieldType.int)]
set_option maxRecDepth 65536 in
theorem codes_eq : words1.filter isCode = codes1 := rfl
theorem w_codes : ∀ c ∈ words1.filter isCode, c.before args0 about1 = true := by
  rw [codes_eq]
  intro c hc
  simp only [codes1, List.mem_cons, List.not_mem_nil, or_false] at hc
  rcases hc with rfl | rfl | rfl | rfl | rfl | rfl | rfl | rfl | rfl | rfl
  · exact w_c0
  · exact w_c1
  · exact w_c2
  · exact w_c3
  · exact w_c4
  · exact w_c5
  · exact w_c6
  · exact w_c7
  · exact w_c8
  · exact w_c9
set_option maxRecDepth 65536 in
theorem w_t1 : (words1.take 24).all (fun c => isCode c || c.before args0 about1) = true := by decide +kernel
set_option maxRecDepth 65536 in
theorem w_t2 : ((words1.drop 24).take 24).all (fun c => isCode c || c.before args0 about1) = true := by decide +kernel
set_option maxRecDepth 65536 in
theorem w_t3 : ((words1.drop 24).drop 24).all (fun c => isCode c || c.before args0 about1) = true := by decide +kernel
theorem w_tables : (allAtoms (Jvm.Cond.code x code maxLocals ret :: tables_1)).before args0 about1 = true := by
  rw [allAtoms_all]
  show words1.all (fun c => c.before args0 about1) = true
  refine all_split ?_ w_codes
  rw [← List.take_append_drop 24 words1, List.all_append, w_t1, ← List.take_append_drop 24 (words1.drop 24), List.all_append, w_t2, w_t3]
  rfl
set_option maxRecDepth 65536 in
theorem w_case : (Jvm.Cond.and given_1 narrow_1).before args0 about1 = true := by decide +kernel
theorem w_applies : (headSpec (Jvm.Cond.code x code maxLocals ret :: tables_1) room_1).applies x e0.platform about1 = true :=
  (Spec.applies_iff w_frames).mpr ⟨w_running, w_runnable, w_alone, w_named, w_hears, w_ripe, w_room, w_tables⟩
theorem atStart : AtStart classFile x code maxLocals ret World_1 tables_1 room_1 Calls_1 rest_1 Pre_1 launch0 p0 e0 about1 theMethod args0 below0 :=
  ⟨lists_1, trivial, launch0.admits_env _ _ _, launch0.least_env, fairChoices_fair.cas, fairChoices_fair.clock, w_frames, w_args, w_heap, w_applies, trivial, trivial, w_case⟩
end start1
theorem witness_1 : WitnessClaimed_1 := ⟨start1.p0, start1.e0, start1.about1, start1.theMethod, start1.args0, start1.below0, start1.atStart⟩
end Jvm.Pilot.@@N@@
