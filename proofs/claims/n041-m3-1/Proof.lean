import JvmDerived
import JvmDerived.Pilot.@@N@@Statement
import JvmDerived.Pilot.@@N@@Code
set_option linter.unusedVariables false
set_option linter.unusedSimpArgs false
namespace Jvm.RoadKit
open Sem ClassFile Op Lib Jvm.Stand Jvm.Free Jvm.LawKit
section New
variable {p : Program} {l : Launch} {e : Env} {R : Room} {s : State} {m : MethodId} {args : Array Value} {below : List Frame} {meth : Method} {c : Code} {T : State} {locs : List Loc} {cells slots : Nat}
theorem retI (X : Stand p l e R s m args below meth c T locs cells slots) (hx : p.tables.exec = Jvm.exec) {pc : Nat} {Ls : Array Slot} {z : Int32} {rest : List Value} (hret : meth.sig.returnType = some .int) (hd : decode c.code pc = .ok (.ireturn, 1)) {fs : List Frame}
    (hl : ∀ (f : JFrame) (acts : List Action), f.method = m → f.locked = none → f.entered = [] → (doReturn e (T.setTop f) acts (some (.int z))).1 = T.setFrames fs) : Steps p.tables e below (T.setTop (mkF m pc Ls (.int z :: rest))) (T.setFrames fs) := by
  have hm' : T.vm.method? m = some meth := X.method'
  have hn : narrow .int (.int z) = .int z := rfl
  show Steps p.tables e below (T.setTop { method := m, pc := pc, locals := Ls, stack := _ :: rest, locked := none }) _
  jvm_step X.here [X.here.top, hx, hd, hm', hret, hn]
  first | (intro acts; rw [hl _ acts rfl rfl rfl]) | rw [hl _ _ rfl rfl rfl]
  exact Steps.refl _
end New
end Jvm.RoadKit
namespace Jvm.Pilot.@@N@@
open Jvm Jvm.ClassFile Sem Op Lib Jvm.Free Jvm.Stand Jvm.LawKit Jvm.RoadKit Bundle Jvm.Pilot.@@N@@.Jvm.D
theorem own_w {Z : State} {a0 : Array Value} (hw : ∀ d ∈ tables_1, d.before a0 Z = true) (i : Nat) {d : Jvm.Cond} (h : tables_1[i]? = some d) : d.before a0 Z = true := hw _ (List.mem_of_getElem? h)
/-! int arrays: what each place holds, as a function of the place -/
def own_zero : Int32 → Int32 := fun _ => 0
def own_upd (f : Int32 → Int32) (j v : Int32) : Int32 → Int32 := fun i => if i = j then v else f i
def own_arr (Z : State) (h : Heap) (b : Nat) (n : Int32) (f : Int32 → Int32) : Prop := ∃ c : Cell, Arr Z h b c .int ∧ c.slots.size = n.toNatClampNeg ∧ ¬ n < 0 ∧ ∀ j : Int32, ¬ j < 0 → j < n → c.slots[j.toNatClampNeg]? = some (.int (f j))
theorem own_arr_lt {Z : State} {h : Heap} {b : Nat} {n : Int32} {f : Int32 → Int32} (V : own_arr Z h b n f) : b < h.size := by obtain ⟨c, A, -⟩ := V; exact A.lt
theorem own_arr_ext {Z : State} {h h' : Heap} {b : Nat} {n : Int32} {f : Int32 → Int32} (V : own_arr Z h b n f) (E : Ext h h') : own_arr Z h' b n f := by obtain ⟨c, A, r⟩ := V; exact ⟨c, A.ext E, r⟩
theorem own_arr_other {Z : State} {h h' : Heap} {a b : Nat} {sl : Nat} {v : Value} {n : Int32} {f : Int32 → Int32} (V : own_arr Z h b n f) (W : Wr h h' a sl v) (q : b ≠ a) : own_arr Z h' b n f := by obtain ⟨c, A, r⟩ := V; exact ⟨c, A.other W q, r⟩
theorem own_arr_keep {Z : State} {h h' : Heap} {b : Nat} {ws : List Addr} {n : Int32} {f : Int32 → Int32} (V : own_arr Z h b n f) (K : Keep h h' ws) (q : b ∉ ws) : own_arr Z h' b n f := by obtain ⟨c, A, r⟩ := V; exact ⟨c, ⟨K.2.1 b c A.1 q, A.2⟩, r⟩
theorem own_arr_same {Z : State} {h h' : Heap} {b : Nat} {j v n : Int32} {f : Int32 → Int32} (V : own_arr Z h b n f) (W : Wr h h' b j.toNatClampNeg (.int v)) (hj : ¬ j < 0) (hn : j < n) : own_arr Z h' b n (own_upd f j v) := by
  obtain ⟨c, A, S, N, G⟩ := V
  refine ⟨_, A.same W, by rw [sz_set]; exact S, N, fun i hi hin => ?_⟩
  by_cases q : i = j
  · rw [get_hit (inb_of S ⟨hj, hn⟩) q]
    unfold own_upd
    rw [if_pos q]
  · rw [get_miss hj hi q, G i hi hin]
    unfold own_upd
    rw [if_neg q]
theorem own_arr_new {Z : State} {h : Heap} {b : Nat} {k : ClassId} {n : Int32} (A : Arr Z h b (newA k .int n) .int) (q : ¬ n < 0) : own_arr Z h b n own_zero :=
  ⟨_, A, sz_new _ _ _, q, fun j hj hn => get_new (by have := inb_of (c := newA k .int n) (sz_new _ _ _) ⟨hj, hn⟩; rwa [sz_new] at this)⟩
section Steps
variable {p : Program} {l : Launch} {e : Env} {R : Room} {s : State} {m : MethodId} {args : Array Value} {below : List Frame} {meth : Method} {c : Code} {T : State} {locs : List Loc} {cells slots : Nat} {Z : State} {h : Heap}
theorem own_ld (X : Stand p l e R s m args below meth c T locs cells slots) (hx : p.tables.exec = Jvm.exec) (hZ : Z.Warmed39 s.vm) (eT : T.heap = h) {b : Nat} {n : Int32} {f : Int32 → Int32} (V : own_arr Z h b n f) {j : Int32} (hj : ¬ j < 0) (hn : j < n) {g : JFrame} (hg : g.method = m) {rest : List Value} (hs : g.stack = .int j :: .ref b :: rest) (hd : decode c.code g.pc = .ok (.iaload, 1)) (target : State)
    (hr : Steps p.tables e below (T.setTop { g with pc := g.pc + 1, stack := .int (f j) :: rest }) target) : Steps p.tables e below (T.setTop g) target := by
  obtain ⟨cl, A, S, N, G⟩ := V
  exact X.iaload hx (by rw [eT]; exact A.1) (State.isArrayOf_alike hZ.alike A.2.1) A.2.2 (inb_of S ⟨hj, hn⟩) (G j hj hn) hg hs hd target hr
theorem own_len (X : Stand p l e R s m args below meth c T locs cells slots) (hx : p.tables.exec = Jvm.exec) (hZ : Z.Warmed39 s.vm) (eT : T.heap = h) {b : Nat} {n : Int32} {f : Int32 → Int32} (V : own_arr Z h b n f) {g : JFrame} (hg : g.method = m) {rest : List Value} (hs : g.stack = .ref b :: rest) (hd : decode c.code g.pc = .ok (.arraylength, 1)) (target : State)
    (hr : Steps p.tables e below (T.setTop { g with pc := g.pc + 1, stack := .int n :: rest }) target) : Steps p.tables e below (T.setTop g) target := by
  obtain ⟨cl, A, S, N, G⟩ := V
  refine X.arraylength hx (by rw [eT]; exact A.1) (State.isArrayOf_alike hZ.alike A.2.1) hg hs hd target ?_
  rw [len_of S N]
  exact hr
theorem own_st (X : Stand p l e R s m args below meth c T locs cells slots) (hx : p.tables.exec = Jvm.exec) (hZ : Z.Warmed39 s.vm) (eT : T.heap = h) {b : Nat} {n : Int32} {f : Int32 → Int32} (V : own_arr Z h b n f) {j x : Int32} (hj : ¬ j < 0) (hn : j < n) {g : JFrame} (hg : g.method = m) {rest : List Value} (hs : g.stack = .int x :: .int j :: .ref b :: rest) (hd : decode c.code g.pc = .ok (.iastore, 1)) :
    ∃ T' h', Stand p l e R s m args below meth c T' (locs ++ [⟨b, j.toNatClampNeg⟩]) cells slots ∧ T'.heap = h' ∧ Wr h h' b j.toNatClampNeg (.int x) ∧ ∀ target, Steps p.tables e below (T'.setTop { g with pc := g.pc + 1, stack := rest }) target → Steps p.tables e below (T.setTop g) target := by
  obtain ⟨cl, A, S, N, G⟩ := V
  exact stI X hx hZ eT A (inb_of S ⟨hj, hn⟩) hg hs hd
end Steps
/-! the object: its class, its four arrays (heads, sizes, next, previous), which lie one behind the other -/
def own_L (Z : State) (n0 : Nat) (h : Heap) (a b1 b2 b3 b4 : Nat) (fH fS fN fP : Int32 → Int32) : Prop :=
  Exa Z h a "com/example/process_stepper/processstepper/equivalence/IntLists" ∧ (Fld Z h a "com/example/process_stepper/processstepper/equivalence/IntLists" "heads" "[I" (.ref b1) ∧ Fld Z h a "com/example/process_stepper/processstepper/equivalence/IntLists" "sizes" "[I" (.ref b2) ∧ Fld Z h a "com/example/process_stepper/processstepper/equivalence/IntLists" "next" "[I" (.ref b3) ∧ Fld Z h a "com/example/process_stepper/processstepper/equivalence/IntLists" "previous" "[I" (.ref b4)) ∧
  (own_arr Z h b1 2 fH ∧ own_arr Z h b2 2 fS ∧ own_arr Z h b3 3 fN ∧ own_arr Z h b4 3 fP) ∧ (a < b1 ∧ b1 < b2 ∧ b2 < b3 ∧ b3 < b4) ∧ n0 ≤ b1
theorem own_ret {p : Program} {e : Env} {below : List Frame} {T target : State} {m : MethodId} {pc : Nat} {Ls : Array Slot} {rest : List Value} {z w : Int32} (h : z = w) (k : Steps p.tables e below (T.setTop (mkF m pc Ls (.int z :: rest))) target) : Steps p.tables e below (T.setTop (mkF m pc Ls (.int w :: rest))) target := h ▸ k
section Lists
variable {Z : State} {n0 : Nat} {h h' : Heap} {a b1 b2 b3 b4 : Nat} {fH fS fN fP : Int32 → Int32}
theorem own_L_g (V : own_L Z n0 h a b1 b2 b3 b4 fH fS fN fP) : n0 ≤ b1 ∧ n0 ≤ b2 ∧ n0 ≤ b3 ∧ n0 ≤ b4 := by
  obtain ⟨-, -, -, o, g⟩ := V
  omega
theorem own_L_lt (V : own_L Z n0 h a b1 b2 b3 b4 fH fS fN fP) : b4 < h.size := own_arr_lt V.2.2.1.2.2.2
theorem own_L_lta (V : own_L Z n0 h a b1 b2 b3 b4 fH fS fN fP) : a < h.size := V.1.lt
theorem own_L_ext (V : own_L Z n0 h a b1 b2 b3 b4 fH fS fN fP) (E : Ext h h') : own_L Z n0 h' a b1 b2 b3 b4 fH fS fN fP := by
  obtain ⟨e, ⟨f1, f2, f3, f4⟩, ⟨a1, a2, a3, a4⟩, o⟩ := V
  exact ⟨e.ext E, ⟨f1.ext E, f2.ext E, f3.ext E, f4.ext E⟩, ⟨own_arr_ext a1 E, own_arr_ext a2 E, own_arr_ext a3 E, own_arr_ext a4 E⟩, o⟩
theorem own_L_keep {ws : List Addr} (V : own_L Z n0 h a b1 b2 b3 b4 fH fS fN fP) (K : Keep h h' ws) (qa : a ∉ ws) (q1 : b1 ∉ ws) (q2 : b2 ∉ ws) (q3 : b3 ∉ ws) (q4 : b4 ∉ ws) : own_L Z n0 h' a b1 b2 b3 b4 fH fS fN fP := by
  obtain ⟨e, ⟨f1, f2, f3, f4⟩, ⟨a1, a2, a3, a4⟩, o⟩ := V
  exact ⟨e.keep K, ⟨f1.keep K qa, f2.keep K qa, f3.keep K qa, f4.keep K qa⟩, ⟨own_arr_keep a1 K q1, own_arr_keep a2 K q2, own_arr_keep a3 K q3, own_arr_keep a4 K q4⟩, o⟩
theorem own_L_out {x : Nat} {sl : Nat} {v : Value} (V : own_L Z n0 h a b1 b2 b3 b4 fH fS fN fP) (W : Wr h h' x sl v) (q : b4 < x) : own_L Z n0 h' a b1 b2 b3 b4 fH fS fN fP := by
  obtain ⟨e, ⟨f1, f2, f3, f4⟩, ⟨a1, a2, a3, a4⟩, ⟨o1, o2, o3, o4⟩, g⟩ := V
  have qa : a ≠ x := by omega
  exact ⟨e.wr W, ⟨f1.other W (Or.inl qa), f2.other W (Or.inl qa), f3.other W (Or.inl qa), f4.other W (Or.inl qa)⟩, ⟨own_arr_other a1 W (by omega), own_arr_other a2 W (by omega), own_arr_other a3 W (by omega), own_arr_other a4 W (by omega)⟩, ⟨o1, o2, o3, o4⟩, g⟩
theorem own_L_wH {j v : Int32} (V : own_L Z n0 h a b1 b2 b3 b4 fH fS fN fP) (W : Wr h h' b1 j.toNatClampNeg (.int v)) (hj : ¬ j < 0) (hn : j < 2) : own_L Z n0 h' a b1 b2 b3 b4 (own_upd fH j v) fS fN fP := by
  obtain ⟨e, ⟨f1, f2, f3, f4⟩, ⟨a1, a2, a3, a4⟩, ⟨o1, o2, o3, o4⟩, g⟩ := V
  have qa : a ≠ b1 := by omega
  exact ⟨e.wr W, ⟨f1.other W (Or.inl qa), f2.other W (Or.inl qa), f3.other W (Or.inl qa), f4.other W (Or.inl qa)⟩, ⟨own_arr_same a1 W hj hn, own_arr_other a2 W (by omega), own_arr_other a3 W (by omega), own_arr_other a4 W (by omega)⟩, ⟨o1, o2, o3, o4⟩, g⟩
theorem own_L_wS {j v : Int32} (V : own_L Z n0 h a b1 b2 b3 b4 fH fS fN fP) (W : Wr h h' b2 j.toNatClampNeg (.int v)) (hj : ¬ j < 0) (hn : j < 2) : own_L Z n0 h' a b1 b2 b3 b4 fH (own_upd fS j v) fN fP := by
  obtain ⟨e, ⟨f1, f2, f3, f4⟩, ⟨a1, a2, a3, a4⟩, ⟨o1, o2, o3, o4⟩, g⟩ := V
  have qa : a ≠ b2 := by omega
  exact ⟨e.wr W, ⟨f1.other W (Or.inl qa), f2.other W (Or.inl qa), f3.other W (Or.inl qa), f4.other W (Or.inl qa)⟩, ⟨own_arr_other a1 W (by omega), own_arr_same a2 W hj hn, own_arr_other a3 W (by omega), own_arr_other a4 W (by omega)⟩, ⟨o1, o2, o3, o4⟩, g⟩
theorem own_L_wN {j v : Int32} (V : own_L Z n0 h a b1 b2 b3 b4 fH fS fN fP) (W : Wr h h' b3 j.toNatClampNeg (.int v)) (hj : ¬ j < 0) (hn : j < 3) : own_L Z n0 h' a b1 b2 b3 b4 fH fS (own_upd fN j v) fP := by
  obtain ⟨e, ⟨f1, f2, f3, f4⟩, ⟨a1, a2, a3, a4⟩, ⟨o1, o2, o3, o4⟩, g⟩ := V
  have qa : a ≠ b3 := by omega
  exact ⟨e.wr W, ⟨f1.other W (Or.inl qa), f2.other W (Or.inl qa), f3.other W (Or.inl qa), f4.other W (Or.inl qa)⟩, ⟨own_arr_other a1 W (by omega), own_arr_other a2 W (by omega), own_arr_same a3 W hj hn, own_arr_other a4 W (by omega)⟩, ⟨o1, o2, o3, o4⟩, g⟩
theorem own_L_wP {j v : Int32} (V : own_L Z n0 h a b1 b2 b3 b4 fH fS fN fP) (W : Wr h h' b4 j.toNatClampNeg (.int v)) (hj : ¬ j < 0) (hn : j < 3) : own_L Z n0 h' a b1 b2 b3 b4 fH fS fN (own_upd fP j v) := by
  obtain ⟨e, ⟨f1, f2, f3, f4⟩, ⟨a1, a2, a3, a4⟩, ⟨o1, o2, o3, o4⟩, g⟩ := V
  have qa : a ≠ b4 := by omega
  exact ⟨e.wr W, ⟨f1.other W (Or.inl qa), f2.other W (Or.inl qa), f3.other W (Or.inl qa), f4.other W (Or.inl qa)⟩, ⟨own_arr_other a1 W (by omega), own_arr_other a2 W (by omega), own_arr_other a3 W (by omega), own_arr_same a4 W hj hn⟩, ⟨o1, o2, o3, o4⟩, g⟩
end Lists
/-! what the two methods that write do -/
def own_H0 : Int32 → Int32 := own_upd (own_upd own_zero 0 (-1)) 1 (-1)
def own_pP (fH fP : Int32 → Int32) (k e : Int32) : Int32 → Int32 := if fH k = (-1 : Int32) then own_upd fP e (-1) else own_upd (own_upd fP e (-1)) (fH k) e
def own_rH (fH fN fP : Int32 → Int32) (k e : Int32) : Int32 → Int32 := if fP e = (-1 : Int32) then own_upd fH k (fN e) else fH
def own_rN (fN fP : Int32 → Int32) (e : Int32) : Int32 → Int32 := if fP e = (-1 : Int32) then fN else own_upd fN (fP e) (fN e)
def own_rP (fN fP : Int32 → Int32) (e : Int32) : Int32 → Int32 := if own_rN fN fP e e = (-1 : Int32) then fP else own_upd fP (own_rN fN fP e e) (fP e)
def own_in (z : Int32) : Prop := z = (-1 : Int32) ∨ (¬ z < (0 : Int32) ∧ z < (3 : Int32))
/-! boolean arrays, in the same way -/
def own_arz (Z : State) (h : Heap) (b : Nat) (n : Int32) (f : Int32 → Int32) : Prop := ∃ c : Cell, Arr Z h b c .boolean ∧ c.slots.size = n.toNatClampNeg ∧ ¬ n < 0 ∧ ∀ j : Int32, ¬ j < 0 → j < n → c.slots[j.toNatClampNeg]? = some (.int (f j))
theorem own_arz_lt {Z : State} {h : Heap} {b : Nat} {n : Int32} {f : Int32 → Int32} (V : own_arz Z h b n f) : b < h.size := by obtain ⟨c, A, -⟩ := V; exact A.lt
theorem own_arz_ext {Z : State} {h h' : Heap} {b : Nat} {n : Int32} {f : Int32 → Int32} (V : own_arz Z h b n f) (E : Ext h h') : own_arz Z h' b n f := by obtain ⟨c, A, r⟩ := V; exact ⟨c, A.ext E, r⟩
theorem own_arz_other {Z : State} {h h' : Heap} {a b : Nat} {sl : Nat} {v : Value} {n : Int32} {f : Int32 → Int32} (V : own_arz Z h b n f) (W : Wr h h' a sl v) (q : b ≠ a) : own_arz Z h' b n f := by obtain ⟨c, A, r⟩ := V; exact ⟨c, A.other W q, r⟩
theorem own_arz_keep {Z : State} {h h' : Heap} {b : Nat} {ws : List Addr} {n : Int32} {f : Int32 → Int32} (V : own_arz Z h b n f) (K : Keep h h' ws) (q : b ∉ ws) : own_arz Z h' b n f := by obtain ⟨c, A, r⟩ := V; exact ⟨c, ⟨K.2.1 b c A.1 q, A.2⟩, r⟩
theorem own_arz_same {Z : State} {h h' : Heap} {b : Nat} {j v n : Int32} {f : Int32 → Int32} (V : own_arz Z h b n f) (W : Wr h h' b j.toNatClampNeg (.int v)) (hj : ¬ j < 0) (hn : j < n) : own_arz Z h' b n (own_upd f j v) := by
  obtain ⟨c, A, S, N, G⟩ := V
  refine ⟨_, A.same W, by rw [sz_set]; exact S, N, fun i hi hin => ?_⟩
  by_cases q : i = j
  · rw [get_hit (inb_of S ⟨hj, hn⟩) q]
    unfold own_upd
    rw [if_pos q]
  · rw [get_miss hj hi q, G i hi hin]
    unfold own_upd
    rw [if_neg q]
theorem own_arr_newz {Z : State} {h : Heap} {b : Nat} {k : ClassId} {n : Int32} (A : Arr Z h b (newA k .boolean n) .boolean) (q : ¬ n < 0) : own_arz Z h b n own_zero :=
  ⟨_, A, sz_new _ _ _, q, fun j hj hn => get_new (by have := inb_of (c := newA k .boolean n) (sz_new _ _ _) ⟨hj, hn⟩; rwa [sz_new] at this)⟩
section StepsZ
variable {p : Program} {l : Launch} {e : Env} {R : Room} {s : State} {m : MethodId} {args : Array Value} {below : List Frame} {meth : Method} {c : Code} {T : State} {locs : List Loc} {cells slots : Nat} {Z : State} {h : Heap}
theorem own_ldz (X : Stand p l e R s m args below meth c T locs cells slots) (hx : p.tables.exec = Jvm.exec) (hZ : Z.Warmed39 s.vm) (eT : T.heap = h) {b : Nat} {n : Int32} {f : Int32 → Int32} (V : own_arz Z h b n f) {j : Int32} (hj : ¬ j < 0) (hn : j < n) {g : JFrame} (hg : g.method = m) {rest : List Value} (hs : g.stack = .int j :: .ref b :: rest) (hd : decode c.code g.pc = .ok (.baload, 1)) (target : State)
    (hr : Steps p.tables e below (T.setTop { g with pc := g.pc + 1, stack := .int (f j) :: rest }) target) : Steps p.tables e below (T.setTop g) target := by
  obtain ⟨cl, A, S, N, G⟩ := V
  exact X.baloadBooleans hx (by rw [eT]; exact A.1) (State.isArrayOf_alike hZ.alike A.2.1) A.2.2 (inb_of S ⟨hj, hn⟩) (G j hj hn) hg hs hd target hr
theorem own_stz (X : Stand p l e R s m args below meth c T locs cells slots) (hx : p.tables.exec = Jvm.exec) (hZ : Z.Warmed39 s.vm) (eT : T.heap = h) {b : Nat} {n : Int32} {f : Int32 → Int32} (V : own_arz Z h b n f) {j x : Int32} (hj : ¬ j < 0) (hn : j < n) (hv : nar .boolean x = x) {g : JFrame} (hg : g.method = m) {rest : List Value} (hs : g.stack = .int x :: .int j :: .ref b :: rest) (hd : decode c.code g.pc = .ok (.bastore, 1)) :
    ∃ T' h', Stand p l e R s m args below meth c T' (locs ++ [⟨b, j.toNatClampNeg⟩]) cells slots ∧ T'.heap = h' ∧ Wr h h' b j.toNatClampNeg (.int x) ∧ ∀ target, Steps p.tables e below (T'.setTop { g with pc := g.pc + 1, stack := rest }) target → Steps p.tables e below (T.setTop g) target := by
  obtain ⟨cl, A, S, N, G⟩ := V
  have := stZ X hx hZ eT A (inb_of S ⟨hj, hn⟩) hg hs hd
  rw [hv] at this
  exact this
end StepsZ
theorem own_nin4 {x a b1 b2 b3 b4 : Nat} (q : x < b1) (o : a < b1 ∧ b1 < b2 ∧ b2 < b3 ∧ b3 < b4) : x ∉ [b1, b2, b3, b4] := ninS (Nat.ne_of_lt q) (ninS (Nat.ne_of_lt (Nat.lt_trans q o.2.1)) (ninS (Nat.ne_of_lt (Nat.lt_trans (Nat.lt_trans q o.2.1) o.2.2.1)) (ninS (Nat.ne_of_lt (Nat.lt_trans (Nat.lt_trans (Nat.lt_trans q o.2.1) o.2.2.1) o.2.2.2)) nin0)))
/-! what the law's three helpers answer -/
def own_last (f g : Int32 → Int32) (a w : Int32) : Int32 := if (2 : Int32) < w ∧ f 2 = a ∧ ¬ (g 2 = (0 : Int32)) then 2 else if (1 : Int32) < w ∧ f 1 = a ∧ ¬ (g 1 = (0 : Int32)) then 1 else if (0 : Int32) < w ∧ f 0 = a ∧ ¬ (g 0 = (0 : Int32)) then 0 else -1
def own_el (f : Int32 → Int32) (k : Int32) : Int32 := if k < (0 : Int32) then -1 else f k
theorem own_last_lt (f g : Int32 → Int32) (a w : Int32) : own_last f g a w < (3 : Int32) := by
  unfold own_last
  split
  · decide
  · split
    · decide
    · split <;> decide
theorem d7_0 : decode prog_108_method_5_code 0 = .ok (.aload_n 0, 1) := by decide +kernel
theorem d7_1 : decode prog_108_method_5_code 1 = .ok (.getfield 19, 3) := by decide +kernel
theorem d7_4 : decode prog_108_method_5_code 4 = .ok (.iload_n 1, 1) := by decide +kernel
theorem d7_5 : decode prog_108_method_5_code 5 = .ok (.iaload, 1) := by decide +kernel
theorem d7_6 : decode prog_108_method_5_code 6 = .ok (.ireturn, 1) := by decide +kernel
theorem pn_7 : plainName "com/example/process_stepper/processstepper/equivalence/IntLists" = true := by first | (simp [plainName, overriddenIn]; done) | decide +kernel
theorem ef_7 (m : MethodId) (a1 : Addr) (p2 : Int32) : entryFrame m #[(.ref a1), (.int p2)] 2 = mkF m 0 #[.val (.ref a1), .val (.int p2)] [] := by first | (simp [entryFrame, mkF, argsToLocals, Value.category]; done) | rfl
def Q7 (Z : State) (a1 : Addr) (p2 : Int32) (b1 b2 b3 b4 : Addr) (fH fS fN fP : Int32 → Int32) (h0 : Heap) (n0 : Nat) (v : Option Value) (h : Heap) (L : List Loc) : Prop := v = some (.int (fS p2)) ∧ Fr n0 L ∧ h = h0
set_option maxRecDepth 65536 in
set_option maxHeartbeats 40000000 in
theorem rm7 (l : Launch) (Z : State) (a0 : Array Value) (hw : ∀ d ∈ tables_1, d.before a0 Z = true) (ws : List Jvm.Cond) (a1 : Addr) (p2 : Int32) (b1 b2 b3 b4 : Addr) (fH fS fN fP : Int32 → Int32) (h0 : Heap) (n0 : Nat) (Z0 : n0 ≤ h0.size) (V0 : own_L Z n0 h0 a1 b1 b2 b3 b4 fH fS fN fP) (hj : ¬ p2 < 0) (hn : p2 < (2 : Int32)) :
    MetFree l (⟨"com/example/process_stepper/processstepper/equivalence/IntLists", "size", "(I)I"⟩ : MethodName) (head1 (Jvm.Cond.code (⟨"com/example/process_stepper/processstepper/equivalence/IntLists", "size", "(I)I"⟩ : MethodName) prog_108_method_5_code 2 (some .int) :: ws) ({ frames := 0, cells := 0, slots := 0, locals := 0 } : Room)) (fun a U => a = #[(.ref a1), (.int p2)] ∧ Z.Warmed39 U.vm ∧ U.heap = h0) (fun _ _ _ _ _ => True) (fun _ U o U' => ∃ v L, o = .returned v ∧ Q7 Z a1 p2 b1 b2 b3 b4 fH fS fN fP h0 n0 v U'.heap L ∧ FrameEnd U o U' L ({ frames := 0, cells := 0, slots := 0, locals := 0 } : Room).cells ({ frames := 0, cells := 0, slots := 0, locals := 0 } : Room).slots) := by
  refine MetFree.of_bodySF (plainFor_of_name pn_7) hisR ?_
  intro p e s m args below meth c s₁ Bd hml0 hP hK
  obtain ⟨rfl, hZ, hh⟩ := hP
  have hx := Bd.exec
  have hby := Bd.bytes
  have hml : c.maxLocals = 2 := hml0
  have hown : s.vm.findClass "com/example/process_stepper/processstepper/equivalence/IntLists" = some m.cls := findClass_of_methodNamed Bd.named
  have hnm := (name_of_methodNamed Bd.named Bd.method).1
  have X0 : Stand p l e ({ frames := 0, cells := 0, slots := 0, locals := 0 } : Room) s m #[(.ref a1), (.int p2)] below meth c s₁ [] 0 0 := Stand.of_body Bd
  have e0 : s₁.heap = h0 := by rw [← hh, Bd.state]; rfl
  have N0 := Fr.nil n0
  have pre0 : ∀ t, Steps p.tables e below (s₁.setTop (mkF m 0 #[.val (.ref a1), .val (.int p2)] [])) t → Steps p.tables e below (s₁.setTop (entryFrame m #[(.ref a1), (.int p2)] 2)) t := fun t k => castTop (ef_7 m a1 p2) k
  obtain ⟨T1, X1, e1, st1⟩ := getF X0 hx hZ hown (host := "") (Or.inl (own_w hw 18 rfl)) Via.refl e0 V0.2.1.2.1 (g := (mkF m 1 #[.val (.ref a1), .val (.int p2)] [(.ref a1)])) rfl rfl (hb hby d7_1)
  obtain ⟨fs, hr, hrun, hended, hW, hsame⟩ := X1.leave (v := some (.int (fS p2))) (fun h => by rw [Bd.returns] at h; cases h)
  refine ⟨_, _, pre0 _ ?_, hrun, hended, _, _, rfl, ?_, ⟨_, rfl⟩, hW, hsame.mono (by decide) (by decide)⟩
  · show Steps p.tables e below (s₁.setTop (mkF m 0 #[.val (.ref a1), .val (.int p2)] [])) _
    refine XS.aloadN X0.here hx rfl (hb hby d7_0) rfl rfl ?_
    show Steps p.tables e below (s₁.setTop (mkF m 1 #[.val (.ref a1), .val (.int p2)] [(.ref a1)])) _
    refine st1 _ ?_
    show Steps p.tables e below (T1.setTop (mkF m 4 #[.val (.ref a1), .val (.int p2)] [(.ref b2)])) _
    refine XS.iloadN X1.here hx rfl (hb hby d7_4) rfl ?_
    show Steps p.tables e below (T1.setTop (mkF m 5 #[.val (.ref a1), .val (.int p2)] [(.int p2), (.ref b2)])) _
    refine own_ld X1 hx hZ e1 V0.2.2.1.2.1 hj hn (g := (mkF m 5 #[.val (.ref a1), .val (.int p2)] [(.int p2), (.ref b2)])) rfl rfl (hb hby d7_5) _ ?_
    show Steps p.tables e below (T1.setTop (mkF m 6 #[.val (.ref a1), .val (.int p2)] [(.int (fS p2))])) _
    exact retI X1 hx Bd.returns (hb hby d7_6) hr
  · show Q7 Z a1 p2 b1 b2 b3 b4 fH fS fN fP h0 n0 _ T1.heap _
    rw [e1]
    exact ⟨rfl, N0, rfl⟩
theorem d8_0 : decode prog_108_method_3_code 0 = .ok (.aload_n 0, 1) := by decide +kernel
theorem d8_1 : decode prog_108_method_3_code 1 = .ok (.getfield 7, 3) := by decide +kernel
theorem d8_4 : decode prog_108_method_3_code 4 = .ok (.iload_n 1, 1) := by decide +kernel
theorem d8_5 : decode prog_108_method_3_code 5 = .ok (.iaload, 1) := by decide +kernel
theorem d8_6 : decode prog_108_method_3_code 6 = .ok (.ireturn, 1) := by decide +kernel
theorem pn_8 : plainName "com/example/process_stepper/processstepper/equivalence/IntLists" = true := by first | (simp [plainName, overriddenIn]; done) | decide +kernel
theorem ef_8 (m : MethodId) (a1 : Addr) (p2 : Int32) : entryFrame m #[(.ref a1), (.int p2)] 2 = mkF m 0 #[.val (.ref a1), .val (.int p2)] [] := by first | (simp [entryFrame, mkF, argsToLocals, Value.category]; done) | rfl
def Q8 (Z : State) (a1 : Addr) (p2 : Int32) (b1 b2 b3 b4 : Addr) (fH fS fN fP : Int32 → Int32) (h0 : Heap) (n0 : Nat) (v : Option Value) (h : Heap) (L : List Loc) : Prop := v = some (.int (fH p2)) ∧ Fr n0 L ∧ h = h0
set_option maxRecDepth 65536 in
set_option maxHeartbeats 40000000 in
theorem rm8 (l : Launch) (Z : State) (a0 : Array Value) (hw : ∀ d ∈ tables_1, d.before a0 Z = true) (ws : List Jvm.Cond) (a1 : Addr) (p2 : Int32) (b1 b2 b3 b4 : Addr) (fH fS fN fP : Int32 → Int32) (h0 : Heap) (n0 : Nat) (Z0 : n0 ≤ h0.size) (V0 : own_L Z n0 h0 a1 b1 b2 b3 b4 fH fS fN fP) (hj : ¬ p2 < 0) (hn : p2 < (2 : Int32)) :
    MetFree l (⟨"com/example/process_stepper/processstepper/equivalence/IntLists", "first", "(I)I"⟩ : MethodName) (head1 (Jvm.Cond.code (⟨"com/example/process_stepper/processstepper/equivalence/IntLists", "first", "(I)I"⟩ : MethodName) prog_108_method_3_code 2 (some .int) :: ws) ({ frames := 0, cells := 0, slots := 0, locals := 0 } : Room)) (fun a U => a = #[(.ref a1), (.int p2)] ∧ Z.Warmed39 U.vm ∧ U.heap = h0) (fun _ _ _ _ _ => True) (fun _ U o U' => ∃ v L, o = .returned v ∧ Q8 Z a1 p2 b1 b2 b3 b4 fH fS fN fP h0 n0 v U'.heap L ∧ FrameEnd U o U' L ({ frames := 0, cells := 0, slots := 0, locals := 0 } : Room).cells ({ frames := 0, cells := 0, slots := 0, locals := 0 } : Room).slots) := by
  refine MetFree.of_bodySF (plainFor_of_name pn_8) hisR ?_
  intro p e s m args below meth c s₁ Bd hml0 hP hK
  obtain ⟨rfl, hZ, hh⟩ := hP
  have hx := Bd.exec
  have hby := Bd.bytes
  have hml : c.maxLocals = 2 := hml0
  have hown : s.vm.findClass "com/example/process_stepper/processstepper/equivalence/IntLists" = some m.cls := findClass_of_methodNamed Bd.named
  have hnm := (name_of_methodNamed Bd.named Bd.method).1
  have X0 : Stand p l e ({ frames := 0, cells := 0, slots := 0, locals := 0 } : Room) s m #[(.ref a1), (.int p2)] below meth c s₁ [] 0 0 := Stand.of_body Bd
  have e0 : s₁.heap = h0 := by rw [← hh, Bd.state]; rfl
  have N0 := Fr.nil n0
  have pre0 : ∀ t, Steps p.tables e below (s₁.setTop (mkF m 0 #[.val (.ref a1), .val (.int p2)] [])) t → Steps p.tables e below (s₁.setTop (entryFrame m #[(.ref a1), (.int p2)] 2)) t := fun t k => castTop (ef_8 m a1 p2) k
  obtain ⟨T1, X1, e1, st1⟩ := getF X0 hx hZ hown (host := "") (Or.inl (own_w hw 12 rfl)) Via.refl e0 V0.2.1.1 (g := (mkF m 1 #[.val (.ref a1), .val (.int p2)] [(.ref a1)])) rfl rfl (hb hby d8_1)
  obtain ⟨fs, hr, hrun, hended, hW, hsame⟩ := X1.leave (v := some (.int (fH p2))) (fun h => by rw [Bd.returns] at h; cases h)
  refine ⟨_, _, pre0 _ ?_, hrun, hended, _, _, rfl, ?_, ⟨_, rfl⟩, hW, hsame.mono (by decide) (by decide)⟩
  · show Steps p.tables e below (s₁.setTop (mkF m 0 #[.val (.ref a1), .val (.int p2)] [])) _
    refine XS.aloadN X0.here hx rfl (hb hby d8_0) rfl rfl ?_
    show Steps p.tables e below (s₁.setTop (mkF m 1 #[.val (.ref a1), .val (.int p2)] [(.ref a1)])) _
    refine st1 _ ?_
    show Steps p.tables e below (T1.setTop (mkF m 4 #[.val (.ref a1), .val (.int p2)] [(.ref b1)])) _
    refine XS.iloadN X1.here hx rfl (hb hby d8_4) rfl ?_
    show Steps p.tables e below (T1.setTop (mkF m 5 #[.val (.ref a1), .val (.int p2)] [(.int p2), (.ref b1)])) _
    refine own_ld X1 hx hZ e1 V0.2.2.1.1 hj hn (g := (mkF m 5 #[.val (.ref a1), .val (.int p2)] [(.int p2), (.ref b1)])) rfl rfl (hb hby d8_5) _ ?_
    show Steps p.tables e below (T1.setTop (mkF m 6 #[.val (.ref a1), .val (.int p2)] [(.int (fH p2))])) _
    exact retI X1 hx Bd.returns (hb hby d8_6) hr
  · show Q8 Z a1 p2 b1 b2 b3 b4 fH fS fN fP h0 n0 _ T1.heap _
    rw [e1]
    exact ⟨rfl, N0, rfl⟩
theorem d9_0 : decode prog_108_method_4_code 0 = .ok (.aload_n 0, 1) := by decide +kernel
theorem d9_1 : decode prog_108_method_4_code 1 = .ok (.getfield 22, 3) := by decide +kernel
theorem d9_4 : decode prog_108_method_4_code 4 = .ok (.iload_n 1, 1) := by decide +kernel
theorem d9_5 : decode prog_108_method_4_code 5 = .ok (.iaload, 1) := by decide +kernel
theorem d9_6 : decode prog_108_method_4_code 6 = .ok (.ireturn, 1) := by decide +kernel
theorem pn_9 : plainName "com/example/process_stepper/processstepper/equivalence/IntLists" = true := by first | (simp [plainName, overriddenIn]; done) | decide +kernel
theorem ef_9 (m : MethodId) (a1 : Addr) (p2 : Int32) : entryFrame m #[(.ref a1), (.int p2)] 2 = mkF m 0 #[.val (.ref a1), .val (.int p2)] [] := by first | (simp [entryFrame, mkF, argsToLocals, Value.category]; done) | rfl
def Q9 (Z : State) (a1 : Addr) (p2 : Int32) (b1 b2 b3 b4 : Addr) (fH fS fN fP : Int32 → Int32) (h0 : Heap) (n0 : Nat) (v : Option Value) (h : Heap) (L : List Loc) : Prop := v = some (.int (fN p2)) ∧ Fr n0 L ∧ h = h0
set_option maxRecDepth 65536 in
set_option maxHeartbeats 40000000 in
theorem rm9 (l : Launch) (Z : State) (a0 : Array Value) (hw : ∀ d ∈ tables_1, d.before a0 Z = true) (ws : List Jvm.Cond) (a1 : Addr) (p2 : Int32) (b1 b2 b3 b4 : Addr) (fH fS fN fP : Int32 → Int32) (h0 : Heap) (n0 : Nat) (Z0 : n0 ≤ h0.size) (V0 : own_L Z n0 h0 a1 b1 b2 b3 b4 fH fS fN fP) (hj : ¬ p2 < 0) (hn : p2 < (3 : Int32)) :
    MetFree l (⟨"com/example/process_stepper/processstepper/equivalence/IntLists", "next", "(I)I"⟩ : MethodName) (head1 (Jvm.Cond.code (⟨"com/example/process_stepper/processstepper/equivalence/IntLists", "next", "(I)I"⟩ : MethodName) prog_108_method_4_code 2 (some .int) :: ws) ({ frames := 0, cells := 0, slots := 0, locals := 0 } : Room)) (fun a U => a = #[(.ref a1), (.int p2)] ∧ Z.Warmed39 U.vm ∧ U.heap = h0) (fun _ _ _ _ _ => True) (fun _ U o U' => ∃ v L, o = .returned v ∧ Q9 Z a1 p2 b1 b2 b3 b4 fH fS fN fP h0 n0 v U'.heap L ∧ FrameEnd U o U' L ({ frames := 0, cells := 0, slots := 0, locals := 0 } : Room).cells ({ frames := 0, cells := 0, slots := 0, locals := 0 } : Room).slots) := by
  refine MetFree.of_bodySF (plainFor_of_name pn_9) hisR ?_
  intro p e s m args below meth c s₁ Bd hml0 hP hK
  obtain ⟨rfl, hZ, hh⟩ := hP
  have hx := Bd.exec
  have hby := Bd.bytes
  have hml : c.maxLocals = 2 := hml0
  have hown : s.vm.findClass "com/example/process_stepper/processstepper/equivalence/IntLists" = some m.cls := findClass_of_methodNamed Bd.named
  have hnm := (name_of_methodNamed Bd.named Bd.method).1
  have X0 : Stand p l e ({ frames := 0, cells := 0, slots := 0, locals := 0 } : Room) s m #[(.ref a1), (.int p2)] below meth c s₁ [] 0 0 := Stand.of_body Bd
  have e0 : s₁.heap = h0 := by rw [← hh, Bd.state]; rfl
  have N0 := Fr.nil n0
  have pre0 : ∀ t, Steps p.tables e below (s₁.setTop (mkF m 0 #[.val (.ref a1), .val (.int p2)] [])) t → Steps p.tables e below (s₁.setTop (entryFrame m #[(.ref a1), (.int p2)] 2)) t := fun t k => castTop (ef_9 m a1 p2) k
  obtain ⟨T1, X1, e1, st1⟩ := getF X0 hx hZ hown (host := "") (Or.inl (own_w hw 20 rfl)) Via.refl e0 V0.2.1.2.2.1 (g := (mkF m 1 #[.val (.ref a1), .val (.int p2)] [(.ref a1)])) rfl rfl (hb hby d9_1)
  obtain ⟨fs, hr, hrun, hended, hW, hsame⟩ := X1.leave (v := some (.int (fN p2))) (fun h => by rw [Bd.returns] at h; cases h)
  refine ⟨_, _, pre0 _ ?_, hrun, hended, _, _, rfl, ?_, ⟨_, rfl⟩, hW, hsame.mono (by decide) (by decide)⟩
  · show Steps p.tables e below (s₁.setTop (mkF m 0 #[.val (.ref a1), .val (.int p2)] [])) _
    refine XS.aloadN X0.here hx rfl (hb hby d9_0) rfl rfl ?_
    show Steps p.tables e below (s₁.setTop (mkF m 1 #[.val (.ref a1), .val (.int p2)] [(.ref a1)])) _
    refine st1 _ ?_
    show Steps p.tables e below (T1.setTop (mkF m 4 #[.val (.ref a1), .val (.int p2)] [(.ref b3)])) _
    refine XS.iloadN X1.here hx rfl (hb hby d9_4) rfl ?_
    show Steps p.tables e below (T1.setTop (mkF m 5 #[.val (.ref a1), .val (.int p2)] [(.int p2), (.ref b3)])) _
    refine own_ld X1 hx hZ e1 V0.2.2.1.2.2.1 hj hn (g := (mkF m 5 #[.val (.ref a1), .val (.int p2)] [(.int p2), (.ref b3)])) rfl rfl (hb hby d9_5) _ ?_
    show Steps p.tables e below (T1.setTop (mkF m 6 #[.val (.ref a1), .val (.int p2)] [(.int (fN p2))])) _
    exact retI X1 hx Bd.returns (hb hby d9_6) hr
  · show Q9 Z a1 p2 b1 b2 b3 b4 fH fS fN fP h0 n0 _ T1.heap _
    rw [e1]
    exact ⟨rfl, N0, rfl⟩
theorem d4_0 : decode prog_108_method_6_code 0 = .ok (.aload_n 0, 1) := by decide +kernel
theorem d4_1 : decode prog_108_method_6_code 1 = .ok (.getfield 25, 3) := by decide +kernel
theorem d4_4 : decode prog_108_method_6_code 4 = .ok (.iload_n 2, 1) := by decide +kernel
theorem d4_5 : decode prog_108_method_6_code 5 = .ok (.iconst (-1), 1) := by decide +kernel
theorem d4_6 : decode prog_108_method_6_code 6 = .ok (.iastore, 1) := by decide +kernel
theorem d4_7 : decode prog_108_method_6_code 7 = .ok (.aload_n 0, 1) := by decide +kernel
theorem d4_8 : decode prog_108_method_6_code 8 = .ok (.getfield 22, 3) := by decide +kernel
theorem d4_11 : decode prog_108_method_6_code 11 = .ok (.iload_n 2, 1) := by decide +kernel
theorem d4_12 : decode prog_108_method_6_code 12 = .ok (.aload_n 0, 1) := by decide +kernel
theorem d4_13 : decode prog_108_method_6_code 13 = .ok (.getfield 7, 3) := by decide +kernel
theorem d4_16 : decode prog_108_method_6_code 16 = .ok (.iload_n 1, 1) := by decide +kernel
theorem d4_17 : decode prog_108_method_6_code 17 = .ok (.iaload, 1) := by decide +kernel
theorem d4_18 : decode prog_108_method_6_code 18 = .ok (.iastore, 1) := by decide +kernel
theorem d4_19 : decode prog_108_method_6_code 19 = .ok (.aload_n 0, 1) := by decide +kernel
theorem d4_20 : decode prog_108_method_6_code 20 = .ok (.getfield 7, 3) := by decide +kernel
theorem d4_23 : decode prog_108_method_6_code 23 = .ok (.iload_n 1, 1) := by decide +kernel
theorem d4_24 : decode prog_108_method_6_code 24 = .ok (.iaload, 1) := by decide +kernel
theorem d4_25 : decode prog_108_method_6_code 25 = .ok (.iconst (-1), 1) := by decide +kernel
theorem d4_26 : decode prog_108_method_6_code 26 = .ok (.if_icmp .eq 15, 3) := by decide +kernel
theorem d4_29 : decode prog_108_method_6_code 29 = .ok (.aload_n 0, 1) := by decide +kernel
theorem d4_30 : decode prog_108_method_6_code 30 = .ok (.getfield 25, 3) := by decide +kernel
theorem d4_33 : decode prog_108_method_6_code 33 = .ok (.aload_n 0, 1) := by decide +kernel
theorem d4_34 : decode prog_108_method_6_code 34 = .ok (.getfield 7, 3) := by decide +kernel
theorem d4_37 : decode prog_108_method_6_code 37 = .ok (.iload_n 1, 1) := by decide +kernel
theorem d4_38 : decode prog_108_method_6_code 38 = .ok (.iaload, 1) := by decide +kernel
theorem d4_39 : decode prog_108_method_6_code 39 = .ok (.iload_n 2, 1) := by decide +kernel
theorem d4_40 : decode prog_108_method_6_code 40 = .ok (.iastore, 1) := by decide +kernel
theorem d4_41 : decode prog_108_method_6_code 41 = .ok (.aload_n 0, 1) := by decide +kernel
theorem d4_42 : decode prog_108_method_6_code 42 = .ok (.getfield 7, 3) := by decide +kernel
theorem d4_45 : decode prog_108_method_6_code 45 = .ok (.iload_n 1, 1) := by decide +kernel
theorem d4_46 : decode prog_108_method_6_code 46 = .ok (.iload_n 2, 1) := by decide +kernel
theorem d4_47 : decode prog_108_method_6_code 47 = .ok (.iastore, 1) := by decide +kernel
theorem d4_48 : decode prog_108_method_6_code 48 = .ok (.aload_n 0, 1) := by decide +kernel
theorem d4_49 : decode prog_108_method_6_code 49 = .ok (.getfield 19, 3) := by decide +kernel
theorem d4_52 : decode prog_108_method_6_code 52 = .ok (.iload_n 1, 1) := by decide +kernel
theorem d4_53 : decode prog_108_method_6_code 53 = .ok (.dup2, 1) := by decide +kernel
theorem d4_54 : decode prog_108_method_6_code 54 = .ok (.iaload, 1) := by decide +kernel
theorem d4_55 : decode prog_108_method_6_code 55 = .ok (.iconst 1, 1) := by decide +kernel
theorem d4_56 : decode prog_108_method_6_code 56 = .ok (.iadd, 1) := by decide +kernel
theorem d4_57 : decode prog_108_method_6_code 57 = .ok (.iastore, 1) := by decide +kernel
theorem d4_58 : decode prog_108_method_6_code 58 = .ok (.return_, 1) := by decide +kernel
theorem pn_4 : plainName "com/example/process_stepper/processstepper/equivalence/IntLists" = true := by first | (simp [plainName, overriddenIn]; done) | decide +kernel
theorem ef_4 (m : MethodId) (a1 : Addr) (p2 : Int32) (p3 : Int32) : entryFrame m #[(.ref a1), (.int p2), (.int p3)] 3 = mkF m 0 #[.val (.ref a1), .val (.int p2), .val (.int p3)] [] := by first | (simp [entryFrame, mkF, argsToLocals, Value.category]; done) | rfl
def Q4 (Z : State) (a1 : Addr) (p2 p3 : Int32) (b1 b2 b3 b4 : Addr) (fH fS fN fP : Int32 → Int32) (h0 : Heap) (n0 : Nat) (v : Option Value) (h : Heap) (L : List Loc) : Prop := v = none ∧ Fr n0 L ∧ Keep h0 h [b1, b2, b3, b4] ∧ own_L Z n0 h a1 b1 b2 b3 b4 (own_upd fH p2 p3) (own_upd fS p2 (fS p2 + (1 : Int32))) (own_upd fN p3 (fH p2)) (own_pP fH fP p2 p3)
set_option maxRecDepth 65536 in
set_option maxHeartbeats 40000000 in
theorem rm4 (l : Launch) (Z : State) (a0 : Array Value) (hw : ∀ d ∈ tables_1, d.before a0 Z = true) (ws : List Jvm.Cond) (a1 : Addr) (p2 p3 : Int32) (b1 b2 b3 b4 : Addr) (fH fS fN fP : Int32 → Int32) (h0 : Heap) (n0 : Nat) (Z0 : n0 ≤ h0.size) (V0 : own_L Z n0 h0 a1 b1 b2 b3 b4 fH fS fN fP) (l0 : ¬ p2 < 0) (l1 : p2 < (2 : Int32)) (q0 : ¬ p3 < 0) (q1 : p3 < (3 : Int32)) (hH : own_in (fH p2)) :
    MetFree l (⟨"com/example/process_stepper/processstepper/equivalence/IntLists", "push", "(II)V"⟩ : MethodName) (head1 (Jvm.Cond.code (⟨"com/example/process_stepper/processstepper/equivalence/IntLists", "push", "(II)V"⟩ : MethodName) prog_108_method_6_code 3 none :: ws) ({ frames := 0, cells := 0, slots := 0, locals := 0 } : Room)) (fun a U => a = #[(.ref a1), (.int p2), (.int p3)] ∧ Z.Warmed39 U.vm ∧ U.heap = h0) (fun _ _ _ _ _ => True) (fun _ U o U' => ∃ v L, o = .returned v ∧ Q4 Z a1 p2 p3 b1 b2 b3 b4 fH fS fN fP h0 n0 v U'.heap L ∧ FrameEnd U o U' L ({ frames := 0, cells := 0, slots := 0, locals := 0 } : Room).cells ({ frames := 0, cells := 0, slots := 0, locals := 0 } : Room).slots) := by
  refine MetFree.of_bodySF (plainFor_of_name pn_4) hisR ?_
  intro p e s m args below meth c s₁ Bd hml0 hP hK
  obtain ⟨rfl, hZ, hh⟩ := hP
  have hx := Bd.exec
  have hby := Bd.bytes
  have hml : c.maxLocals = 3 := hml0
  have hown : s.vm.findClass "com/example/process_stepper/processstepper/equivalence/IntLists" = some m.cls := findClass_of_methodNamed Bd.named
  have hnm := (name_of_methodNamed Bd.named Bd.method).1
  have X0 : Stand p l e ({ frames := 0, cells := 0, slots := 0, locals := 0 } : Room) s m #[(.ref a1), (.int p2), (.int p3)] below meth c s₁ [] 0 0 := Stand.of_body Bd
  have e0 : s₁.heap = h0 := by rw [← hh, Bd.state]; rfl
  have N0 := Fr.nil n0
  have pre0 : ∀ t, Steps p.tables e below (s₁.setTop (mkF m 0 #[.val (.ref a1), .val (.int p2), .val (.int p3)] [])) t → Steps p.tables e below (s₁.setTop (entryFrame m #[(.ref a1), (.int p2), (.int p3)] 3)) t := fun t k => castTop (ef_4 m a1 p2 p3) k
  obtain ⟨T1, X1, e1, st1⟩ := getF X0 hx hZ hown (host := "") (Or.inl (own_w hw 22 rfl)) Via.refl e0 V0.2.1.2.2.2 (g := (mkF m 1 #[.val (.ref a1), .val (.int p2), .val (.int p3)] [(.ref a1)])) rfl rfl (hb hby d4_1)
  obtain ⟨T2, h2, X2, e2, W2, st2⟩ := own_st X1 hx hZ e1 V0.2.2.1.2.2.2 q0 q1 (g := (mkF m 6 #[.val (.ref a1), .val (.int p2), .val (.int p3)] [(.int (-1 : Int32)), (.int p3), (.ref b4)])) rfl rfl (hb hby d4_6)
  have V_a1_2 : own_L Z n0 h2 a1 b1 b2 b3 b4 fH fS fN (own_upd fP p3 (-1 : Int32)) := own_L_wP V0 W2 q0 q1
  have K2 : Keep h0 h2 [b1, b2, b3, b4] := (Keep.refl h0 [b1, b2, b3, b4]).wr W2 (Or.inl (List.mem_of_getElem? (i := 3) rfl))
  have N2 := Fr.snoc X2 N0 (own_L_g V0).2.2.2
  have Zs2 : n0 ≤ h2.size := by rw [W2.size]; exact Z0
  obtain ⟨T3, X3, e3, st3⟩ := getF X2 hx hZ hown (host := "") (Or.inl (own_w hw 20 rfl)) Via.refl e2 V_a1_2.2.1.2.2.1 (g := (mkF m 8 #[.val (.ref a1), .val (.int p2), .val (.int p3)] [(.ref a1)])) rfl rfl (hb hby d4_8)
  obtain ⟨T4, X4, e4, st4⟩ := getF X3 hx hZ hown (host := "") (Or.inl (own_w hw 12 rfl)) Via.refl e3 V_a1_2.2.1.1 (g := (mkF m 13 #[.val (.ref a1), .val (.int p2), .val (.int p3)] [(.ref a1), (.int p3), (.ref b3)])) rfl rfl (hb hby d4_13)
  obtain ⟨T5, h5, X5, e5, W5, st5⟩ := own_st X4 hx hZ e4 V_a1_2.2.2.1.2.2.1 q0 q1 (g := (mkF m 18 #[.val (.ref a1), .val (.int p2), .val (.int p3)] [(.int (fH p2)), (.int p3), (.ref b3)])) rfl rfl (hb hby d4_18)
  have V_a1_5 : own_L Z n0 h5 a1 b1 b2 b3 b4 fH fS (own_upd fN p3 (fH p2)) (own_upd fP p3 (-1 : Int32)) := own_L_wN V_a1_2 W5 q0 q1
  have K5 : Keep h0 h5 [b1, b2, b3, b4] := K2.wr W5 (Or.inl (List.mem_of_getElem? (i := 2) rfl))
  have N5 := Fr.snoc X5 N2 (own_L_g V0).2.2.1
  have Zs5 : n0 ≤ h5.size := by rw [W5.size]; exact Zs2
  obtain ⟨T6, X6, e6, st6⟩ := getF X5 hx hZ hown (host := "") (Or.inl (own_w hw 12 rfl)) Via.refl e5 V_a1_5.2.1.1 (g := (mkF m 20 #[.val (.ref a1), .val (.int p2), .val (.int p3)] [(.ref a1)])) rfl rfl (hb hby d4_20)
  by_cases hc26 : (fH p2) = (-1 : Int32)
  · obtain ⟨T7, X7, e7, st7⟩ := getF X6 hx hZ hown (host := "") (Or.inl (own_w hw 12 rfl)) Via.refl e6 V_a1_5.2.1.1 (g := (mkF m 42 #[.val (.ref a1), .val (.int p2), .val (.int p3)] [(.ref a1)])) rfl rfl (hb hby d4_42)
    obtain ⟨T8, h8, X8, e8, W8, st8⟩ := own_st X7 hx hZ e7 V_a1_5.2.2.1.1 l0 l1 (g := (mkF m 47 #[.val (.ref a1), .val (.int p2), .val (.int p3)] [(.int p3), (.int p2), (.ref b1)])) rfl rfl (hb hby d4_47)
    have V_a1_8 : own_L Z n0 h8 a1 b1 b2 b3 b4 (own_upd fH p2 p3) fS (own_upd fN p3 (fH p2)) (own_upd fP p3 (-1 : Int32)) := own_L_wH V_a1_5 W8 l0 l1
    have K8 : Keep h0 h8 [b1, b2, b3, b4] := K5.wr W8 (Or.inl (List.mem_of_getElem? (i := 0) rfl))
    have N8 := Fr.snoc X8 N5 (own_L_g V0).1
    have Zs8 : n0 ≤ h8.size := by rw [W8.size]; exact Zs5
    obtain ⟨T9, X9, e9, st9⟩ := getF X8 hx hZ hown (host := "") (Or.inl (own_w hw 18 rfl)) Via.refl e8 V_a1_8.2.1.2.1 (g := (mkF m 49 #[.val (.ref a1), .val (.int p2), .val (.int p3)] [(.ref a1)])) rfl rfl (hb hby d4_49)
    obtain ⟨T10, h10, X10, e10, W10, st10⟩ := own_st X9 hx hZ e9 V_a1_8.2.2.1.2.1 l0 l1 (g := (mkF m 57 #[.val (.ref a1), .val (.int p2), .val (.int p3)] [(.int ((fS p2) + (1 : Int32))), (.int p2), (.ref b2)])) rfl rfl (hb hby d4_57)
    have V_a1_10 : own_L Z n0 h10 a1 b1 b2 b3 b4 (own_upd fH p2 p3) (own_upd fS p2 ((fS p2) + (1 : Int32))) (own_upd fN p3 (fH p2)) (own_upd fP p3 (-1 : Int32)) := own_L_wS V_a1_8 W10 l0 l1
    have K10 : Keep h0 h10 [b1, b2, b3, b4] := K8.wr W10 (Or.inl (List.mem_of_getElem? (i := 1) rfl))
    have N10 := Fr.snoc X10 N8 (own_L_g V0).2.1
    have Zs10 : n0 ≤ h10.size := by rw [W10.size]; exact Zs8
    obtain ⟨fs, hr, hrun, hended, hW, hsame⟩ := X10.leave (v := none) (fun _ => rfl)
    refine ⟨_, _, pre0 _ ?_, hrun, hended, _, _, rfl, ?_, ⟨_, rfl⟩, hW, hsame.mono (by decide) (by decide)⟩
    · show Steps p.tables e below (s₁.setTop (mkF m 0 #[.val (.ref a1), .val (.int p2), .val (.int p3)] [])) _
      refine XS.aloadN X0.here hx rfl (hb hby d4_0) rfl rfl ?_
      show Steps p.tables e below (s₁.setTop (mkF m 1 #[.val (.ref a1), .val (.int p2), .val (.int p3)] [(.ref a1)])) _
      refine st1 _ ?_
      show Steps p.tables e below (T1.setTop (mkF m 4 #[.val (.ref a1), .val (.int p2), .val (.int p3)] [(.ref b4)])) _
      refine XS.iloadN X1.here hx rfl (hb hby d4_4) rfl ?_
      refine XS.iconst X1.here hx rfl (hb hby d4_5) ?_
      show Steps p.tables e below (T1.setTop (mkF m 6 #[.val (.ref a1), .val (.int p2), .val (.int p3)] [(.int (-1 : Int32)), (.int p3), (.ref b4)])) _
      refine st2 _ ?_
      show Steps p.tables e below (T2.setTop (mkF m 7 #[.val (.ref a1), .val (.int p2), .val (.int p3)] [])) _
      refine XS.aloadN X2.here hx rfl (hb hby d4_7) rfl rfl ?_
      show Steps p.tables e below (T2.setTop (mkF m 8 #[.val (.ref a1), .val (.int p2), .val (.int p3)] [(.ref a1)])) _
      refine st3 _ ?_
      show Steps p.tables e below (T3.setTop (mkF m 11 #[.val (.ref a1), .val (.int p2), .val (.int p3)] [(.ref b3)])) _
      refine XS.iloadN X3.here hx rfl (hb hby d4_11) rfl ?_
      refine XS.aloadN X3.here hx rfl (hb hby d4_12) rfl rfl ?_
      show Steps p.tables e below (T3.setTop (mkF m 13 #[.val (.ref a1), .val (.int p2), .val (.int p3)] [(.ref a1), (.int p3), (.ref b3)])) _
      refine st4 _ ?_
      show Steps p.tables e below (T4.setTop (mkF m 16 #[.val (.ref a1), .val (.int p2), .val (.int p3)] [(.ref b1), (.int p3), (.ref b3)])) _
      refine XS.iloadN X4.here hx rfl (hb hby d4_16) rfl ?_
      show Steps p.tables e below (T4.setTop (mkF m 17 #[.val (.ref a1), .val (.int p2), .val (.int p3)] [(.int p2), (.ref b1), (.int p3), (.ref b3)])) _
      refine own_ld X4 hx hZ e4 V_a1_2.2.2.1.1 l0 l1 (g := (mkF m 17 #[.val (.ref a1), .val (.int p2), .val (.int p3)] [(.int p2), (.ref b1), (.int p3), (.ref b3)])) rfl rfl (hb hby d4_17) _ ?_
      show Steps p.tables e below (T4.setTop (mkF m 18 #[.val (.ref a1), .val (.int p2), .val (.int p3)] [(.int (fH p2)), (.int p3), (.ref b3)])) _
      refine st5 _ ?_
      show Steps p.tables e below (T5.setTop (mkF m 19 #[.val (.ref a1), .val (.int p2), .val (.int p3)] [])) _
      refine XS.aloadN X5.here hx rfl (hb hby d4_19) rfl rfl ?_
      show Steps p.tables e below (T5.setTop (mkF m 20 #[.val (.ref a1), .val (.int p2), .val (.int p3)] [(.ref a1)])) _
      refine st6 _ ?_
      show Steps p.tables e below (T6.setTop (mkF m 23 #[.val (.ref a1), .val (.int p2), .val (.int p3)] [(.ref b1)])) _
      refine XS.iloadN X6.here hx rfl (hb hby d4_23) rfl ?_
      show Steps p.tables e below (T6.setTop (mkF m 24 #[.val (.ref a1), .val (.int p2), .val (.int p3)] [(.int p2), (.ref b1)])) _
      refine own_ld X6 hx hZ e6 V_a1_5.2.2.1.1 l0 l1 (g := (mkF m 24 #[.val (.ref a1), .val (.int p2), .val (.int p3)] [(.int p2), (.ref b1)])) rfl rfl (hb hby d4_24) _ ?_
      show Steps p.tables e below (T6.setTop (mkF m 25 #[.val (.ref a1), .val (.int p2), .val (.int p3)] [(.int (fH p2))])) _
      refine XS.iconst X6.here hx rfl (hb hby d4_25) ?_
      show Steps p.tables e below (T6.setTop (mkF m 26 #[.val (.ref a1), .val (.int p2), .val (.int p3)] [(.int (-1 : Int32)), (.int (fH p2))])) _
      refine XS.icmpYes X6.here hx rfl (pc0 := 26) (pc' := 41) rfl (hb hby d4_26) rfl (teq hc26).1 (by decide) (by decide) ?_
      show Steps p.tables e below (T6.setTop (mkF m 41 #[.val (.ref a1), .val (.int p2), .val (.int p3)] [])) _
      refine XS.aloadN X6.here hx rfl (hb hby d4_41) rfl rfl ?_
      show Steps p.tables e below (T6.setTop (mkF m 42 #[.val (.ref a1), .val (.int p2), .val (.int p3)] [(.ref a1)])) _
      refine st7 _ ?_
      show Steps p.tables e below (T7.setTop (mkF m 45 #[.val (.ref a1), .val (.int p2), .val (.int p3)] [(.ref b1)])) _
      refine XS.iloadN X7.here hx rfl (hb hby d4_45) rfl ?_
      refine XS.iloadN X7.here hx rfl (hb hby d4_46) rfl ?_
      show Steps p.tables e below (T7.setTop (mkF m 47 #[.val (.ref a1), .val (.int p2), .val (.int p3)] [(.int p3), (.int p2), (.ref b1)])) _
      refine st8 _ ?_
      show Steps p.tables e below (T8.setTop (mkF m 48 #[.val (.ref a1), .val (.int p2), .val (.int p3)] [])) _
      refine XS.aloadN X8.here hx rfl (hb hby d4_48) rfl rfl ?_
      show Steps p.tables e below (T8.setTop (mkF m 49 #[.val (.ref a1), .val (.int p2), .val (.int p3)] [(.ref a1)])) _
      refine st9 _ ?_
      show Steps p.tables e below (T9.setTop (mkF m 52 #[.val (.ref a1), .val (.int p2), .val (.int p3)] [(.ref b2)])) _
      refine XS.iloadN X9.here hx rfl (hb hby d4_52) rfl ?_
      refine XT.dup2 X9.here hx rfl (hb hby d4_53) rfl rfl rfl ?_
      show Steps p.tables e below (T9.setTop (mkF m 54 #[.val (.ref a1), .val (.int p2), .val (.int p3)] [(.int p2), (.ref b2), (.int p2), (.ref b2)])) _
      refine own_ld X9 hx hZ e9 V_a1_8.2.2.1.2.1 l0 l1 (g := (mkF m 54 #[.val (.ref a1), .val (.int p2), .val (.int p3)] [(.int p2), (.ref b2), (.int p2), (.ref b2)])) rfl rfl (hb hby d4_54) _ ?_
      show Steps p.tables e below (T9.setTop (mkF m 55 #[.val (.ref a1), .val (.int p2), .val (.int p3)] [(.int (fS p2)), (.int p2), (.ref b2)])) _
      refine XS.iconst X9.here hx rfl (hb hby d4_55) ?_
      show Steps p.tables e below (T9.setTop (mkF m 56 #[.val (.ref a1), .val (.int p2), .val (.int p3)] [(.int (1 : Int32)), (.int (fS p2)), (.int p2), (.ref b2)])) _
      refine XS.iadd X9.here hx rfl (hb hby d4_56) rfl ?_
      show Steps p.tables e below (T9.setTop (mkF m 57 #[.val (.ref a1), .val (.int p2), .val (.int p3)] [(.int ((fS p2) + (1 : Int32))), (.int p2), (.ref b2)])) _
      refine st10 _ ?_
      show Steps p.tables e below (T10.setTop (mkF m 58 #[.val (.ref a1), .val (.int p2), .val (.int p3)] [])) _
      exact X10.returnOut hx Bd.returns (hb hby d4_58) hr
    · show Q4 Z a1 p2 p3 b1 b2 b3 b4 fH fS fN fP h0 n0 _ T10.heap _
      rw [e10]
      refine ⟨rfl, N10, K10, ?_⟩
      rw [show own_pP fH fP p2 p3 = (own_upd fP p3 (-1 : Int32)) from if_pos hc26]
      exact V_a1_10
  · obtain ⟨T11, X11, e11, st11⟩ := getF X6 hx hZ hown (host := "") (Or.inl (own_w hw 22 rfl)) Via.refl e6 V_a1_5.2.1.2.2.2 (g := (mkF m 30 #[.val (.ref a1), .val (.int p2), .val (.int p3)] [(.ref a1)])) rfl rfl (hb hby d4_30)
    obtain ⟨T12, X12, e12, st12⟩ := getF X11 hx hZ hown (host := "") (Or.inl (own_w hw 12 rfl)) Via.refl e11 V_a1_5.2.1.1 (g := (mkF m 34 #[.val (.ref a1), .val (.int p2), .val (.int p3)] [(.ref a1), (.ref b4)])) rfl rfl (hb hby d4_34)
    obtain ⟨T13, h13, X13, e13, W13, st13⟩ := own_st X12 hx hZ e12 V_a1_5.2.2.1.2.2.2 (hH.resolve_left hc26).1 (hH.resolve_left hc26).2 (g := (mkF m 40 #[.val (.ref a1), .val (.int p2), .val (.int p3)] [(.int p3), (.int (fH p2)), (.ref b4)])) rfl rfl (hb hby d4_40)
    have V_a1_13 : own_L Z n0 h13 a1 b1 b2 b3 b4 fH fS (own_upd fN p3 (fH p2)) (own_upd (own_upd fP p3 (-1 : Int32)) (fH p2) p3) := own_L_wP V_a1_5 W13 (hH.resolve_left hc26).1 (hH.resolve_left hc26).2
    have K13 : Keep h0 h13 [b1, b2, b3, b4] := K5.wr W13 (Or.inl (List.mem_of_getElem? (i := 3) rfl))
    have N13 := Fr.snoc X13 N5 (own_L_g V0).2.2.2
    have Zs13 : n0 ≤ h13.size := by rw [W13.size]; exact Zs5
    obtain ⟨T14, X14, e14, st14⟩ := getF X13 hx hZ hown (host := "") (Or.inl (own_w hw 12 rfl)) Via.refl e13 V_a1_13.2.1.1 (g := (mkF m 42 #[.val (.ref a1), .val (.int p2), .val (.int p3)] [(.ref a1)])) rfl rfl (hb hby d4_42)
    obtain ⟨T15, h15, X15, e15, W15, st15⟩ := own_st X14 hx hZ e14 V_a1_13.2.2.1.1 l0 l1 (g := (mkF m 47 #[.val (.ref a1), .val (.int p2), .val (.int p3)] [(.int p3), (.int p2), (.ref b1)])) rfl rfl (hb hby d4_47)
    have V_a1_15 : own_L Z n0 h15 a1 b1 b2 b3 b4 (own_upd fH p2 p3) fS (own_upd fN p3 (fH p2)) (own_upd (own_upd fP p3 (-1 : Int32)) (fH p2) p3) := own_L_wH V_a1_13 W15 l0 l1
    have K15 : Keep h0 h15 [b1, b2, b3, b4] := K13.wr W15 (Or.inl (List.mem_of_getElem? (i := 0) rfl))
    have N15 := Fr.snoc X15 N13 (own_L_g V0).1
    have Zs15 : n0 ≤ h15.size := by rw [W15.size]; exact Zs13
    obtain ⟨T16, X16, e16, st16⟩ := getF X15 hx hZ hown (host := "") (Or.inl (own_w hw 18 rfl)) Via.refl e15 V_a1_15.2.1.2.1 (g := (mkF m 49 #[.val (.ref a1), .val (.int p2), .val (.int p3)] [(.ref a1)])) rfl rfl (hb hby d4_49)
    obtain ⟨T17, h17, X17, e17, W17, st17⟩ := own_st X16 hx hZ e16 V_a1_15.2.2.1.2.1 l0 l1 (g := (mkF m 57 #[.val (.ref a1), .val (.int p2), .val (.int p3)] [(.int ((fS p2) + (1 : Int32))), (.int p2), (.ref b2)])) rfl rfl (hb hby d4_57)
    have V_a1_17 : own_L Z n0 h17 a1 b1 b2 b3 b4 (own_upd fH p2 p3) (own_upd fS p2 ((fS p2) + (1 : Int32))) (own_upd fN p3 (fH p2)) (own_upd (own_upd fP p3 (-1 : Int32)) (fH p2) p3) := own_L_wS V_a1_15 W17 l0 l1
    have K17 : Keep h0 h17 [b1, b2, b3, b4] := K15.wr W17 (Or.inl (List.mem_of_getElem? (i := 1) rfl))
    have N17 := Fr.snoc X17 N15 (own_L_g V0).2.1
    have Zs17 : n0 ≤ h17.size := by rw [W17.size]; exact Zs15
    obtain ⟨fs, hr, hrun, hended, hW, hsame⟩ := X17.leave (v := none) (fun _ => rfl)
    refine ⟨_, _, pre0 _ ?_, hrun, hended, _, _, rfl, ?_, ⟨_, rfl⟩, hW, hsame.mono (by decide) (by decide)⟩
    · show Steps p.tables e below (s₁.setTop (mkF m 0 #[.val (.ref a1), .val (.int p2), .val (.int p3)] [])) _
      refine XS.aloadN X0.here hx rfl (hb hby d4_0) rfl rfl ?_
      show Steps p.tables e below (s₁.setTop (mkF m 1 #[.val (.ref a1), .val (.int p2), .val (.int p3)] [(.ref a1)])) _
      refine st1 _ ?_
      show Steps p.tables e below (T1.setTop (mkF m 4 #[.val (.ref a1), .val (.int p2), .val (.int p3)] [(.ref b4)])) _
      refine XS.iloadN X1.here hx rfl (hb hby d4_4) rfl ?_
      refine XS.iconst X1.here hx rfl (hb hby d4_5) ?_
      show Steps p.tables e below (T1.setTop (mkF m 6 #[.val (.ref a1), .val (.int p2), .val (.int p3)] [(.int (-1 : Int32)), (.int p3), (.ref b4)])) _
      refine st2 _ ?_
      show Steps p.tables e below (T2.setTop (mkF m 7 #[.val (.ref a1), .val (.int p2), .val (.int p3)] [])) _
      refine XS.aloadN X2.here hx rfl (hb hby d4_7) rfl rfl ?_
      show Steps p.tables e below (T2.setTop (mkF m 8 #[.val (.ref a1), .val (.int p2), .val (.int p3)] [(.ref a1)])) _
      refine st3 _ ?_
      show Steps p.tables e below (T3.setTop (mkF m 11 #[.val (.ref a1), .val (.int p2), .val (.int p3)] [(.ref b3)])) _
      refine XS.iloadN X3.here hx rfl (hb hby d4_11) rfl ?_
      refine XS.aloadN X3.here hx rfl (hb hby d4_12) rfl rfl ?_
      show Steps p.tables e below (T3.setTop (mkF m 13 #[.val (.ref a1), .val (.int p2), .val (.int p3)] [(.ref a1), (.int p3), (.ref b3)])) _
      refine st4 _ ?_
      show Steps p.tables e below (T4.setTop (mkF m 16 #[.val (.ref a1), .val (.int p2), .val (.int p3)] [(.ref b1), (.int p3), (.ref b3)])) _
      refine XS.iloadN X4.here hx rfl (hb hby d4_16) rfl ?_
      show Steps p.tables e below (T4.setTop (mkF m 17 #[.val (.ref a1), .val (.int p2), .val (.int p3)] [(.int p2), (.ref b1), (.int p3), (.ref b3)])) _
      refine own_ld X4 hx hZ e4 V_a1_2.2.2.1.1 l0 l1 (g := (mkF m 17 #[.val (.ref a1), .val (.int p2), .val (.int p3)] [(.int p2), (.ref b1), (.int p3), (.ref b3)])) rfl rfl (hb hby d4_17) _ ?_
      show Steps p.tables e below (T4.setTop (mkF m 18 #[.val (.ref a1), .val (.int p2), .val (.int p3)] [(.int (fH p2)), (.int p3), (.ref b3)])) _
      refine st5 _ ?_
      show Steps p.tables e below (T5.setTop (mkF m 19 #[.val (.ref a1), .val (.int p2), .val (.int p3)] [])) _
      refine XS.aloadN X5.here hx rfl (hb hby d4_19) rfl rfl ?_
      show Steps p.tables e below (T5.setTop (mkF m 20 #[.val (.ref a1), .val (.int p2), .val (.int p3)] [(.ref a1)])) _
      refine st6 _ ?_
      show Steps p.tables e below (T6.setTop (mkF m 23 #[.val (.ref a1), .val (.int p2), .val (.int p3)] [(.ref b1)])) _
      refine XS.iloadN X6.here hx rfl (hb hby d4_23) rfl ?_
      show Steps p.tables e below (T6.setTop (mkF m 24 #[.val (.ref a1), .val (.int p2), .val (.int p3)] [(.int p2), (.ref b1)])) _
      refine own_ld X6 hx hZ e6 V_a1_5.2.2.1.1 l0 l1 (g := (mkF m 24 #[.val (.ref a1), .val (.int p2), .val (.int p3)] [(.int p2), (.ref b1)])) rfl rfl (hb hby d4_24) _ ?_
      show Steps p.tables e below (T6.setTop (mkF m 25 #[.val (.ref a1), .val (.int p2), .val (.int p3)] [(.int (fH p2))])) _
      refine XS.iconst X6.here hx rfl (hb hby d4_25) ?_
      show Steps p.tables e below (T6.setTop (mkF m 26 #[.val (.ref a1), .val (.int p2), .val (.int p3)] [(.int (-1 : Int32)), (.int (fH p2))])) _
      refine XS.icmpNo X6.here hx rfl (hb hby d4_26) rfl (feq hc26).1 ?_
      show Steps p.tables e below (T6.setTop (mkF m 29 #[.val (.ref a1), .val (.int p2), .val (.int p3)] [])) _
      refine XS.aloadN X6.here hx rfl (hb hby d4_29) rfl rfl ?_
      show Steps p.tables e below (T6.setTop (mkF m 30 #[.val (.ref a1), .val (.int p2), .val (.int p3)] [(.ref a1)])) _
      refine st11 _ ?_
      show Steps p.tables e below (T11.setTop (mkF m 33 #[.val (.ref a1), .val (.int p2), .val (.int p3)] [(.ref b4)])) _
      refine XS.aloadN X11.here hx rfl (hb hby d4_33) rfl rfl ?_
      show Steps p.tables e below (T11.setTop (mkF m 34 #[.val (.ref a1), .val (.int p2), .val (.int p3)] [(.ref a1), (.ref b4)])) _
      refine st12 _ ?_
      show Steps p.tables e below (T12.setTop (mkF m 37 #[.val (.ref a1), .val (.int p2), .val (.int p3)] [(.ref b1), (.ref b4)])) _
      refine XS.iloadN X12.here hx rfl (hb hby d4_37) rfl ?_
      show Steps p.tables e below (T12.setTop (mkF m 38 #[.val (.ref a1), .val (.int p2), .val (.int p3)] [(.int p2), (.ref b1), (.ref b4)])) _
      refine own_ld X12 hx hZ e12 V_a1_5.2.2.1.1 l0 l1 (g := (mkF m 38 #[.val (.ref a1), .val (.int p2), .val (.int p3)] [(.int p2), (.ref b1), (.ref b4)])) rfl rfl (hb hby d4_38) _ ?_
      show Steps p.tables e below (T12.setTop (mkF m 39 #[.val (.ref a1), .val (.int p2), .val (.int p3)] [(.int (fH p2)), (.ref b4)])) _
      refine XS.iloadN X12.here hx rfl (hb hby d4_39) rfl ?_
      show Steps p.tables e below (T12.setTop (mkF m 40 #[.val (.ref a1), .val (.int p2), .val (.int p3)] [(.int p3), (.int (fH p2)), (.ref b4)])) _
      refine st13 _ ?_
      show Steps p.tables e below (T13.setTop (mkF m 41 #[.val (.ref a1), .val (.int p2), .val (.int p3)] [])) _
      refine XS.aloadN X13.here hx rfl (hb hby d4_41) rfl rfl ?_
      show Steps p.tables e below (T13.setTop (mkF m 42 #[.val (.ref a1), .val (.int p2), .val (.int p3)] [(.ref a1)])) _
      refine st14 _ ?_
      show Steps p.tables e below (T14.setTop (mkF m 45 #[.val (.ref a1), .val (.int p2), .val (.int p3)] [(.ref b1)])) _
      refine XS.iloadN X14.here hx rfl (hb hby d4_45) rfl ?_
      refine XS.iloadN X14.here hx rfl (hb hby d4_46) rfl ?_
      show Steps p.tables e below (T14.setTop (mkF m 47 #[.val (.ref a1), .val (.int p2), .val (.int p3)] [(.int p3), (.int p2), (.ref b1)])) _
      refine st15 _ ?_
      show Steps p.tables e below (T15.setTop (mkF m 48 #[.val (.ref a1), .val (.int p2), .val (.int p3)] [])) _
      refine XS.aloadN X15.here hx rfl (hb hby d4_48) rfl rfl ?_
      show Steps p.tables e below (T15.setTop (mkF m 49 #[.val (.ref a1), .val (.int p2), .val (.int p3)] [(.ref a1)])) _
      refine st16 _ ?_
      show Steps p.tables e below (T16.setTop (mkF m 52 #[.val (.ref a1), .val (.int p2), .val (.int p3)] [(.ref b2)])) _
      refine XS.iloadN X16.here hx rfl (hb hby d4_52) rfl ?_
      refine XT.dup2 X16.here hx rfl (hb hby d4_53) rfl rfl rfl ?_
      show Steps p.tables e below (T16.setTop (mkF m 54 #[.val (.ref a1), .val (.int p2), .val (.int p3)] [(.int p2), (.ref b2), (.int p2), (.ref b2)])) _
      refine own_ld X16 hx hZ e16 V_a1_15.2.2.1.2.1 l0 l1 (g := (mkF m 54 #[.val (.ref a1), .val (.int p2), .val (.int p3)] [(.int p2), (.ref b2), (.int p2), (.ref b2)])) rfl rfl (hb hby d4_54) _ ?_
      show Steps p.tables e below (T16.setTop (mkF m 55 #[.val (.ref a1), .val (.int p2), .val (.int p3)] [(.int (fS p2)), (.int p2), (.ref b2)])) _
      refine XS.iconst X16.here hx rfl (hb hby d4_55) ?_
      show Steps p.tables e below (T16.setTop (mkF m 56 #[.val (.ref a1), .val (.int p2), .val (.int p3)] [(.int (1 : Int32)), (.int (fS p2)), (.int p2), (.ref b2)])) _
      refine XS.iadd X16.here hx rfl (hb hby d4_56) rfl ?_
      show Steps p.tables e below (T16.setTop (mkF m 57 #[.val (.ref a1), .val (.int p2), .val (.int p3)] [(.int ((fS p2) + (1 : Int32))), (.int p2), (.ref b2)])) _
      refine st17 _ ?_
      show Steps p.tables e below (T17.setTop (mkF m 58 #[.val (.ref a1), .val (.int p2), .val (.int p3)] [])) _
      exact X17.returnOut hx Bd.returns (hb hby d4_58) hr
    · show Q4 Z a1 p2 p3 b1 b2 b3 b4 fH fS fN fP h0 n0 _ T17.heap _
      rw [e17]
      refine ⟨rfl, N17, K17, ?_⟩
      rw [show own_pP fH fP p2 p3 = (own_upd (own_upd fP p3 (-1 : Int32)) (fH p2) p3) from if_neg hc26]
      exact V_a1_17
theorem own_rN_1 {fN fP : Int32 → Int32} {e : Int32} (q : fP e = (-1 : Int32)) : own_rN fN fP e e = fN e := by unfold own_rN; rw [if_pos q]
theorem own_rN_2 {fN fP : Int32 → Int32} {e : Int32} (q : ¬ (fP e = (-1 : Int32))) : own_rN fN fP e e = (own_upd fN (fP e) (fN e)) e := by unfold own_rN; rw [if_neg q]
theorem own_inN1 {fN fP : Int32 → Int32} {e : Int32} (q : fP e = (-1 : Int32)) (h : own_in (own_rN fN fP e e)) : own_in (fN e) := by rw [own_rN_1 q] at h; exact h
theorem own_inN2 {fN fP : Int32 → Int32} {e : Int32} (q : ¬ (fP e = (-1 : Int32))) (h : own_in (own_rN fN fP e e)) : own_in ((own_upd fN (fP e) (fN e)) e) := by rw [own_rN_2 q] at h; exact h
theorem d5_0 : decode prog_108_method_7_code 0 = .ok (.aload_n 0, 1) := by decide +kernel
theorem d5_1 : decode prog_108_method_7_code 1 = .ok (.getfield 25, 3) := by decide +kernel
theorem d5_4 : decode prog_108_method_7_code 4 = .ok (.iload_n 2, 1) := by decide +kernel
theorem d5_5 : decode prog_108_method_7_code 5 = .ok (.iaload, 1) := by decide +kernel
theorem d5_6 : decode prog_108_method_7_code 6 = .ok (.iconst (-1), 1) := by decide +kernel
theorem d5_7 : decode prog_108_method_7_code 7 = .ok (.if_icmp .ne 18, 3) := by decide +kernel
theorem d5_10 : decode prog_108_method_7_code 10 = .ok (.aload_n 0, 1) := by decide +kernel
theorem d5_11 : decode prog_108_method_7_code 11 = .ok (.getfield 7, 3) := by decide +kernel
theorem d5_14 : decode prog_108_method_7_code 14 = .ok (.iload_n 1, 1) := by decide +kernel
theorem d5_15 : decode prog_108_method_7_code 15 = .ok (.aload_n 0, 1) := by decide +kernel
theorem d5_16 : decode prog_108_method_7_code 16 = .ok (.getfield 22, 3) := by decide +kernel
theorem d5_19 : decode prog_108_method_7_code 19 = .ok (.iload_n 2, 1) := by decide +kernel
theorem d5_20 : decode prog_108_method_7_code 20 = .ok (.iaload, 1) := by decide +kernel
theorem d5_21 : decode prog_108_method_7_code 21 = .ok (.iastore, 1) := by decide +kernel
theorem d5_22 : decode prog_108_method_7_code 22 = .ok (.goto 20, 3) := by decide +kernel
theorem d5_25 : decode prog_108_method_7_code 25 = .ok (.aload_n 0, 1) := by decide +kernel
theorem d5_26 : decode prog_108_method_7_code 26 = .ok (.getfield 22, 3) := by decide +kernel
theorem d5_29 : decode prog_108_method_7_code 29 = .ok (.aload_n 0, 1) := by decide +kernel
theorem d5_30 : decode prog_108_method_7_code 30 = .ok (.getfield 25, 3) := by decide +kernel
theorem d5_33 : decode prog_108_method_7_code 33 = .ok (.iload_n 2, 1) := by decide +kernel
theorem d5_34 : decode prog_108_method_7_code 34 = .ok (.iaload, 1) := by decide +kernel
theorem d5_35 : decode prog_108_method_7_code 35 = .ok (.aload_n 0, 1) := by decide +kernel
theorem d5_36 : decode prog_108_method_7_code 36 = .ok (.getfield 22, 3) := by decide +kernel
theorem d5_39 : decode prog_108_method_7_code 39 = .ok (.iload_n 2, 1) := by decide +kernel
theorem d5_40 : decode prog_108_method_7_code 40 = .ok (.iaload, 1) := by decide +kernel
theorem d5_41 : decode prog_108_method_7_code 41 = .ok (.iastore, 1) := by decide +kernel
theorem d5_42 : decode prog_108_method_7_code 42 = .ok (.aload_n 0, 1) := by decide +kernel
theorem d5_43 : decode prog_108_method_7_code 43 = .ok (.getfield 22, 3) := by decide +kernel
theorem d5_46 : decode prog_108_method_7_code 46 = .ok (.iload_n 2, 1) := by decide +kernel
theorem d5_47 : decode prog_108_method_7_code 47 = .ok (.iaload, 1) := by decide +kernel
theorem d5_48 : decode prog_108_method_7_code 48 = .ok (.iconst (-1), 1) := by decide +kernel
theorem d5_49 : decode prog_108_method_7_code 49 = .ok (.if_icmp .eq 20, 3) := by decide +kernel
theorem d5_52 : decode prog_108_method_7_code 52 = .ok (.aload_n 0, 1) := by decide +kernel
theorem d5_53 : decode prog_108_method_7_code 53 = .ok (.getfield 25, 3) := by decide +kernel
theorem d5_56 : decode prog_108_method_7_code 56 = .ok (.aload_n 0, 1) := by decide +kernel
theorem d5_57 : decode prog_108_method_7_code 57 = .ok (.getfield 22, 3) := by decide +kernel
theorem d5_60 : decode prog_108_method_7_code 60 = .ok (.iload_n 2, 1) := by decide +kernel
theorem d5_61 : decode prog_108_method_7_code 61 = .ok (.iaload, 1) := by decide +kernel
theorem d5_62 : decode prog_108_method_7_code 62 = .ok (.aload_n 0, 1) := by decide +kernel
theorem d5_63 : decode prog_108_method_7_code 63 = .ok (.getfield 25, 3) := by decide +kernel
theorem d5_66 : decode prog_108_method_7_code 66 = .ok (.iload_n 2, 1) := by decide +kernel
theorem d5_67 : decode prog_108_method_7_code 67 = .ok (.iaload, 1) := by decide +kernel
theorem d5_68 : decode prog_108_method_7_code 68 = .ok (.iastore, 1) := by decide +kernel
theorem d5_69 : decode prog_108_method_7_code 69 = .ok (.aload_n 0, 1) := by decide +kernel
theorem d5_70 : decode prog_108_method_7_code 70 = .ok (.getfield 19, 3) := by decide +kernel
theorem d5_73 : decode prog_108_method_7_code 73 = .ok (.iload_n 1, 1) := by decide +kernel
theorem d5_74 : decode prog_108_method_7_code 74 = .ok (.dup2, 1) := by decide +kernel
theorem d5_75 : decode prog_108_method_7_code 75 = .ok (.iaload, 1) := by decide +kernel
theorem d5_76 : decode prog_108_method_7_code 76 = .ok (.iconst 1, 1) := by decide +kernel
theorem d5_77 : decode prog_108_method_7_code 77 = .ok (.isub, 1) := by decide +kernel
theorem d5_78 : decode prog_108_method_7_code 78 = .ok (.iastore, 1) := by decide +kernel
theorem d5_79 : decode prog_108_method_7_code 79 = .ok (.return_, 1) := by decide +kernel
theorem pn_5 : plainName "com/example/process_stepper/processstepper/equivalence/IntLists" = true := by first | (simp [plainName, overriddenIn]; done) | decide +kernel
theorem ef_5 (m : MethodId) (a1 : Addr) (p2 : Int32) (p3 : Int32) : entryFrame m #[(.ref a1), (.int p2), (.int p3)] 3 = mkF m 0 #[.val (.ref a1), .val (.int p2), .val (.int p3)] [] := by first | (simp [entryFrame, mkF, argsToLocals, Value.category]; done) | rfl
def Q5 (Z : State) (a1 : Addr) (p2 p3 : Int32) (b1 b2 b3 b4 : Addr) (fH fS fN fP : Int32 → Int32) (h0 : Heap) (n0 : Nat) (v : Option Value) (h : Heap) (L : List Loc) : Prop := v = none ∧ Fr n0 L ∧ Keep h0 h [b1, b2, b3, b4] ∧ own_L Z n0 h a1 b1 b2 b3 b4 (own_rH fH fN fP p2 p3) (own_upd fS p2 (fS p2 - (1 : Int32))) (own_rN fN fP p3) (own_rP fN fP p3)
set_option maxRecDepth 65536 in
set_option maxHeartbeats 40000000 in
theorem rm5 (l : Launch) (Z : State) (a0 : Array Value) (hw : ∀ d ∈ tables_1, d.before a0 Z = true) (ws : List Jvm.Cond) (a1 : Addr) (p2 p3 : Int32) (b1 b2 b3 b4 : Addr) (fH fS fN fP : Int32 → Int32) (h0 : Heap) (n0 : Nat) (Z0 : n0 ≤ h0.size) (V0 : own_L Z n0 h0 a1 b1 b2 b3 b4 fH fS fN fP) (l0 : ¬ p2 < 0) (l1 : p2 < (2 : Int32)) (q0 : ¬ p3 < 0) (q1 : p3 < (3 : Int32)) (hP : own_in (fP p3)) (hN : own_in (own_rN fN fP p3 p3)) :
    MetFree l (⟨"com/example/process_stepper/processstepper/equivalence/IntLists", "remove", "(II)V"⟩ : MethodName) (head1 (Jvm.Cond.code (⟨"com/example/process_stepper/processstepper/equivalence/IntLists", "remove", "(II)V"⟩ : MethodName) prog_108_method_7_code 3 none :: ws) ({ frames := 0, cells := 0, slots := 0, locals := 0 } : Room)) (fun a U => a = #[(.ref a1), (.int p2), (.int p3)] ∧ Z.Warmed39 U.vm ∧ U.heap = h0) (fun _ _ _ _ _ => True) (fun _ U o U' => ∃ v L, o = .returned v ∧ Q5 Z a1 p2 p3 b1 b2 b3 b4 fH fS fN fP h0 n0 v U'.heap L ∧ FrameEnd U o U' L ({ frames := 0, cells := 0, slots := 0, locals := 0 } : Room).cells ({ frames := 0, cells := 0, slots := 0, locals := 0 } : Room).slots) := by
  refine MetFree.of_bodySF (plainFor_of_name pn_5) hisR ?_
  intro p e s m args below meth c s₁ Bd hml0 hP hK
  obtain ⟨rfl, hZ, hh⟩ := hP
  have hx := Bd.exec
  have hby := Bd.bytes
  have hml : c.maxLocals = 3 := hml0
  have hown : s.vm.findClass "com/example/process_stepper/processstepper/equivalence/IntLists" = some m.cls := findClass_of_methodNamed Bd.named
  have hnm := (name_of_methodNamed Bd.named Bd.method).1
  have X0 : Stand p l e ({ frames := 0, cells := 0, slots := 0, locals := 0 } : Room) s m #[(.ref a1), (.int p2), (.int p3)] below meth c s₁ [] 0 0 := Stand.of_body Bd
  have e0 : s₁.heap = h0 := by rw [← hh, Bd.state]; rfl
  have N0 := Fr.nil n0
  have pre0 : ∀ t, Steps p.tables e below (s₁.setTop (mkF m 0 #[.val (.ref a1), .val (.int p2), .val (.int p3)] [])) t → Steps p.tables e below (s₁.setTop (entryFrame m #[(.ref a1), (.int p2), (.int p3)] 3)) t := fun t k => castTop (ef_5 m a1 p2 p3) k
  obtain ⟨T1, X1, e1, st1⟩ := getF X0 hx hZ hown (host := "") (Or.inl (own_w hw 22 rfl)) Via.refl e0 V0.2.1.2.2.2 (g := (mkF m 1 #[.val (.ref a1), .val (.int p2), .val (.int p3)] [(.ref a1)])) rfl rfl (hb hby d5_1)
  by_cases hc7 : (fP p3) = (-1 : Int32)
  · obtain ⟨T2, X2, e2, st2⟩ := getF X1 hx hZ hown (host := "") (Or.inl (own_w hw 12 rfl)) Via.refl e1 V0.2.1.1 (g := (mkF m 11 #[.val (.ref a1), .val (.int p2), .val (.int p3)] [(.ref a1)])) rfl rfl (hb hby d5_11)
    obtain ⟨T3, X3, e3, st3⟩ := getF X2 hx hZ hown (host := "") (Or.inl (own_w hw 20 rfl)) Via.refl e2 V0.2.1.2.2.1 (g := (mkF m 16 #[.val (.ref a1), .val (.int p2), .val (.int p3)] [(.ref a1), (.int p2), (.ref b1)])) rfl rfl (hb hby d5_16)
    obtain ⟨T4, h4, X4, e4, W4, st4⟩ := own_st X3 hx hZ e3 V0.2.2.1.1 l0 l1 (g := (mkF m 21 #[.val (.ref a1), .val (.int p2), .val (.int p3)] [(.int (fN p3)), (.int p2), (.ref b1)])) rfl rfl (hb hby d5_21)
    have V_a1_4 : own_L Z n0 h4 a1 b1 b2 b3 b4 (own_upd fH p2 (fN p3)) fS fN fP := own_L_wH V0 W4 l0 l1
    have K4 : Keep h0 h4 [b1, b2, b3, b4] := (Keep.refl h0 [b1, b2, b3, b4]).wr W4 (Or.inl (List.mem_of_getElem? (i := 0) rfl))
    have N4 := Fr.snoc X4 N0 (own_L_g V0).1
    have Zs4 : n0 ≤ h4.size := by rw [W4.size]; exact Z0
    obtain ⟨T5, X5, e5, st5⟩ := getF X4 hx hZ hown (host := "") (Or.inl (own_w hw 20 rfl)) Via.refl e4 V_a1_4.2.1.2.2.1 (g := (mkF m 43 #[.val (.ref a1), .val (.int p2), .val (.int p3)] [(.ref a1)])) rfl rfl (hb hby d5_43)
    by_cases hc49 : (fN p3) = (-1 : Int32)
    · obtain ⟨T6, X6, e6, st6⟩ := getF X5 hx hZ hown (host := "") (Or.inl (own_w hw 18 rfl)) Via.refl e5 V_a1_4.2.1.2.1 (g := (mkF m 70 #[.val (.ref a1), .val (.int p2), .val (.int p3)] [(.ref a1)])) rfl rfl (hb hby d5_70)
      obtain ⟨T7, h7, X7, e7, W7, st7⟩ := own_st X6 hx hZ e6 V_a1_4.2.2.1.2.1 l0 l1 (g := (mkF m 78 #[.val (.ref a1), .val (.int p2), .val (.int p3)] [(.int ((fS p2) - (1 : Int32))), (.int p2), (.ref b2)])) rfl rfl (hb hby d5_78)
      have V_a1_7 : own_L Z n0 h7 a1 b1 b2 b3 b4 (own_upd fH p2 (fN p3)) (own_upd fS p2 ((fS p2) - (1 : Int32))) fN fP := own_L_wS V_a1_4 W7 l0 l1
      have K7 : Keep h0 h7 [b1, b2, b3, b4] := K4.wr W7 (Or.inl (List.mem_of_getElem? (i := 1) rfl))
      have N7 := Fr.snoc X7 N4 (own_L_g V0).2.1
      have Zs7 : n0 ≤ h7.size := by rw [W7.size]; exact Zs4
      obtain ⟨fs, hr, hrun, hended, hW, hsame⟩ := X7.leave (v := none) (fun _ => rfl)
      refine ⟨_, _, pre0 _ ?_, hrun, hended, _, _, rfl, ?_, ⟨_, rfl⟩, hW, hsame.mono (by decide) (by decide)⟩
      · show Steps p.tables e below (s₁.setTop (mkF m 0 #[.val (.ref a1), .val (.int p2), .val (.int p3)] [])) _
        refine XS.aloadN X0.here hx rfl (hb hby d5_0) rfl rfl ?_
        show Steps p.tables e below (s₁.setTop (mkF m 1 #[.val (.ref a1), .val (.int p2), .val (.int p3)] [(.ref a1)])) _
        refine st1 _ ?_
        show Steps p.tables e below (T1.setTop (mkF m 4 #[.val (.ref a1), .val (.int p2), .val (.int p3)] [(.ref b4)])) _
        refine XS.iloadN X1.here hx rfl (hb hby d5_4) rfl ?_
        show Steps p.tables e below (T1.setTop (mkF m 5 #[.val (.ref a1), .val (.int p2), .val (.int p3)] [(.int p3), (.ref b4)])) _
        refine own_ld X1 hx hZ e1 V0.2.2.1.2.2.2 q0 q1 (g := (mkF m 5 #[.val (.ref a1), .val (.int p2), .val (.int p3)] [(.int p3), (.ref b4)])) rfl rfl (hb hby d5_5) _ ?_
        show Steps p.tables e below (T1.setTop (mkF m 6 #[.val (.ref a1), .val (.int p2), .val (.int p3)] [(.int (fP p3))])) _
        refine XS.iconst X1.here hx rfl (hb hby d5_6) ?_
        show Steps p.tables e below (T1.setTop (mkF m 7 #[.val (.ref a1), .val (.int p2), .val (.int p3)] [(.int (-1 : Int32)), (.int (fP p3))])) _
        refine XS.icmpNo X1.here hx rfl (hb hby d5_7) rfl (teq hc7).2 ?_
        show Steps p.tables e below (T1.setTop (mkF m 10 #[.val (.ref a1), .val (.int p2), .val (.int p3)] [])) _
        refine XS.aloadN X1.here hx rfl (hb hby d5_10) rfl rfl ?_
        show Steps p.tables e below (T1.setTop (mkF m 11 #[.val (.ref a1), .val (.int p2), .val (.int p3)] [(.ref a1)])) _
        refine st2 _ ?_
        show Steps p.tables e below (T2.setTop (mkF m 14 #[.val (.ref a1), .val (.int p2), .val (.int p3)] [(.ref b1)])) _
        refine XS.iloadN X2.here hx rfl (hb hby d5_14) rfl ?_
        refine XS.aloadN X2.here hx rfl (hb hby d5_15) rfl rfl ?_
        show Steps p.tables e below (T2.setTop (mkF m 16 #[.val (.ref a1), .val (.int p2), .val (.int p3)] [(.ref a1), (.int p2), (.ref b1)])) _
        refine st3 _ ?_
        show Steps p.tables e below (T3.setTop (mkF m 19 #[.val (.ref a1), .val (.int p2), .val (.int p3)] [(.ref b3), (.int p2), (.ref b1)])) _
        refine XS.iloadN X3.here hx rfl (hb hby d5_19) rfl ?_
        show Steps p.tables e below (T3.setTop (mkF m 20 #[.val (.ref a1), .val (.int p2), .val (.int p3)] [(.int p3), (.ref b3), (.int p2), (.ref b1)])) _
        refine own_ld X3 hx hZ e3 V0.2.2.1.2.2.1 q0 q1 (g := (mkF m 20 #[.val (.ref a1), .val (.int p2), .val (.int p3)] [(.int p3), (.ref b3), (.int p2), (.ref b1)])) rfl rfl (hb hby d5_20) _ ?_
        show Steps p.tables e below (T3.setTop (mkF m 21 #[.val (.ref a1), .val (.int p2), .val (.int p3)] [(.int (fN p3)), (.int p2), (.ref b1)])) _
        refine st4 _ ?_
        show Steps p.tables e below (T4.setTop (mkF m 22 #[.val (.ref a1), .val (.int p2), .val (.int p3)] [])) _
        refine XS.goto X4.here hx rfl (pc0 := 22) (pc' := 42) rfl (hb hby d5_22) (by decide) (by decide) ?_
        refine XS.aloadN X4.here hx rfl (hb hby d5_42) rfl rfl ?_
        show Steps p.tables e below (T4.setTop (mkF m 43 #[.val (.ref a1), .val (.int p2), .val (.int p3)] [(.ref a1)])) _
        refine st5 _ ?_
        show Steps p.tables e below (T5.setTop (mkF m 46 #[.val (.ref a1), .val (.int p2), .val (.int p3)] [(.ref b3)])) _
        refine XS.iloadN X5.here hx rfl (hb hby d5_46) rfl ?_
        show Steps p.tables e below (T5.setTop (mkF m 47 #[.val (.ref a1), .val (.int p2), .val (.int p3)] [(.int p3), (.ref b3)])) _
        refine own_ld X5 hx hZ e5 V_a1_4.2.2.1.2.2.1 q0 q1 (g := (mkF m 47 #[.val (.ref a1), .val (.int p2), .val (.int p3)] [(.int p3), (.ref b3)])) rfl rfl (hb hby d5_47) _ ?_
        show Steps p.tables e below (T5.setTop (mkF m 48 #[.val (.ref a1), .val (.int p2), .val (.int p3)] [(.int (fN p3))])) _
        refine XS.iconst X5.here hx rfl (hb hby d5_48) ?_
        show Steps p.tables e below (T5.setTop (mkF m 49 #[.val (.ref a1), .val (.int p2), .val (.int p3)] [(.int (-1 : Int32)), (.int (fN p3))])) _
        refine XS.icmpYes X5.here hx rfl (pc0 := 49) (pc' := 69) rfl (hb hby d5_49) rfl (teq hc49).1 (by decide) (by decide) ?_
        show Steps p.tables e below (T5.setTop (mkF m 69 #[.val (.ref a1), .val (.int p2), .val (.int p3)] [])) _
        refine XS.aloadN X5.here hx rfl (hb hby d5_69) rfl rfl ?_
        show Steps p.tables e below (T5.setTop (mkF m 70 #[.val (.ref a1), .val (.int p2), .val (.int p3)] [(.ref a1)])) _
        refine st6 _ ?_
        show Steps p.tables e below (T6.setTop (mkF m 73 #[.val (.ref a1), .val (.int p2), .val (.int p3)] [(.ref b2)])) _
        refine XS.iloadN X6.here hx rfl (hb hby d5_73) rfl ?_
        refine XT.dup2 X6.here hx rfl (hb hby d5_74) rfl rfl rfl ?_
        show Steps p.tables e below (T6.setTop (mkF m 75 #[.val (.ref a1), .val (.int p2), .val (.int p3)] [(.int p2), (.ref b2), (.int p2), (.ref b2)])) _
        refine own_ld X6 hx hZ e6 V_a1_4.2.2.1.2.1 l0 l1 (g := (mkF m 75 #[.val (.ref a1), .val (.int p2), .val (.int p3)] [(.int p2), (.ref b2), (.int p2), (.ref b2)])) rfl rfl (hb hby d5_75) _ ?_
        show Steps p.tables e below (T6.setTop (mkF m 76 #[.val (.ref a1), .val (.int p2), .val (.int p3)] [(.int (fS p2)), (.int p2), (.ref b2)])) _
        refine XS.iconst X6.here hx rfl (hb hby d5_76) ?_
        show Steps p.tables e below (T6.setTop (mkF m 77 #[.val (.ref a1), .val (.int p2), .val (.int p3)] [(.int (1 : Int32)), (.int (fS p2)), (.int p2), (.ref b2)])) _
        refine XS.isub X6.here hx rfl (hb hby d5_77) rfl ?_
        show Steps p.tables e below (T6.setTop (mkF m 78 #[.val (.ref a1), .val (.int p2), .val (.int p3)] [(.int ((fS p2) - (1 : Int32))), (.int p2), (.ref b2)])) _
        refine st7 _ ?_
        show Steps p.tables e below (T7.setTop (mkF m 79 #[.val (.ref a1), .val (.int p2), .val (.int p3)] [])) _
        exact X7.returnOut hx Bd.returns (hb hby d5_79) hr
      · show Q5 Z a1 p2 p3 b1 b2 b3 b4 fH fS fN fP h0 n0 _ T7.heap _
        rw [e7]
        refine ⟨rfl, N7, K7, ?_⟩
        rw [show own_rP fN fP p3 = fP from by unfold own_rP; rw [own_rN_1 hc7]; exact if_pos hc49, show own_rN fN fP p3 = fN from if_pos hc7, show own_rH fH fN fP p2 p3 = (own_upd fH p2 (fN p3)) from if_pos hc7]
        exact V_a1_7
    · obtain ⟨T8, X8, e8, st8⟩ := getF X5 hx hZ hown (host := "") (Or.inl (own_w hw 22 rfl)) Via.refl e5 V_a1_4.2.1.2.2.2 (g := (mkF m 53 #[.val (.ref a1), .val (.int p2), .val (.int p3)] [(.ref a1)])) rfl rfl (hb hby d5_53)
      obtain ⟨T9, X9, e9, st9⟩ := getF X8 hx hZ hown (host := "") (Or.inl (own_w hw 20 rfl)) Via.refl e8 V_a1_4.2.1.2.2.1 (g := (mkF m 57 #[.val (.ref a1), .val (.int p2), .val (.int p3)] [(.ref a1), (.ref b4)])) rfl rfl (hb hby d5_57)
      obtain ⟨T10, X10, e10, st10⟩ := getF X9 hx hZ hown (host := "") (Or.inl (own_w hw 22 rfl)) Via.refl e9 V_a1_4.2.1.2.2.2 (g := (mkF m 63 #[.val (.ref a1), .val (.int p2), .val (.int p3)] [(.ref a1), (.int (fN p3)), (.ref b4)])) rfl rfl (hb hby d5_63)
      obtain ⟨T11, h11, X11, e11, W11, st11⟩ := own_st X10 hx hZ e10 V_a1_4.2.2.1.2.2.2 ((own_inN1 hc7 hN).resolve_left hc49).1 ((own_inN1 hc7 hN).resolve_left hc49).2 (g := (mkF m 68 #[.val (.ref a1), .val (.int p2), .val (.int p3)] [(.int (fP p3)), (.int (fN p3)), (.ref b4)])) rfl rfl (hb hby d5_68)
      have V_a1_11 : own_L Z n0 h11 a1 b1 b2 b3 b4 (own_upd fH p2 (fN p3)) fS fN (own_upd fP (fN p3) (fP p3)) := own_L_wP V_a1_4 W11 ((own_inN1 hc7 hN).resolve_left hc49).1 ((own_inN1 hc7 hN).resolve_left hc49).2
      have K11 : Keep h0 h11 [b1, b2, b3, b4] := K4.wr W11 (Or.inl (List.mem_of_getElem? (i := 3) rfl))
      have N11 := Fr.snoc X11 N4 (own_L_g V0).2.2.2
      have Zs11 : n0 ≤ h11.size := by rw [W11.size]; exact Zs4
      obtain ⟨T12, X12, e12, st12⟩ := getF X11 hx hZ hown (host := "") (Or.inl (own_w hw 18 rfl)) Via.refl e11 V_a1_11.2.1.2.1 (g := (mkF m 70 #[.val (.ref a1), .val (.int p2), .val (.int p3)] [(.ref a1)])) rfl rfl (hb hby d5_70)
      obtain ⟨T13, h13, X13, e13, W13, st13⟩ := own_st X12 hx hZ e12 V_a1_11.2.2.1.2.1 l0 l1 (g := (mkF m 78 #[.val (.ref a1), .val (.int p2), .val (.int p3)] [(.int ((fS p2) - (1 : Int32))), (.int p2), (.ref b2)])) rfl rfl (hb hby d5_78)
      have V_a1_13 : own_L Z n0 h13 a1 b1 b2 b3 b4 (own_upd fH p2 (fN p3)) (own_upd fS p2 ((fS p2) - (1 : Int32))) fN (own_upd fP (fN p3) (fP p3)) := own_L_wS V_a1_11 W13 l0 l1
      have K13 : Keep h0 h13 [b1, b2, b3, b4] := K11.wr W13 (Or.inl (List.mem_of_getElem? (i := 1) rfl))
      have N13 := Fr.snoc X13 N11 (own_L_g V0).2.1
      have Zs13 : n0 ≤ h13.size := by rw [W13.size]; exact Zs11
      obtain ⟨fs, hr, hrun, hended, hW, hsame⟩ := X13.leave (v := none) (fun _ => rfl)
      refine ⟨_, _, pre0 _ ?_, hrun, hended, _, _, rfl, ?_, ⟨_, rfl⟩, hW, hsame.mono (by decide) (by decide)⟩
      · show Steps p.tables e below (s₁.setTop (mkF m 0 #[.val (.ref a1), .val (.int p2), .val (.int p3)] [])) _
        refine XS.aloadN X0.here hx rfl (hb hby d5_0) rfl rfl ?_
        show Steps p.tables e below (s₁.setTop (mkF m 1 #[.val (.ref a1), .val (.int p2), .val (.int p3)] [(.ref a1)])) _
        refine st1 _ ?_
        show Steps p.tables e below (T1.setTop (mkF m 4 #[.val (.ref a1), .val (.int p2), .val (.int p3)] [(.ref b4)])) _
        refine XS.iloadN X1.here hx rfl (hb hby d5_4) rfl ?_
        show Steps p.tables e below (T1.setTop (mkF m 5 #[.val (.ref a1), .val (.int p2), .val (.int p3)] [(.int p3), (.ref b4)])) _
        refine own_ld X1 hx hZ e1 V0.2.2.1.2.2.2 q0 q1 (g := (mkF m 5 #[.val (.ref a1), .val (.int p2), .val (.int p3)] [(.int p3), (.ref b4)])) rfl rfl (hb hby d5_5) _ ?_
        show Steps p.tables e below (T1.setTop (mkF m 6 #[.val (.ref a1), .val (.int p2), .val (.int p3)] [(.int (fP p3))])) _
        refine XS.iconst X1.here hx rfl (hb hby d5_6) ?_
        show Steps p.tables e below (T1.setTop (mkF m 7 #[.val (.ref a1), .val (.int p2), .val (.int p3)] [(.int (-1 : Int32)), (.int (fP p3))])) _
        refine XS.icmpNo X1.here hx rfl (hb hby d5_7) rfl (teq hc7).2 ?_
        show Steps p.tables e below (T1.setTop (mkF m 10 #[.val (.ref a1), .val (.int p2), .val (.int p3)] [])) _
        refine XS.aloadN X1.here hx rfl (hb hby d5_10) rfl rfl ?_
        show Steps p.tables e below (T1.setTop (mkF m 11 #[.val (.ref a1), .val (.int p2), .val (.int p3)] [(.ref a1)])) _
        refine st2 _ ?_
        show Steps p.tables e below (T2.setTop (mkF m 14 #[.val (.ref a1), .val (.int p2), .val (.int p3)] [(.ref b1)])) _
        refine XS.iloadN X2.here hx rfl (hb hby d5_14) rfl ?_
        refine XS.aloadN X2.here hx rfl (hb hby d5_15) rfl rfl ?_
        show Steps p.tables e below (T2.setTop (mkF m 16 #[.val (.ref a1), .val (.int p2), .val (.int p3)] [(.ref a1), (.int p2), (.ref b1)])) _
        refine st3 _ ?_
        show Steps p.tables e below (T3.setTop (mkF m 19 #[.val (.ref a1), .val (.int p2), .val (.int p3)] [(.ref b3), (.int p2), (.ref b1)])) _
        refine XS.iloadN X3.here hx rfl (hb hby d5_19) rfl ?_
        show Steps p.tables e below (T3.setTop (mkF m 20 #[.val (.ref a1), .val (.int p2), .val (.int p3)] [(.int p3), (.ref b3), (.int p2), (.ref b1)])) _
        refine own_ld X3 hx hZ e3 V0.2.2.1.2.2.1 q0 q1 (g := (mkF m 20 #[.val (.ref a1), .val (.int p2), .val (.int p3)] [(.int p3), (.ref b3), (.int p2), (.ref b1)])) rfl rfl (hb hby d5_20) _ ?_
        show Steps p.tables e below (T3.setTop (mkF m 21 #[.val (.ref a1), .val (.int p2), .val (.int p3)] [(.int (fN p3)), (.int p2), (.ref b1)])) _
        refine st4 _ ?_
        show Steps p.tables e below (T4.setTop (mkF m 22 #[.val (.ref a1), .val (.int p2), .val (.int p3)] [])) _
        refine XS.goto X4.here hx rfl (pc0 := 22) (pc' := 42) rfl (hb hby d5_22) (by decide) (by decide) ?_
        refine XS.aloadN X4.here hx rfl (hb hby d5_42) rfl rfl ?_
        show Steps p.tables e below (T4.setTop (mkF m 43 #[.val (.ref a1), .val (.int p2), .val (.int p3)] [(.ref a1)])) _
        refine st5 _ ?_
        show Steps p.tables e below (T5.setTop (mkF m 46 #[.val (.ref a1), .val (.int p2), .val (.int p3)] [(.ref b3)])) _
        refine XS.iloadN X5.here hx rfl (hb hby d5_46) rfl ?_
        show Steps p.tables e below (T5.setTop (mkF m 47 #[.val (.ref a1), .val (.int p2), .val (.int p3)] [(.int p3), (.ref b3)])) _
        refine own_ld X5 hx hZ e5 V_a1_4.2.2.1.2.2.1 q0 q1 (g := (mkF m 47 #[.val (.ref a1), .val (.int p2), .val (.int p3)] [(.int p3), (.ref b3)])) rfl rfl (hb hby d5_47) _ ?_
        show Steps p.tables e below (T5.setTop (mkF m 48 #[.val (.ref a1), .val (.int p2), .val (.int p3)] [(.int (fN p3))])) _
        refine XS.iconst X5.here hx rfl (hb hby d5_48) ?_
        show Steps p.tables e below (T5.setTop (mkF m 49 #[.val (.ref a1), .val (.int p2), .val (.int p3)] [(.int (-1 : Int32)), (.int (fN p3))])) _
        refine XS.icmpNo X5.here hx rfl (hb hby d5_49) rfl (feq hc49).1 ?_
        show Steps p.tables e below (T5.setTop (mkF m 52 #[.val (.ref a1), .val (.int p2), .val (.int p3)] [])) _
        refine XS.aloadN X5.here hx rfl (hb hby d5_52) rfl rfl ?_
        show Steps p.tables e below (T5.setTop (mkF m 53 #[.val (.ref a1), .val (.int p2), .val (.int p3)] [(.ref a1)])) _
        refine st8 _ ?_
        show Steps p.tables e below (T8.setTop (mkF m 56 #[.val (.ref a1), .val (.int p2), .val (.int p3)] [(.ref b4)])) _
        refine XS.aloadN X8.here hx rfl (hb hby d5_56) rfl rfl ?_
        show Steps p.tables e below (T8.setTop (mkF m 57 #[.val (.ref a1), .val (.int p2), .val (.int p3)] [(.ref a1), (.ref b4)])) _
        refine st9 _ ?_
        show Steps p.tables e below (T9.setTop (mkF m 60 #[.val (.ref a1), .val (.int p2), .val (.int p3)] [(.ref b3), (.ref b4)])) _
        refine XS.iloadN X9.here hx rfl (hb hby d5_60) rfl ?_
        show Steps p.tables e below (T9.setTop (mkF m 61 #[.val (.ref a1), .val (.int p2), .val (.int p3)] [(.int p3), (.ref b3), (.ref b4)])) _
        refine own_ld X9 hx hZ e9 V_a1_4.2.2.1.2.2.1 q0 q1 (g := (mkF m 61 #[.val (.ref a1), .val (.int p2), .val (.int p3)] [(.int p3), (.ref b3), (.ref b4)])) rfl rfl (hb hby d5_61) _ ?_
        show Steps p.tables e below (T9.setTop (mkF m 62 #[.val (.ref a1), .val (.int p2), .val (.int p3)] [(.int (fN p3)), (.ref b4)])) _
        refine XS.aloadN X9.here hx rfl (hb hby d5_62) rfl rfl ?_
        show Steps p.tables e below (T9.setTop (mkF m 63 #[.val (.ref a1), .val (.int p2), .val (.int p3)] [(.ref a1), (.int (fN p3)), (.ref b4)])) _
        refine st10 _ ?_
        show Steps p.tables e below (T10.setTop (mkF m 66 #[.val (.ref a1), .val (.int p2), .val (.int p3)] [(.ref b4), (.int (fN p3)), (.ref b4)])) _
        refine XS.iloadN X10.here hx rfl (hb hby d5_66) rfl ?_
        show Steps p.tables e below (T10.setTop (mkF m 67 #[.val (.ref a1), .val (.int p2), .val (.int p3)] [(.int p3), (.ref b4), (.int (fN p3)), (.ref b4)])) _
        refine own_ld X10 hx hZ e10 V_a1_4.2.2.1.2.2.2 q0 q1 (g := (mkF m 67 #[.val (.ref a1), .val (.int p2), .val (.int p3)] [(.int p3), (.ref b4), (.int (fN p3)), (.ref b4)])) rfl rfl (hb hby d5_67) _ ?_
        show Steps p.tables e below (T10.setTop (mkF m 68 #[.val (.ref a1), .val (.int p2), .val (.int p3)] [(.int (fP p3)), (.int (fN p3)), (.ref b4)])) _
        refine st11 _ ?_
        show Steps p.tables e below (T11.setTop (mkF m 69 #[.val (.ref a1), .val (.int p2), .val (.int p3)] [])) _
        refine XS.aloadN X11.here hx rfl (hb hby d5_69) rfl rfl ?_
        show Steps p.tables e below (T11.setTop (mkF m 70 #[.val (.ref a1), .val (.int p2), .val (.int p3)] [(.ref a1)])) _
        refine st12 _ ?_
        show Steps p.tables e below (T12.setTop (mkF m 73 #[.val (.ref a1), .val (.int p2), .val (.int p3)] [(.ref b2)])) _
        refine XS.iloadN X12.here hx rfl (hb hby d5_73) rfl ?_
        refine XT.dup2 X12.here hx rfl (hb hby d5_74) rfl rfl rfl ?_
        show Steps p.tables e below (T12.setTop (mkF m 75 #[.val (.ref a1), .val (.int p2), .val (.int p3)] [(.int p2), (.ref b2), (.int p2), (.ref b2)])) _
        refine own_ld X12 hx hZ e12 V_a1_11.2.2.1.2.1 l0 l1 (g := (mkF m 75 #[.val (.ref a1), .val (.int p2), .val (.int p3)] [(.int p2), (.ref b2), (.int p2), (.ref b2)])) rfl rfl (hb hby d5_75) _ ?_
        show Steps p.tables e below (T12.setTop (mkF m 76 #[.val (.ref a1), .val (.int p2), .val (.int p3)] [(.int (fS p2)), (.int p2), (.ref b2)])) _
        refine XS.iconst X12.here hx rfl (hb hby d5_76) ?_
        show Steps p.tables e below (T12.setTop (mkF m 77 #[.val (.ref a1), .val (.int p2), .val (.int p3)] [(.int (1 : Int32)), (.int (fS p2)), (.int p2), (.ref b2)])) _
        refine XS.isub X12.here hx rfl (hb hby d5_77) rfl ?_
        show Steps p.tables e below (T12.setTop (mkF m 78 #[.val (.ref a1), .val (.int p2), .val (.int p3)] [(.int ((fS p2) - (1 : Int32))), (.int p2), (.ref b2)])) _
        refine st13 _ ?_
        show Steps p.tables e below (T13.setTop (mkF m 79 #[.val (.ref a1), .val (.int p2), .val (.int p3)] [])) _
        exact X13.returnOut hx Bd.returns (hb hby d5_79) hr
      · show Q5 Z a1 p2 p3 b1 b2 b3 b4 fH fS fN fP h0 n0 _ T13.heap _
        rw [e13]
        refine ⟨rfl, N13, K13, ?_⟩
        rw [show own_rP fN fP p3 = (own_upd fP (fN p3) (fP p3)) from by unfold own_rP; rw [own_rN_1 hc7]; exact if_neg hc49, show own_rN fN fP p3 = fN from if_pos hc7, show own_rH fH fN fP p2 p3 = (own_upd fH p2 (fN p3)) from if_pos hc7]
        exact V_a1_13
  · obtain ⟨T14, X14, e14, st14⟩ := getF X1 hx hZ hown (host := "") (Or.inl (own_w hw 20 rfl)) Via.refl e1 V0.2.1.2.2.1 (g := (mkF m 26 #[.val (.ref a1), .val (.int p2), .val (.int p3)] [(.ref a1)])) rfl rfl (hb hby d5_26)
    obtain ⟨T15, X15, e15, st15⟩ := getF X14 hx hZ hown (host := "") (Or.inl (own_w hw 22 rfl)) Via.refl e14 V0.2.1.2.2.2 (g := (mkF m 30 #[.val (.ref a1), .val (.int p2), .val (.int p3)] [(.ref a1), (.ref b3)])) rfl rfl (hb hby d5_30)
    obtain ⟨T16, X16, e16, st16⟩ := getF X15 hx hZ hown (host := "") (Or.inl (own_w hw 20 rfl)) Via.refl e15 V0.2.1.2.2.1 (g := (mkF m 36 #[.val (.ref a1), .val (.int p2), .val (.int p3)] [(.ref a1), (.int (fP p3)), (.ref b3)])) rfl rfl (hb hby d5_36)
    obtain ⟨T17, h17, X17, e17, W17, st17⟩ := own_st X16 hx hZ e16 V0.2.2.1.2.2.1 (hP.resolve_left hc7).1 (hP.resolve_left hc7).2 (g := (mkF m 41 #[.val (.ref a1), .val (.int p2), .val (.int p3)] [(.int (fN p3)), (.int (fP p3)), (.ref b3)])) rfl rfl (hb hby d5_41)
    have V_a1_17 : own_L Z n0 h17 a1 b1 b2 b3 b4 fH fS (own_upd fN (fP p3) (fN p3)) fP := own_L_wN V0 W17 (hP.resolve_left hc7).1 (hP.resolve_left hc7).2
    have K17 : Keep h0 h17 [b1, b2, b3, b4] := (Keep.refl h0 [b1, b2, b3, b4]).wr W17 (Or.inl (List.mem_of_getElem? (i := 2) rfl))
    have N17 := Fr.snoc X17 N0 (own_L_g V0).2.2.1
    have Zs17 : n0 ≤ h17.size := by rw [W17.size]; exact Z0
    obtain ⟨T18, X18, e18, st18⟩ := getF X17 hx hZ hown (host := "") (Or.inl (own_w hw 20 rfl)) Via.refl e17 V_a1_17.2.1.2.2.1 (g := (mkF m 43 #[.val (.ref a1), .val (.int p2), .val (.int p3)] [(.ref a1)])) rfl rfl (hb hby d5_43)
    by_cases hc49 : ((own_upd fN (fP p3) (fN p3)) p3) = (-1 : Int32)
    · obtain ⟨T19, X19, e19, st19⟩ := getF X18 hx hZ hown (host := "") (Or.inl (own_w hw 18 rfl)) Via.refl e18 V_a1_17.2.1.2.1 (g := (mkF m 70 #[.val (.ref a1), .val (.int p2), .val (.int p3)] [(.ref a1)])) rfl rfl (hb hby d5_70)
      obtain ⟨T20, h20, X20, e20, W20, st20⟩ := own_st X19 hx hZ e19 V_a1_17.2.2.1.2.1 l0 l1 (g := (mkF m 78 #[.val (.ref a1), .val (.int p2), .val (.int p3)] [(.int ((fS p2) - (1 : Int32))), (.int p2), (.ref b2)])) rfl rfl (hb hby d5_78)
      have V_a1_20 : own_L Z n0 h20 a1 b1 b2 b3 b4 fH (own_upd fS p2 ((fS p2) - (1 : Int32))) (own_upd fN (fP p3) (fN p3)) fP := own_L_wS V_a1_17 W20 l0 l1
      have K20 : Keep h0 h20 [b1, b2, b3, b4] := K17.wr W20 (Or.inl (List.mem_of_getElem? (i := 1) rfl))
      have N20 := Fr.snoc X20 N17 (own_L_g V0).2.1
      have Zs20 : n0 ≤ h20.size := by rw [W20.size]; exact Zs17
      obtain ⟨fs, hr, hrun, hended, hW, hsame⟩ := X20.leave (v := none) (fun _ => rfl)
      refine ⟨_, _, pre0 _ ?_, hrun, hended, _, _, rfl, ?_, ⟨_, rfl⟩, hW, hsame.mono (by decide) (by decide)⟩
      · show Steps p.tables e below (s₁.setTop (mkF m 0 #[.val (.ref a1), .val (.int p2), .val (.int p3)] [])) _
        refine XS.aloadN X0.here hx rfl (hb hby d5_0) rfl rfl ?_
        show Steps p.tables e below (s₁.setTop (mkF m 1 #[.val (.ref a1), .val (.int p2), .val (.int p3)] [(.ref a1)])) _
        refine st1 _ ?_
        show Steps p.tables e below (T1.setTop (mkF m 4 #[.val (.ref a1), .val (.int p2), .val (.int p3)] [(.ref b4)])) _
        refine XS.iloadN X1.here hx rfl (hb hby d5_4) rfl ?_
        show Steps p.tables e below (T1.setTop (mkF m 5 #[.val (.ref a1), .val (.int p2), .val (.int p3)] [(.int p3), (.ref b4)])) _
        refine own_ld X1 hx hZ e1 V0.2.2.1.2.2.2 q0 q1 (g := (mkF m 5 #[.val (.ref a1), .val (.int p2), .val (.int p3)] [(.int p3), (.ref b4)])) rfl rfl (hb hby d5_5) _ ?_
        show Steps p.tables e below (T1.setTop (mkF m 6 #[.val (.ref a1), .val (.int p2), .val (.int p3)] [(.int (fP p3))])) _
        refine XS.iconst X1.here hx rfl (hb hby d5_6) ?_
        show Steps p.tables e below (T1.setTop (mkF m 7 #[.val (.ref a1), .val (.int p2), .val (.int p3)] [(.int (-1 : Int32)), (.int (fP p3))])) _
        refine XS.icmpYes X1.here hx rfl (pc0 := 7) (pc' := 25) rfl (hb hby d5_7) rfl (feq hc7).2 (by decide) (by decide) ?_
        show Steps p.tables e below (T1.setTop (mkF m 25 #[.val (.ref a1), .val (.int p2), .val (.int p3)] [])) _
        refine XS.aloadN X1.here hx rfl (hb hby d5_25) rfl rfl ?_
        show Steps p.tables e below (T1.setTop (mkF m 26 #[.val (.ref a1), .val (.int p2), .val (.int p3)] [(.ref a1)])) _
        refine st14 _ ?_
        show Steps p.tables e below (T14.setTop (mkF m 29 #[.val (.ref a1), .val (.int p2), .val (.int p3)] [(.ref b3)])) _
        refine XS.aloadN X14.here hx rfl (hb hby d5_29) rfl rfl ?_
        show Steps p.tables e below (T14.setTop (mkF m 30 #[.val (.ref a1), .val (.int p2), .val (.int p3)] [(.ref a1), (.ref b3)])) _
        refine st15 _ ?_
        show Steps p.tables e below (T15.setTop (mkF m 33 #[.val (.ref a1), .val (.int p2), .val (.int p3)] [(.ref b4), (.ref b3)])) _
        refine XS.iloadN X15.here hx rfl (hb hby d5_33) rfl ?_
        show Steps p.tables e below (T15.setTop (mkF m 34 #[.val (.ref a1), .val (.int p2), .val (.int p3)] [(.int p3), (.ref b4), (.ref b3)])) _
        refine own_ld X15 hx hZ e15 V0.2.2.1.2.2.2 q0 q1 (g := (mkF m 34 #[.val (.ref a1), .val (.int p2), .val (.int p3)] [(.int p3), (.ref b4), (.ref b3)])) rfl rfl (hb hby d5_34) _ ?_
        show Steps p.tables e below (T15.setTop (mkF m 35 #[.val (.ref a1), .val (.int p2), .val (.int p3)] [(.int (fP p3)), (.ref b3)])) _
        refine XS.aloadN X15.here hx rfl (hb hby d5_35) rfl rfl ?_
        show Steps p.tables e below (T15.setTop (mkF m 36 #[.val (.ref a1), .val (.int p2), .val (.int p3)] [(.ref a1), (.int (fP p3)), (.ref b3)])) _
        refine st16 _ ?_
        show Steps p.tables e below (T16.setTop (mkF m 39 #[.val (.ref a1), .val (.int p2), .val (.int p3)] [(.ref b3), (.int (fP p3)), (.ref b3)])) _
        refine XS.iloadN X16.here hx rfl (hb hby d5_39) rfl ?_
        show Steps p.tables e below (T16.setTop (mkF m 40 #[.val (.ref a1), .val (.int p2), .val (.int p3)] [(.int p3), (.ref b3), (.int (fP p3)), (.ref b3)])) _
        refine own_ld X16 hx hZ e16 V0.2.2.1.2.2.1 q0 q1 (g := (mkF m 40 #[.val (.ref a1), .val (.int p2), .val (.int p3)] [(.int p3), (.ref b3), (.int (fP p3)), (.ref b3)])) rfl rfl (hb hby d5_40) _ ?_
        show Steps p.tables e below (T16.setTop (mkF m 41 #[.val (.ref a1), .val (.int p2), .val (.int p3)] [(.int (fN p3)), (.int (fP p3)), (.ref b3)])) _
        refine st17 _ ?_
        show Steps p.tables e below (T17.setTop (mkF m 42 #[.val (.ref a1), .val (.int p2), .val (.int p3)] [])) _
        refine XS.aloadN X17.here hx rfl (hb hby d5_42) rfl rfl ?_
        show Steps p.tables e below (T17.setTop (mkF m 43 #[.val (.ref a1), .val (.int p2), .val (.int p3)] [(.ref a1)])) _
        refine st18 _ ?_
        show Steps p.tables e below (T18.setTop (mkF m 46 #[.val (.ref a1), .val (.int p2), .val (.int p3)] [(.ref b3)])) _
        refine XS.iloadN X18.here hx rfl (hb hby d5_46) rfl ?_
        show Steps p.tables e below (T18.setTop (mkF m 47 #[.val (.ref a1), .val (.int p2), .val (.int p3)] [(.int p3), (.ref b3)])) _
        refine own_ld X18 hx hZ e18 V_a1_17.2.2.1.2.2.1 q0 q1 (g := (mkF m 47 #[.val (.ref a1), .val (.int p2), .val (.int p3)] [(.int p3), (.ref b3)])) rfl rfl (hb hby d5_47) _ ?_
        show Steps p.tables e below (T18.setTop (mkF m 48 #[.val (.ref a1), .val (.int p2), .val (.int p3)] [(.int ((own_upd fN (fP p3) (fN p3)) p3))])) _
        refine XS.iconst X18.here hx rfl (hb hby d5_48) ?_
        show Steps p.tables e below (T18.setTop (mkF m 49 #[.val (.ref a1), .val (.int p2), .val (.int p3)] [(.int (-1 : Int32)), (.int ((own_upd fN (fP p3) (fN p3)) p3))])) _
        refine XS.icmpYes X18.here hx rfl (pc0 := 49) (pc' := 69) rfl (hb hby d5_49) rfl (teq hc49).1 (by decide) (by decide) ?_
        show Steps p.tables e below (T18.setTop (mkF m 69 #[.val (.ref a1), .val (.int p2), .val (.int p3)] [])) _
        refine XS.aloadN X18.here hx rfl (hb hby d5_69) rfl rfl ?_
        show Steps p.tables e below (T18.setTop (mkF m 70 #[.val (.ref a1), .val (.int p2), .val (.int p3)] [(.ref a1)])) _
        refine st19 _ ?_
        show Steps p.tables e below (T19.setTop (mkF m 73 #[.val (.ref a1), .val (.int p2), .val (.int p3)] [(.ref b2)])) _
        refine XS.iloadN X19.here hx rfl (hb hby d5_73) rfl ?_
        refine XT.dup2 X19.here hx rfl (hb hby d5_74) rfl rfl rfl ?_
        show Steps p.tables e below (T19.setTop (mkF m 75 #[.val (.ref a1), .val (.int p2), .val (.int p3)] [(.int p2), (.ref b2), (.int p2), (.ref b2)])) _
        refine own_ld X19 hx hZ e19 V_a1_17.2.2.1.2.1 l0 l1 (g := (mkF m 75 #[.val (.ref a1), .val (.int p2), .val (.int p3)] [(.int p2), (.ref b2), (.int p2), (.ref b2)])) rfl rfl (hb hby d5_75) _ ?_
        show Steps p.tables e below (T19.setTop (mkF m 76 #[.val (.ref a1), .val (.int p2), .val (.int p3)] [(.int (fS p2)), (.int p2), (.ref b2)])) _
        refine XS.iconst X19.here hx rfl (hb hby d5_76) ?_
        show Steps p.tables e below (T19.setTop (mkF m 77 #[.val (.ref a1), .val (.int p2), .val (.int p3)] [(.int (1 : Int32)), (.int (fS p2)), (.int p2), (.ref b2)])) _
        refine XS.isub X19.here hx rfl (hb hby d5_77) rfl ?_
        show Steps p.tables e below (T19.setTop (mkF m 78 #[.val (.ref a1), .val (.int p2), .val (.int p3)] [(.int ((fS p2) - (1 : Int32))), (.int p2), (.ref b2)])) _
        refine st20 _ ?_
        show Steps p.tables e below (T20.setTop (mkF m 79 #[.val (.ref a1), .val (.int p2), .val (.int p3)] [])) _
        exact X20.returnOut hx Bd.returns (hb hby d5_79) hr
      · show Q5 Z a1 p2 p3 b1 b2 b3 b4 fH fS fN fP h0 n0 _ T20.heap _
        rw [e20]
        refine ⟨rfl, N20, K20, ?_⟩
        rw [show own_rP fN fP p3 = fP from by unfold own_rP; rw [own_rN_2 hc7]; exact if_pos hc49, show own_rN fN fP p3 = (own_upd fN (fP p3) (fN p3)) from if_neg hc7, show own_rH fH fN fP p2 p3 = fH from if_neg hc7]
        exact V_a1_20
    · obtain ⟨T21, X21, e21, st21⟩ := getF X18 hx hZ hown (host := "") (Or.inl (own_w hw 22 rfl)) Via.refl e18 V_a1_17.2.1.2.2.2 (g := (mkF m 53 #[.val (.ref a1), .val (.int p2), .val (.int p3)] [(.ref a1)])) rfl rfl (hb hby d5_53)
      obtain ⟨T22, X22, e22, st22⟩ := getF X21 hx hZ hown (host := "") (Or.inl (own_w hw 20 rfl)) Via.refl e21 V_a1_17.2.1.2.2.1 (g := (mkF m 57 #[.val (.ref a1), .val (.int p2), .val (.int p3)] [(.ref a1), (.ref b4)])) rfl rfl (hb hby d5_57)
      obtain ⟨T23, X23, e23, st23⟩ := getF X22 hx hZ hown (host := "") (Or.inl (own_w hw 22 rfl)) Via.refl e22 V_a1_17.2.1.2.2.2 (g := (mkF m 63 #[.val (.ref a1), .val (.int p2), .val (.int p3)] [(.ref a1), (.int ((own_upd fN (fP p3) (fN p3)) p3)), (.ref b4)])) rfl rfl (hb hby d5_63)
      obtain ⟨T24, h24, X24, e24, W24, st24⟩ := own_st X23 hx hZ e23 V_a1_17.2.2.1.2.2.2 ((own_inN2 hc7 hN).resolve_left hc49).1 ((own_inN2 hc7 hN).resolve_left hc49).2 (g := (mkF m 68 #[.val (.ref a1), .val (.int p2), .val (.int p3)] [(.int (fP p3)), (.int ((own_upd fN (fP p3) (fN p3)) p3)), (.ref b4)])) rfl rfl (hb hby d5_68)
      have V_a1_24 : own_L Z n0 h24 a1 b1 b2 b3 b4 fH fS (own_upd fN (fP p3) (fN p3)) (own_upd fP ((own_upd fN (fP p3) (fN p3)) p3) (fP p3)) := own_L_wP V_a1_17 W24 ((own_inN2 hc7 hN).resolve_left hc49).1 ((own_inN2 hc7 hN).resolve_left hc49).2
      have K24 : Keep h0 h24 [b1, b2, b3, b4] := K17.wr W24 (Or.inl (List.mem_of_getElem? (i := 3) rfl))
      have N24 := Fr.snoc X24 N17 (own_L_g V0).2.2.2
      have Zs24 : n0 ≤ h24.size := by rw [W24.size]; exact Zs17
      obtain ⟨T25, X25, e25, st25⟩ := getF X24 hx hZ hown (host := "") (Or.inl (own_w hw 18 rfl)) Via.refl e24 V_a1_24.2.1.2.1 (g := (mkF m 70 #[.val (.ref a1), .val (.int p2), .val (.int p3)] [(.ref a1)])) rfl rfl (hb hby d5_70)
      obtain ⟨T26, h26, X26, e26, W26, st26⟩ := own_st X25 hx hZ e25 V_a1_24.2.2.1.2.1 l0 l1 (g := (mkF m 78 #[.val (.ref a1), .val (.int p2), .val (.int p3)] [(.int ((fS p2) - (1 : Int32))), (.int p2), (.ref b2)])) rfl rfl (hb hby d5_78)
      have V_a1_26 : own_L Z n0 h26 a1 b1 b2 b3 b4 fH (own_upd fS p2 ((fS p2) - (1 : Int32))) (own_upd fN (fP p3) (fN p3)) (own_upd fP ((own_upd fN (fP p3) (fN p3)) p3) (fP p3)) := own_L_wS V_a1_24 W26 l0 l1
      have K26 : Keep h0 h26 [b1, b2, b3, b4] := K24.wr W26 (Or.inl (List.mem_of_getElem? (i := 1) rfl))
      have N26 := Fr.snoc X26 N24 (own_L_g V0).2.1
      have Zs26 : n0 ≤ h26.size := by rw [W26.size]; exact Zs24
      obtain ⟨fs, hr, hrun, hended, hW, hsame⟩ := X26.leave (v := none) (fun _ => rfl)
      refine ⟨_, _, pre0 _ ?_, hrun, hended, _, _, rfl, ?_, ⟨_, rfl⟩, hW, hsame.mono (by decide) (by decide)⟩
      · show Steps p.tables e below (s₁.setTop (mkF m 0 #[.val (.ref a1), .val (.int p2), .val (.int p3)] [])) _
        refine XS.aloadN X0.here hx rfl (hb hby d5_0) rfl rfl ?_
        show Steps p.tables e below (s₁.setTop (mkF m 1 #[.val (.ref a1), .val (.int p2), .val (.int p3)] [(.ref a1)])) _
        refine st1 _ ?_
        show Steps p.tables e below (T1.setTop (mkF m 4 #[.val (.ref a1), .val (.int p2), .val (.int p3)] [(.ref b4)])) _
        refine XS.iloadN X1.here hx rfl (hb hby d5_4) rfl ?_
        show Steps p.tables e below (T1.setTop (mkF m 5 #[.val (.ref a1), .val (.int p2), .val (.int p3)] [(.int p3), (.ref b4)])) _
        refine own_ld X1 hx hZ e1 V0.2.2.1.2.2.2 q0 q1 (g := (mkF m 5 #[.val (.ref a1), .val (.int p2), .val (.int p3)] [(.int p3), (.ref b4)])) rfl rfl (hb hby d5_5) _ ?_
        show Steps p.tables e below (T1.setTop (mkF m 6 #[.val (.ref a1), .val (.int p2), .val (.int p3)] [(.int (fP p3))])) _
        refine XS.iconst X1.here hx rfl (hb hby d5_6) ?_
        show Steps p.tables e below (T1.setTop (mkF m 7 #[.val (.ref a1), .val (.int p2), .val (.int p3)] [(.int (-1 : Int32)), (.int (fP p3))])) _
        refine XS.icmpYes X1.here hx rfl (pc0 := 7) (pc' := 25) rfl (hb hby d5_7) rfl (feq hc7).2 (by decide) (by decide) ?_
        show Steps p.tables e below (T1.setTop (mkF m 25 #[.val (.ref a1), .val (.int p2), .val (.int p3)] [])) _
        refine XS.aloadN X1.here hx rfl (hb hby d5_25) rfl rfl ?_
        show Steps p.tables e below (T1.setTop (mkF m 26 #[.val (.ref a1), .val (.int p2), .val (.int p3)] [(.ref a1)])) _
        refine st14 _ ?_
        show Steps p.tables e below (T14.setTop (mkF m 29 #[.val (.ref a1), .val (.int p2), .val (.int p3)] [(.ref b3)])) _
        refine XS.aloadN X14.here hx rfl (hb hby d5_29) rfl rfl ?_
        show Steps p.tables e below (T14.setTop (mkF m 30 #[.val (.ref a1), .val (.int p2), .val (.int p3)] [(.ref a1), (.ref b3)])) _
        refine st15 _ ?_
        show Steps p.tables e below (T15.setTop (mkF m 33 #[.val (.ref a1), .val (.int p2), .val (.int p3)] [(.ref b4), (.ref b3)])) _
        refine XS.iloadN X15.here hx rfl (hb hby d5_33) rfl ?_
        show Steps p.tables e below (T15.setTop (mkF m 34 #[.val (.ref a1), .val (.int p2), .val (.int p3)] [(.int p3), (.ref b4), (.ref b3)])) _
        refine own_ld X15 hx hZ e15 V0.2.2.1.2.2.2 q0 q1 (g := (mkF m 34 #[.val (.ref a1), .val (.int p2), .val (.int p3)] [(.int p3), (.ref b4), (.ref b3)])) rfl rfl (hb hby d5_34) _ ?_
        show Steps p.tables e below (T15.setTop (mkF m 35 #[.val (.ref a1), .val (.int p2), .val (.int p3)] [(.int (fP p3)), (.ref b3)])) _
        refine XS.aloadN X15.here hx rfl (hb hby d5_35) rfl rfl ?_
        show Steps p.tables e below (T15.setTop (mkF m 36 #[.val (.ref a1), .val (.int p2), .val (.int p3)] [(.ref a1), (.int (fP p3)), (.ref b3)])) _
        refine st16 _ ?_
        show Steps p.tables e below (T16.setTop (mkF m 39 #[.val (.ref a1), .val (.int p2), .val (.int p3)] [(.ref b3), (.int (fP p3)), (.ref b3)])) _
        refine XS.iloadN X16.here hx rfl (hb hby d5_39) rfl ?_
        show Steps p.tables e below (T16.setTop (mkF m 40 #[.val (.ref a1), .val (.int p2), .val (.int p3)] [(.int p3), (.ref b3), (.int (fP p3)), (.ref b3)])) _
        refine own_ld X16 hx hZ e16 V0.2.2.1.2.2.1 q0 q1 (g := (mkF m 40 #[.val (.ref a1), .val (.int p2), .val (.int p3)] [(.int p3), (.ref b3), (.int (fP p3)), (.ref b3)])) rfl rfl (hb hby d5_40) _ ?_
        show Steps p.tables e below (T16.setTop (mkF m 41 #[.val (.ref a1), .val (.int p2), .val (.int p3)] [(.int (fN p3)), (.int (fP p3)), (.ref b3)])) _
        refine st17 _ ?_
        show Steps p.tables e below (T17.setTop (mkF m 42 #[.val (.ref a1), .val (.int p2), .val (.int p3)] [])) _
        refine XS.aloadN X17.here hx rfl (hb hby d5_42) rfl rfl ?_
        show Steps p.tables e below (T17.setTop (mkF m 43 #[.val (.ref a1), .val (.int p2), .val (.int p3)] [(.ref a1)])) _
        refine st18 _ ?_
        show Steps p.tables e below (T18.setTop (mkF m 46 #[.val (.ref a1), .val (.int p2), .val (.int p3)] [(.ref b3)])) _
        refine XS.iloadN X18.here hx rfl (hb hby d5_46) rfl ?_
        show Steps p.tables e below (T18.setTop (mkF m 47 #[.val (.ref a1), .val (.int p2), .val (.int p3)] [(.int p3), (.ref b3)])) _
        refine own_ld X18 hx hZ e18 V_a1_17.2.2.1.2.2.1 q0 q1 (g := (mkF m 47 #[.val (.ref a1), .val (.int p2), .val (.int p3)] [(.int p3), (.ref b3)])) rfl rfl (hb hby d5_47) _ ?_
        show Steps p.tables e below (T18.setTop (mkF m 48 #[.val (.ref a1), .val (.int p2), .val (.int p3)] [(.int ((own_upd fN (fP p3) (fN p3)) p3))])) _
        refine XS.iconst X18.here hx rfl (hb hby d5_48) ?_
        show Steps p.tables e below (T18.setTop (mkF m 49 #[.val (.ref a1), .val (.int p2), .val (.int p3)] [(.int (-1 : Int32)), (.int ((own_upd fN (fP p3) (fN p3)) p3))])) _
        refine XS.icmpNo X18.here hx rfl (hb hby d5_49) rfl (feq hc49).1 ?_
        show Steps p.tables e below (T18.setTop (mkF m 52 #[.val (.ref a1), .val (.int p2), .val (.int p3)] [])) _
        refine XS.aloadN X18.here hx rfl (hb hby d5_52) rfl rfl ?_
        show Steps p.tables e below (T18.setTop (mkF m 53 #[.val (.ref a1), .val (.int p2), .val (.int p3)] [(.ref a1)])) _
        refine st21 _ ?_
        show Steps p.tables e below (T21.setTop (mkF m 56 #[.val (.ref a1), .val (.int p2), .val (.int p3)] [(.ref b4)])) _
        refine XS.aloadN X21.here hx rfl (hb hby d5_56) rfl rfl ?_
        show Steps p.tables e below (T21.setTop (mkF m 57 #[.val (.ref a1), .val (.int p2), .val (.int p3)] [(.ref a1), (.ref b4)])) _
        refine st22 _ ?_
        show Steps p.tables e below (T22.setTop (mkF m 60 #[.val (.ref a1), .val (.int p2), .val (.int p3)] [(.ref b3), (.ref b4)])) _
        refine XS.iloadN X22.here hx rfl (hb hby d5_60) rfl ?_
        show Steps p.tables e below (T22.setTop (mkF m 61 #[.val (.ref a1), .val (.int p2), .val (.int p3)] [(.int p3), (.ref b3), (.ref b4)])) _
        refine own_ld X22 hx hZ e22 V_a1_17.2.2.1.2.2.1 q0 q1 (g := (mkF m 61 #[.val (.ref a1), .val (.int p2), .val (.int p3)] [(.int p3), (.ref b3), (.ref b4)])) rfl rfl (hb hby d5_61) _ ?_
        show Steps p.tables e below (T22.setTop (mkF m 62 #[.val (.ref a1), .val (.int p2), .val (.int p3)] [(.int ((own_upd fN (fP p3) (fN p3)) p3)), (.ref b4)])) _
        refine XS.aloadN X22.here hx rfl (hb hby d5_62) rfl rfl ?_
        show Steps p.tables e below (T22.setTop (mkF m 63 #[.val (.ref a1), .val (.int p2), .val (.int p3)] [(.ref a1), (.int ((own_upd fN (fP p3) (fN p3)) p3)), (.ref b4)])) _
        refine st23 _ ?_
        show Steps p.tables e below (T23.setTop (mkF m 66 #[.val (.ref a1), .val (.int p2), .val (.int p3)] [(.ref b4), (.int ((own_upd fN (fP p3) (fN p3)) p3)), (.ref b4)])) _
        refine XS.iloadN X23.here hx rfl (hb hby d5_66) rfl ?_
        show Steps p.tables e below (T23.setTop (mkF m 67 #[.val (.ref a1), .val (.int p2), .val (.int p3)] [(.int p3), (.ref b4), (.int ((own_upd fN (fP p3) (fN p3)) p3)), (.ref b4)])) _
        refine own_ld X23 hx hZ e23 V_a1_17.2.2.1.2.2.2 q0 q1 (g := (mkF m 67 #[.val (.ref a1), .val (.int p2), .val (.int p3)] [(.int p3), (.ref b4), (.int ((own_upd fN (fP p3) (fN p3)) p3)), (.ref b4)])) rfl rfl (hb hby d5_67) _ ?_
        show Steps p.tables e below (T23.setTop (mkF m 68 #[.val (.ref a1), .val (.int p2), .val (.int p3)] [(.int (fP p3)), (.int ((own_upd fN (fP p3) (fN p3)) p3)), (.ref b4)])) _
        refine st24 _ ?_
        show Steps p.tables e below (T24.setTop (mkF m 69 #[.val (.ref a1), .val (.int p2), .val (.int p3)] [])) _
        refine XS.aloadN X24.here hx rfl (hb hby d5_69) rfl rfl ?_
        show Steps p.tables e below (T24.setTop (mkF m 70 #[.val (.ref a1), .val (.int p2), .val (.int p3)] [(.ref a1)])) _
        refine st25 _ ?_
        show Steps p.tables e below (T25.setTop (mkF m 73 #[.val (.ref a1), .val (.int p2), .val (.int p3)] [(.ref b2)])) _
        refine XS.iloadN X25.here hx rfl (hb hby d5_73) rfl ?_
        refine XT.dup2 X25.here hx rfl (hb hby d5_74) rfl rfl rfl ?_
        show Steps p.tables e below (T25.setTop (mkF m 75 #[.val (.ref a1), .val (.int p2), .val (.int p3)] [(.int p2), (.ref b2), (.int p2), (.ref b2)])) _
        refine own_ld X25 hx hZ e25 V_a1_24.2.2.1.2.1 l0 l1 (g := (mkF m 75 #[.val (.ref a1), .val (.int p2), .val (.int p3)] [(.int p2), (.ref b2), (.int p2), (.ref b2)])) rfl rfl (hb hby d5_75) _ ?_
        show Steps p.tables e below (T25.setTop (mkF m 76 #[.val (.ref a1), .val (.int p2), .val (.int p3)] [(.int (fS p2)), (.int p2), (.ref b2)])) _
        refine XS.iconst X25.here hx rfl (hb hby d5_76) ?_
        show Steps p.tables e below (T25.setTop (mkF m 77 #[.val (.ref a1), .val (.int p2), .val (.int p3)] [(.int (1 : Int32)), (.int (fS p2)), (.int p2), (.ref b2)])) _
        refine XS.isub X25.here hx rfl (hb hby d5_77) rfl ?_
        show Steps p.tables e below (T25.setTop (mkF m 78 #[.val (.ref a1), .val (.int p2), .val (.int p3)] [(.int ((fS p2) - (1 : Int32))), (.int p2), (.ref b2)])) _
        refine st26 _ ?_
        show Steps p.tables e below (T26.setTop (mkF m 79 #[.val (.ref a1), .val (.int p2), .val (.int p3)] [])) _
        exact X26.returnOut hx Bd.returns (hb hby d5_79) hr
      · show Q5 Z a1 p2 p3 b1 b2 b3 b4 fH fS fN fP h0 n0 _ T26.heap _
        rw [e26]
        refine ⟨rfl, N26, K26, ?_⟩
        rw [show own_rP fN fP p3 = (own_upd fP ((own_upd fN (fP p3) (fN p3)) p3) (fP p3)) from by unfold own_rP; rw [own_rN_2 hc7]; exact if_neg hc49, show own_rN fN fP p3 = (own_upd fN (fP p3) (fN p3)) from if_neg hc7, show own_rH fH fN fP p2 p3 = fH from if_neg hc7]
        exact V_a1_26
theorem d3_0 : decode jdk_65_method_103_code 0 = .ok (.iconst 0, 1) := by decide +kernel
theorem d3_1 : decode jdk_65_method_103_code 1 = .ok (.istore_n 2, 1) := by decide +kernel
theorem d3_2 : decode jdk_65_method_103_code 2 = .ok (.aload_n 0, 1) := by decide +kernel
theorem d3_3 : decode jdk_65_method_103_code 3 = .ok (.arraylength, 1) := by decide +kernel
theorem d3_4 : decode jdk_65_method_103_code 4 = .ok (.istore_n 3, 1) := by decide +kernel
theorem d3_5 : decode jdk_65_method_103_code 5 = .ok (.iload_n 2, 1) := by decide +kernel
theorem d3_6 : decode jdk_65_method_103_code 6 = .ok (.iload_n 3, 1) := by decide +kernel
theorem d3_7 : decode jdk_65_method_103_code 7 = .ok (.if_icmp .ge 13, 3) := by decide +kernel
theorem d3_10 : decode jdk_65_method_103_code 10 = .ok (.aload_n 0, 1) := by decide +kernel
theorem d3_11 : decode jdk_65_method_103_code 11 = .ok (.iload_n 2, 1) := by decide +kernel
theorem d3_12 : decode jdk_65_method_103_code 12 = .ok (.iload_n 1, 1) := by decide +kernel
theorem d3_13 : decode jdk_65_method_103_code 13 = .ok (.iastore, 1) := by decide +kernel
theorem d3_14 : decode jdk_65_method_103_code 14 = .ok (.iinc 2 1, 3) := by decide +kernel
theorem d3_17 : decode jdk_65_method_103_code 17 = .ok (.goto (-12), 3) := by decide +kernel
theorem d3_20 : decode jdk_65_method_103_code 20 = .ok (.return_, 1) := by decide +kernel
theorem pn_3 : plainName "java/util/Arrays" = true := by first | (simp [plainName, overriddenIn]; done) | decide +kernel
theorem ef_3 (m : MethodId) (a1 : Addr) (p2 : Int32) : entryFrame m #[(.ref a1), (.int p2)] 4 = mkF m 0 #[.val (.ref a1), .val (.int p2), .unset, .unset] [] := by first | (simp [entryFrame, mkF, argsToLocals, Value.category]; done) | rfl
def Q3 (Z : State) (a1 : Addr) (p2 : Int32) (f : Int32 → Int32) (h0 : Heap) (n0 : Nat) (v : Option Value) (h : Heap) (L : List Loc) : Prop := v = none ∧ Fr n0 L ∧ Keep h0 h [a1] ∧ own_arr Z h a1 (2 : Int32) (own_upd (own_upd f (0 : Int32) p2) (1 : Int32) p2)
set_option maxRecDepth 65536 in
set_option maxHeartbeats 40000000 in
theorem rm3 (l : Launch) (Z : State) (a0 : Array Value) (hw : ∀ d ∈ tables_1, d.before a0 Z = true) (ws : List Jvm.Cond) (a1 : Addr) (p2 : Int32) (f : Int32 → Int32) (h0 : Heap) (n0 : Nat) (Z0 : n0 ≤ h0.size) (A0 : own_arr Z h0 a1 (2 : Int32) f) (ga : n0 ≤ a1) :
    MetFree l (⟨"java/util/Arrays", "fill", "([II)V"⟩ : MethodName) (head1 (Jvm.Cond.code (⟨"java/util/Arrays", "fill", "([II)V"⟩ : MethodName) jdk_65_method_103_code 4 none :: ws) ({ frames := 0, cells := 0, slots := 0, locals := 0 } : Room)) (fun a U => a = #[(.ref a1), (.int p2)] ∧ Z.Warmed39 U.vm ∧ U.heap = h0) (fun _ _ _ _ _ => True) (fun _ U o U' => ∃ v L, o = .returned v ∧ Q3 Z a1 p2 f h0 n0 v U'.heap L ∧ FrameEnd U o U' L ({ frames := 0, cells := 0, slots := 0, locals := 0 } : Room).cells ({ frames := 0, cells := 0, slots := 0, locals := 0 } : Room).slots) := by
  refine MetFree.of_bodySF (plainFor_of_name pn_3) hisR ?_
  intro p e s m args below meth c s₁ Bd hml0 hP hK
  obtain ⟨rfl, hZ, hh⟩ := hP
  have hx := Bd.exec
  have hby := Bd.bytes
  have hml : c.maxLocals = 4 := hml0
  have hown : s.vm.findClass "java/util/Arrays" = some m.cls := findClass_of_methodNamed Bd.named
  have hnm := (name_of_methodNamed Bd.named Bd.method).1
  have X0 : Stand p l e ({ frames := 0, cells := 0, slots := 0, locals := 0 } : Room) s m #[(.ref a1), (.int p2)] below meth c s₁ [] 0 0 := Stand.of_body Bd
  have e0 : s₁.heap = h0 := by rw [← hh, Bd.state]; rfl
  have N0 := Fr.nil n0
  have pre0 : ∀ t, Steps p.tables e below (s₁.setTop (mkF m 0 #[.val (.ref a1), .val (.int p2), .unset, .unset] [])) t → Steps p.tables e below (s₁.setTop (entryFrame m #[(.ref a1), (.int p2)] 4)) t := fun t k => castTop (ef_3 m a1 p2) k
  obtain ⟨T1, h1, X1, e1, W1, st1⟩ := own_st X0 hx hZ e0 A0 (by decide) (by decide) (g := (mkF m 13 #[.val (.ref a1), .val (.int p2), .val (.int (0 : Int32)), .val (.int (2 : Int32))] [(.int p2), (.int (0 : Int32)), (.ref a1)])) rfl rfl (hb hby d3_13)
  have A_a1_1 : own_arr Z h1 a1 (2 : Int32) (own_upd f (0 : Int32) p2) := own_arr_same A0 W1 (by decide) (by decide)
  have K1 : Keep h0 h1 [a1] := (Keep.refl h0 [a1]).wr W1 (Or.inl (List.mem_of_getElem? (i := 0) rfl))
  have N1 := Fr.snoc X1 N0 ga
  have Zs1 : n0 ≤ h1.size := by rw [W1.size]; exact Z0
  obtain ⟨T2, h2, X2, e2, W2, st2⟩ := own_st X1 hx hZ e1 A_a1_1 (by decide) (by decide) (g := (mkF m 13 #[.val (.ref a1), .val (.int p2), .val (.int (1 : Int32)), .val (.int (2 : Int32))] [(.int p2), (.int (1 : Int32)), (.ref a1)])) rfl rfl (hb hby d3_13)
  have A_a1_2 : own_arr Z h2 a1 (2 : Int32) (own_upd (own_upd f (0 : Int32) p2) (1 : Int32) p2) := own_arr_same A_a1_1 W2 (by decide) (by decide)
  have K2 : Keep h0 h2 [a1] := K1.wr W2 (Or.inl (List.mem_of_getElem? (i := 0) rfl))
  have N2 := Fr.snoc X2 N1 ga
  have Zs2 : n0 ≤ h2.size := by rw [W2.size]; exact Zs1
  obtain ⟨fs, hr, hrun, hended, hW, hsame⟩ := X2.leave (v := none) (fun _ => rfl)
  refine ⟨_, _, pre0 _ ?_, hrun, hended, _, _, rfl, ?_, ⟨_, rfl⟩, hW, hsame.mono (by decide) (by decide)⟩
  · show Steps p.tables e below (s₁.setTop (mkF m 0 #[.val (.ref a1), .val (.int p2), .unset, .unset] [])) _
    refine XS.iconst X0.here hx rfl (hb hby d3_0) ?_
    refine XS.istoreN X0.here hx rfl (hb hby d3_1) rfl (l' := #[.val (.ref a1), .val (.int p2), .val (.int (0 : Int32)), .unset]) rfl ?_
    refine XS.aloadN X0.here hx rfl (hb hby d3_2) rfl rfl ?_
    show Steps p.tables e below (s₁.setTop (mkF m 3 #[.val (.ref a1), .val (.int p2), .val (.int (0 : Int32)), .unset] [(.ref a1)])) _
    refine own_len X0 hx hZ e0 A0 (g := (mkF m 3 #[.val (.ref a1), .val (.int p2), .val (.int (0 : Int32)), .unset] [(.ref a1)])) rfl rfl (hb hby d3_3) _ ?_
    show Steps p.tables e below (s₁.setTop (mkF m 4 #[.val (.ref a1), .val (.int p2), .val (.int (0 : Int32)), .unset] [(.int (2 : Int32))])) _
    refine XS.istoreN X0.here hx rfl (hb hby d3_4) rfl (l' := #[.val (.ref a1), .val (.int p2), .val (.int (0 : Int32)), .val (.int (2 : Int32))]) rfl ?_
    refine XS.iloadN X0.here hx rfl (hb hby d3_5) rfl ?_
    refine XS.iloadN X0.here hx rfl (hb hby d3_6) rfl ?_
    show Steps p.tables e below (s₁.setTop (mkF m 7 #[.val (.ref a1), .val (.int p2), .val (.int (0 : Int32)), .val (.int (2 : Int32))] [(.int (2 : Int32)), (.int (0 : Int32))])) _
    refine XS.icmpNo X0.here hx rfl (hb hby d3_7) rfl (tlt (by decide : (0 : Int32) < (2 : Int32))).2.1 ?_
    show Steps p.tables e below (s₁.setTop (mkF m 10 #[.val (.ref a1), .val (.int p2), .val (.int (0 : Int32)), .val (.int (2 : Int32))] [])) _
    refine XS.aloadN X0.here hx rfl (hb hby d3_10) rfl rfl ?_
    refine XS.iloadN X0.here hx rfl (hb hby d3_11) rfl ?_
    refine XS.iloadN X0.here hx rfl (hb hby d3_12) rfl ?_
    show Steps p.tables e below (s₁.setTop (mkF m 13 #[.val (.ref a1), .val (.int p2), .val (.int (0 : Int32)), .val (.int (2 : Int32))] [(.int p2), (.int (0 : Int32)), (.ref a1)])) _
    refine st1 _ ?_
    show Steps p.tables e below (T1.setTop (mkF m 14 #[.val (.ref a1), .val (.int p2), .val (.int (0 : Int32)), .val (.int (2 : Int32))] [])) _
    refine XS.iinc X1.here hx rfl (hb hby d3_14) rfl (l' := #[.val (.ref a1), .val (.int p2), .val (.int (1 : Int32)), .val (.int (2 : Int32))]) rfl ?_
    show Steps p.tables e below (T1.setTop (mkF m 17 #[.val (.ref a1), .val (.int p2), .val (.int (1 : Int32)), .val (.int (2 : Int32))] [])) _
    refine XS.goto X1.here hx rfl (pc0 := 17) (pc' := 5) rfl (hb hby d3_17) (by decide) (by decide) ?_
    refine XS.iloadN X1.here hx rfl (hb hby d3_5) rfl ?_
    refine XS.iloadN X1.here hx rfl (hb hby d3_6) rfl ?_
    show Steps p.tables e below (T1.setTop (mkF m 7 #[.val (.ref a1), .val (.int p2), .val (.int (1 : Int32)), .val (.int (2 : Int32))] [(.int (2 : Int32)), (.int (1 : Int32))])) _
    refine XS.icmpNo X1.here hx rfl (hb hby d3_7) rfl (tlt (by decide : (1 : Int32) < (2 : Int32))).2.1 ?_
    show Steps p.tables e below (T1.setTop (mkF m 10 #[.val (.ref a1), .val (.int p2), .val (.int (1 : Int32)), .val (.int (2 : Int32))] [])) _
    refine XS.aloadN X1.here hx rfl (hb hby d3_10) rfl rfl ?_
    refine XS.iloadN X1.here hx rfl (hb hby d3_11) rfl ?_
    refine XS.iloadN X1.here hx rfl (hb hby d3_12) rfl ?_
    show Steps p.tables e below (T1.setTop (mkF m 13 #[.val (.ref a1), .val (.int p2), .val (.int (1 : Int32)), .val (.int (2 : Int32))] [(.int p2), (.int (1 : Int32)), (.ref a1)])) _
    refine st2 _ ?_
    show Steps p.tables e below (T2.setTop (mkF m 14 #[.val (.ref a1), .val (.int p2), .val (.int (1 : Int32)), .val (.int (2 : Int32))] [])) _
    refine XS.iinc X2.here hx rfl (hb hby d3_14) rfl (l' := #[.val (.ref a1), .val (.int p2), .val (.int (2 : Int32)), .val (.int (2 : Int32))]) rfl ?_
    show Steps p.tables e below (T2.setTop (mkF m 17 #[.val (.ref a1), .val (.int p2), .val (.int (2 : Int32)), .val (.int (2 : Int32))] [])) _
    refine XS.goto X2.here hx rfl (pc0 := 17) (pc' := 5) rfl (hb hby d3_17) (by decide) (by decide) ?_
    refine XS.iloadN X2.here hx rfl (hb hby d3_5) rfl ?_
    refine XS.iloadN X2.here hx rfl (hb hby d3_6) rfl ?_
    show Steps p.tables e below (T2.setTop (mkF m 7 #[.val (.ref a1), .val (.int p2), .val (.int (2 : Int32)), .val (.int (2 : Int32))] [(.int (2 : Int32)), (.int (2 : Int32))])) _
    refine XS.icmpYes X2.here hx rfl (pc0 := 7) (pc' := 20) rfl (hb hby d3_7) rfl (flt (by decide : ¬ ((2 : Int32) < (2 : Int32)))).2.1 (by decide) (by decide) ?_
    show Steps p.tables e below (T2.setTop (mkF m 20 #[.val (.ref a1), .val (.int p2), .val (.int (2 : Int32)), .val (.int (2 : Int32))] [])) _
    exact X2.returnOut hx Bd.returns (hb hby d3_20) hr
  · show Q3 Z a1 p2 f h0 n0 _ T2.heap _
    rw [e2]
    exact ⟨rfl, N2, K2, A_a1_2⟩
theorem d1_0 : decode prog_108_method_1_code 0 = .ok (.aload_n 0, 1) := by decide +kernel
theorem d1_1 : decode prog_108_method_1_code 1 = .ok (.invokespecial 1, 3) := by decide +kernel
theorem d1_4 : decode prog_108_method_1_code 4 = .ok (.aload_n 0, 1) := by decide +kernel
theorem d1_5 : decode prog_108_method_1_code 5 = .ok (.iload_n 1, 1) := by decide +kernel
theorem d1_6 : decode prog_108_method_1_code 6 = .ok (.newarray .int, 2) := by decide +kernel
theorem d1_8 : decode prog_108_method_1_code 8 = .ok (.putfield 7, 3) := by decide +kernel
theorem d1_11 : decode prog_108_method_1_code 11 = .ok (.aload_n 0, 1) := by decide +kernel
theorem d1_12 : decode prog_108_method_1_code 12 = .ok (.getfield 7, 3) := by decide +kernel
theorem d1_15 : decode prog_108_method_1_code 15 = .ok (.iconst (-1), 1) := by decide +kernel
theorem d1_16 : decode prog_108_method_1_code 16 = .ok (.invokestatic 13, 3) := by decide +kernel
theorem d1_19 : decode prog_108_method_1_code 19 = .ok (.aload_n 0, 1) := by decide +kernel
theorem d1_20 : decode prog_108_method_1_code 20 = .ok (.iload_n 1, 1) := by decide +kernel
theorem d1_21 : decode prog_108_method_1_code 21 = .ok (.newarray .int, 2) := by decide +kernel
theorem d1_23 : decode prog_108_method_1_code 23 = .ok (.putfield 19, 3) := by decide +kernel
theorem d1_26 : decode prog_108_method_1_code 26 = .ok (.aload_n 0, 1) := by decide +kernel
theorem d1_27 : decode prog_108_method_1_code 27 = .ok (.iload_n 2, 1) := by decide +kernel
theorem d1_28 : decode prog_108_method_1_code 28 = .ok (.newarray .int, 2) := by decide +kernel
theorem d1_30 : decode prog_108_method_1_code 30 = .ok (.putfield 22, 3) := by decide +kernel
theorem d1_33 : decode prog_108_method_1_code 33 = .ok (.aload_n 0, 1) := by decide +kernel
theorem d1_34 : decode prog_108_method_1_code 34 = .ok (.iload_n 2, 1) := by decide +kernel
theorem d1_35 : decode prog_108_method_1_code 35 = .ok (.newarray .int, 2) := by decide +kernel
theorem d1_37 : decode prog_108_method_1_code 37 = .ok (.putfield 25, 3) := by decide +kernel
theorem d1_40 : decode prog_108_method_1_code 40 = .ok (.return_, 1) := by decide +kernel
theorem pn_1 : plainName "com/example/process_stepper/processstepper/equivalence/IntLists" = true := by first | (simp [plainName, overriddenIn]; done) | decide +kernel
theorem pd___II_V : parseMethodDescriptor "([II)V" = some ⟨[(.array .int), .int], none⟩ := by decide +kernel
abbrev own_m0 : MethodName := ⟨"java/lang/Object", "<init>", "()V"⟩
abbrev own_m1 : MethodName := ⟨"java/util/Arrays", "fill", "([II)V"⟩
theorem ef_1 (m : MethodId) (a1 : Addr) : entryFrame m #[(.ref a1), (.int (2 : Int32)), (.int (3 : Int32))] 3 = mkF m 0 #[.val (.ref a1), .val (.int (2 : Int32)), .val (.int (3 : Int32))] [] := by first | (simp [entryFrame, mkF, argsToLocals, Value.category]; done) | rfl
def Q1 (Z : State) (a1 : Addr) (h0 : Heap) (n0 : Nat) (v : Option Value) (h : Heap) (L : List Loc) : Prop := v = none ∧ Fr n0 L ∧ ∃ b1 b2 b3 b4 : Addr, Keep h0 h [a1] ∧ h0.size ≤ b1 ∧ own_L Z n0 h a1 b1 b2 b3 b4 own_H0 own_zero own_zero own_zero
set_option maxRecDepth 65536 in
set_option maxHeartbeats 40000000 in
theorem rm1 (l : Launch) (Z : State) (a0 : Array Value) (hw : ∀ d ∈ tables_1, d.before a0 Z = true) (ws : List Jvm.Cond) (a1 : Addr) (h0 : Heap) (n0 : Nat) (Z0 : n0 ≤ h0.size) (E0 : Exa Z h0 a1 "com/example/process_stepper/processstepper/equivalence/IntLists") (F_heads : Fld Z h0 a1 "com/example/process_stepper/processstepper/equivalence/IntLists" "heads" "[I" .null) (F_sizes : Fld Z h0 a1 "com/example/process_stepper/processstepper/equivalence/IntLists" "sizes" "[I" .null) (F_next : Fld Z h0 a1 "com/example/process_stepper/processstepper/equivalence/IntLists" "next" "[I" .null) (F_previous : Fld Z h0 a1 "com/example/process_stepper/processstepper/equivalence/IntLists" "previous" "[I" .null) (ga : n0 ≤ a1) :
    MetFree l (⟨"com/example/process_stepper/processstepper/equivalence/IntLists", "<init>", "(II)V"⟩ : MethodName) (head1 (Jvm.Cond.code (⟨"com/example/process_stepper/processstepper/equivalence/IntLists", "<init>", "(II)V"⟩ : MethodName) prog_108_method_1_code 3 none :: ws) ({ frames := 1, cells := 4, slots := 10, locals := 18 } : Room)) (fun a U => a = #[(.ref a1), (.int (2 : Int32)), (.int (3 : Int32))] ∧ Z.Warmed39 U.vm ∧ U.heap = h0) (fun _ _ _ _ _ => True) (fun _ U o U' => ∃ v L, o = .returned v ∧ Q1 Z a1 h0 n0 v U'.heap L ∧ FrameEnd U o U' L ({ frames := 1, cells := 4, slots := 10, locals := 18 } : Room).cells ({ frames := 1, cells := 4, slots := 10, locals := 18 } : Room).slots) := by
  refine MetFree.of_bodySF (plainFor_of_name pn_1) hisR ?_
  intro p e s m args below meth c s₁ Bd hml0 hP hK
  obtain ⟨rfl, hZ, hh⟩ := hP
  have hx := Bd.exec
  have hby := Bd.bytes
  have hml : c.maxLocals = 3 := hml0
  have hown : s.vm.findClass "com/example/process_stepper/processstepper/equivalence/IntLists" = some m.cls := findClass_of_methodNamed Bd.named
  have hnm := (name_of_methodNamed Bd.named Bd.method).1
  have X0 : Stand p l e ({ frames := 1, cells := 4, slots := 10, locals := 18 } : Room) s m #[(.ref a1), (.int (2 : Int32)), (.int (3 : Int32))] below meth c s₁ [] 0 0 := Stand.of_body Bd
  have e0 : s₁.heap = h0 := by rw [← hh, Bd.state]; rfl
  have N0 := Fr.nil n0
  have pre0 : ∀ t, Steps p.tables e below (s₁.setTop (mkF m 0 #[.val (.ref a1), .val (.int (2 : Int32)), .val (.int (3 : Int32))] [])) t → Steps p.tables e below (s₁.setTop (entryFrame m #[(.ref a1), (.int (2 : Int32)), (.int (3 : Int32))] 3)) t := fun t k => castTop (ef_1 m a1) k
  obtain ⟨T1, X1, e1, st1⟩ := initO X0 hx hZ hown (own_w hw 9 rfl) (own_w hw 10 rfl) (own_w hw 11 rfl) e0 (g := (mkF m 1 #[.val (.ref a1), .val (.int (2 : Int32)), .val (.int (3 : Int32))] [(.ref a1)])) rfl (by rw [hml]; rfl) rfl (hb hby d1_1) (by decide) (W := 0) (by show 2 * 0 + _ ≤ _; exact Nat.le_of_eq rfl) (by decide)
  obtain ⟨T2, h2, k2, X2, e2, E2, A2, st2⟩ := newP X1 hx hZ (own_w hw 1 rfl) e1 (g := (mkF m 6 #[.val (.ref a1), .val (.int (2 : Int32)), .val (.int (3 : Int32))] [(.int (2 : Int32)), (.ref a1)])) rfl (hb hby d1_6) rfl (by decide) (cap := 2) (by decide) (by decide) (by decide) (by decide)
  obtain ⟨ad2, g2⟩ : ∃ z, z = h0.size := ⟨_, rfl⟩
  rw [← g2] at A2 st2
  have lt_a1_ad2 : a1 < ad2 := Nat.lt_of_lt_of_eq E0.lt g2.symm
  have gn_ad2 : n0 ≤ ad2 := Nat.le_trans Z0 (Nat.le_of_eq g2.symm)
  have sz_ad2 : h0.size ≤ ad2 := Nat.le_trans (Keep.refl h0 [a1]).1 (Nat.le_of_eq g2.symm)
  have E_a1_2 : Exa Z h2 a1 "com/example/process_stepper/processstepper/equivalence/IntLists" := E0.ext E2
  have F_heads_a1_2 : Fld Z h2 a1 "com/example/process_stepper/processstepper/equivalence/IntLists" "heads" "[I" .null := F_heads.ext E2
  have F_sizes_a1_2 : Fld Z h2 a1 "com/example/process_stepper/processstepper/equivalence/IntLists" "sizes" "[I" .null := F_sizes.ext E2
  have F_next_a1_2 : Fld Z h2 a1 "com/example/process_stepper/processstepper/equivalence/IntLists" "next" "[I" .null := F_next.ext E2
  have F_previous_a1_2 : Fld Z h2 a1 "com/example/process_stepper/processstepper/equivalence/IntLists" "previous" "[I" .null := F_previous.ext E2
  have A_ad2_2 : own_arr Z h2 ad2 (2 : Int32) own_zero := own_arr_new A2 (by decide)
  have K2 : Keep h0 h2 [a1] := (Keep.refl h0 [a1]).ext E2
  have Zs2 : n0 ≤ h2.size := Nat.le_trans Z0 E2.1
  obtain ⟨T3, h3, X3, e3, W3, st3⟩ := putF X2 hx hZ hown (host := "") (Or.inl (own_w hw 12 rfl)) Via.refl e2 F_heads_a1_2 E_a1_2 (Or.inl (own_w hw 13 rfl)) (own_w hw 4 rfl) (ty := (.array .int)) (by decide) rfl rfl (g := (mkF m 8 #[.val (.ref a1), .val (.int (2 : Int32)), .val (.int (3 : Int32))] [(.ref ad2), (.ref a1)])) rfl rfl (hb hby d1_8)
  have E_a1_3 : Exa Z h3 a1 "com/example/process_stepper/processstepper/equivalence/IntLists" := E_a1_2.wr W3
  have F_sizes_a1_3 : Fld Z h3 a1 "com/example/process_stepper/processstepper/equivalence/IntLists" "sizes" "[I" .null := F_sizes_a1_2.other W3 (Or.inr (slot_ne (Or.inl (own_w hw 19 rfl)) (Or.inl (own_w hw 13 rfl)) (by decide) (t := (.array .int)) (t' := (.array .int)) (by decide) (by decide)))
  have F_next_a1_3 : Fld Z h3 a1 "com/example/process_stepper/processstepper/equivalence/IntLists" "next" "[I" .null := F_next_a1_2.other W3 (Or.inr (slot_ne (Or.inl (own_w hw 21 rfl)) (Or.inl (own_w hw 13 rfl)) (by decide) (t := (.array .int)) (t' := (.array .int)) (by decide) (by decide)))
  have F_previous_a1_3 : Fld Z h3 a1 "com/example/process_stepper/processstepper/equivalence/IntLists" "previous" "[I" .null := F_previous_a1_2.other W3 (Or.inr (slot_ne (Or.inl (own_w hw 23 rfl)) (Or.inl (own_w hw 13 rfl)) (by decide) (t := (.array .int)) (t' := (.array .int)) (by decide) (by decide)))
  have A_ad2_3 : own_arr Z h3 ad2 (2 : Int32) own_zero := own_arr_other A_ad2_2 W3 (Nat.ne_of_gt lt_a1_ad2)
  have F_heads_a1_3 : Fld Z h3 a1 "com/example/process_stepper/processstepper/equivalence/IntLists" "heads" "[I" (.ref ad2) := F_heads_a1_2.same W3
  have K3 : Keep h0 h3 [a1] := K2.wr W3 (Or.inl (List.mem_of_getElem? (i := 0) rfl))
  have N3 := Fr.snoc X3 N0 ga
  have Zs3 : n0 ≤ h3.size := by rw [W3.size]; exact Zs2
  obtain ⟨T4, X4, e4, st4⟩ := getF X3 hx hZ hown (host := "") (Or.inl (own_w hw 12 rfl)) Via.refl e3 F_heads_a1_3 (g := (mkF m 12 #[.val (.ref a1), .val (.int (2 : Int32)), .val (.int (3 : Int32))] [(.ref a1)])) rfl rfl (hb hby d1_12)
  obtain ⟨_, _, ⟨T5, L5, k5, n5⟩, -, X5, ⟨Lc5, hQ5, l5, y5, z5⟩, st5⟩ := Jvm.LawKit.callS X4 hx (y := own_m1) hown (mvT hZ (own_w hw 14 rfl)) (mvT hZ (own_w hw 15 rfl)) (mvT hZ (own_w hw 16 rfl)) (mvT hZ (own_w hw 17 rfl)) (by decide) (backOf (W := 0) (rm3 l Z a0 hw [] ad2 (-1 : Int32) own_zero h3 n0 Zs3 A_ad2_3 gn_ad2) hZ (own_w hw 17 rfl) (own_w hw 16 rfl) (by decide) (by decide)) (g := (mkF m 16 #[.val (.ref a1), .val (.int (2 : Int32)), .val (.int (3 : Int32))] [(.int (-1 : Int32)), (.ref ad2)])) rfl (by rw [hml]; rfl) (argsL := [(.ref ad2), (.int (-1 : Int32))]) (rest := []) (lenOf pd___II_V rfl) rfl (by show 2 * 0 + _ ≤ _; exact Nat.le_of_eq rfl) (hb hby d1_16) (fun _ _ => ⟨rfl, e4, (by decide : 1 + 0 ≤ _), (by decide : 2 + 0 ≤ _)⟩)
  dsimp only [Pt.U, Pt.locs, Pt.cells, Pt.slots] at X5 l5 y5 z5 st5 hQ5
  rw [l5, y5, z5] at X5
  obtain ⟨rfl, N5q, K5q, A5q⟩ := hQ5
  have N5 := Fr.app N3 N5q
  have E_a1_5 : Exa Z T5.heap a1 "com/example/process_stepper/processstepper/equivalence/IntLists" := E_a1_3.keep K5q
  have F_sizes_a1_5 : Fld Z T5.heap a1 "com/example/process_stepper/processstepper/equivalence/IntLists" "sizes" "[I" .null := F_sizes_a1_3.keep K5q (ninS (Nat.ne_of_lt lt_a1_ad2) nin0)
  have F_next_a1_5 : Fld Z T5.heap a1 "com/example/process_stepper/processstepper/equivalence/IntLists" "next" "[I" .null := F_next_a1_3.keep K5q (ninS (Nat.ne_of_lt lt_a1_ad2) nin0)
  have F_previous_a1_5 : Fld Z T5.heap a1 "com/example/process_stepper/processstepper/equivalence/IntLists" "previous" "[I" .null := F_previous_a1_3.keep K5q (ninS (Nat.ne_of_lt lt_a1_ad2) nin0)
  have F_heads_a1_5 : Fld Z T5.heap a1 "com/example/process_stepper/processstepper/equivalence/IntLists" "heads" "[I" (.ref ad2) := F_heads_a1_3.keep K5q (ninS (Nat.ne_of_lt lt_a1_ad2) nin0)
  have K5 : Keep h0 T5.heap [a1] := K3.trans K5q (allS (Or.inr sz_ad2) all0)
  have Zs5 : n0 ≤ T5.heap.size := Nat.le_trans Zs3 K5q.1
  obtain ⟨T6, h6, k6, X6, e6, E6, A6, st6⟩ := newP X5 hx hZ (own_w hw 1 rfl) rfl (g := (mkF m 21 #[.val (.ref a1), .val (.int (2 : Int32)), .val (.int (3 : Int32))] [(.int (2 : Int32)), (.ref a1)])) rfl (hb hby d1_21) rfl (by decide) (cap := 2) (by decide) (by decide) (by decide) (by decide)
  obtain ⟨ad6, g6⟩ : ∃ z, z = T5.heap.size := ⟨_, rfl⟩
  rw [← g6] at A6 st6
  have lt_a1_ad6 : a1 < ad6 := Nat.lt_of_lt_of_eq E_a1_5.lt g6.symm
  have lt_ad2_ad6 : ad2 < ad6 := Nat.lt_of_lt_of_eq (own_arr_lt A5q) g6.symm
  have gn_ad6 : n0 ≤ ad6 := Nat.le_trans Zs5 (Nat.le_of_eq g6.symm)
  have sz_ad6 : h0.size ≤ ad6 := Nat.le_trans K5.1 (Nat.le_of_eq g6.symm)
  have E_a1_6 : Exa Z h6 a1 "com/example/process_stepper/processstepper/equivalence/IntLists" := E_a1_5.ext E6
  have F_sizes_a1_6 : Fld Z h6 a1 "com/example/process_stepper/processstepper/equivalence/IntLists" "sizes" "[I" .null := F_sizes_a1_5.ext E6
  have F_next_a1_6 : Fld Z h6 a1 "com/example/process_stepper/processstepper/equivalence/IntLists" "next" "[I" .null := F_next_a1_5.ext E6
  have F_previous_a1_6 : Fld Z h6 a1 "com/example/process_stepper/processstepper/equivalence/IntLists" "previous" "[I" .null := F_previous_a1_5.ext E6
  have F_heads_a1_6 : Fld Z h6 a1 "com/example/process_stepper/processstepper/equivalence/IntLists" "heads" "[I" (.ref ad2) := F_heads_a1_5.ext E6
  have A_ad2_6 : own_arr Z h6 ad2 (2 : Int32) (own_upd (own_upd own_zero (0 : Int32) (-1 : Int32)) (1 : Int32) (-1 : Int32)) := own_arr_ext A5q E6
  have A_ad6_6 : own_arr Z h6 ad6 (2 : Int32) own_zero := own_arr_new A6 (by decide)
  have K6 : Keep h0 h6 [a1] := K5.ext E6
  have Zs6 : n0 ≤ h6.size := Nat.le_trans Zs5 E6.1
  obtain ⟨T7, h7, X7, e7, W7, st7⟩ := putF X6 hx hZ hown (host := "") (Or.inl (own_w hw 18 rfl)) Via.refl e6 F_sizes_a1_6 E_a1_6 (Or.inl (own_w hw 19 rfl)) (own_w hw 4 rfl) (ty := (.array .int)) (by decide) rfl rfl (g := (mkF m 23 #[.val (.ref a1), .val (.int (2 : Int32)), .val (.int (3 : Int32))] [(.ref ad6), (.ref a1)])) rfl rfl (hb hby d1_23)
  have E_a1_7 : Exa Z h7 a1 "com/example/process_stepper/processstepper/equivalence/IntLists" := E_a1_6.wr W7
  have F_next_a1_7 : Fld Z h7 a1 "com/example/process_stepper/processstepper/equivalence/IntLists" "next" "[I" .null := F_next_a1_6.other W7 (Or.inr (slot_ne (Or.inl (own_w hw 21 rfl)) (Or.inl (own_w hw 19 rfl)) (by decide) (t := (.array .int)) (t' := (.array .int)) (by decide) (by decide)))
  have F_previous_a1_7 : Fld Z h7 a1 "com/example/process_stepper/processstepper/equivalence/IntLists" "previous" "[I" .null := F_previous_a1_6.other W7 (Or.inr (slot_ne (Or.inl (own_w hw 23 rfl)) (Or.inl (own_w hw 19 rfl)) (by decide) (t := (.array .int)) (t' := (.array .int)) (by decide) (by decide)))
  have F_heads_a1_7 : Fld Z h7 a1 "com/example/process_stepper/processstepper/equivalence/IntLists" "heads" "[I" (.ref ad2) := F_heads_a1_6.other W7 (Or.inr (slot_ne (Or.inl (own_w hw 13 rfl)) (Or.inl (own_w hw 19 rfl)) (by decide) (t := (.array .int)) (t' := (.array .int)) (by decide) (by decide)))
  have A_ad2_7 : own_arr Z h7 ad2 (2 : Int32) (own_upd (own_upd own_zero (0 : Int32) (-1 : Int32)) (1 : Int32) (-1 : Int32)) := own_arr_other A_ad2_6 W7 (Nat.ne_of_gt lt_a1_ad2)
  have A_ad6_7 : own_arr Z h7 ad6 (2 : Int32) own_zero := own_arr_other A_ad6_6 W7 (Nat.ne_of_gt lt_a1_ad6)
  have F_sizes_a1_7 : Fld Z h7 a1 "com/example/process_stepper/processstepper/equivalence/IntLists" "sizes" "[I" (.ref ad6) := F_sizes_a1_6.same W7
  have K7 : Keep h0 h7 [a1] := K6.wr W7 (Or.inl (List.mem_of_getElem? (i := 0) rfl))
  have N7 := Fr.snoc X7 N5 ga
  have Zs7 : n0 ≤ h7.size := by rw [W7.size]; exact Zs6
  obtain ⟨T8, h8, k8, X8, e8, E8, A8, st8⟩ := newP X7 hx hZ (own_w hw 1 rfl) e7 (g := (mkF m 28 #[.val (.ref a1), .val (.int (2 : Int32)), .val (.int (3 : Int32))] [(.int (3 : Int32)), (.ref a1)])) rfl (hb hby d1_28) rfl (by decide) (cap := 3) (by decide) (by decide) (by decide) (by decide)
  obtain ⟨ad8, g8⟩ : ∃ z, z = h7.size := ⟨_, rfl⟩
  rw [← g8] at A8 st8
  have lt_a1_ad8 : a1 < ad8 := Nat.lt_of_lt_of_eq E_a1_7.lt g8.symm
  have lt_ad2_ad8 : ad2 < ad8 := Nat.lt_of_lt_of_eq (own_arr_lt A_ad2_7) g8.symm
  have lt_ad6_ad8 : ad6 < ad8 := Nat.lt_of_lt_of_eq (own_arr_lt A_ad6_7) g8.symm
  have gn_ad8 : n0 ≤ ad8 := Nat.le_trans Zs7 (Nat.le_of_eq g8.symm)
  have sz_ad8 : h0.size ≤ ad8 := Nat.le_trans K7.1 (Nat.le_of_eq g8.symm)
  have E_a1_8 : Exa Z h8 a1 "com/example/process_stepper/processstepper/equivalence/IntLists" := E_a1_7.ext E8
  have F_next_a1_8 : Fld Z h8 a1 "com/example/process_stepper/processstepper/equivalence/IntLists" "next" "[I" .null := F_next_a1_7.ext E8
  have F_previous_a1_8 : Fld Z h8 a1 "com/example/process_stepper/processstepper/equivalence/IntLists" "previous" "[I" .null := F_previous_a1_7.ext E8
  have F_heads_a1_8 : Fld Z h8 a1 "com/example/process_stepper/processstepper/equivalence/IntLists" "heads" "[I" (.ref ad2) := F_heads_a1_7.ext E8
  have A_ad2_8 : own_arr Z h8 ad2 (2 : Int32) (own_upd (own_upd own_zero (0 : Int32) (-1 : Int32)) (1 : Int32) (-1 : Int32)) := own_arr_ext A_ad2_7 E8
  have A_ad6_8 : own_arr Z h8 ad6 (2 : Int32) own_zero := own_arr_ext A_ad6_7 E8
  have F_sizes_a1_8 : Fld Z h8 a1 "com/example/process_stepper/processstepper/equivalence/IntLists" "sizes" "[I" (.ref ad6) := F_sizes_a1_7.ext E8
  have A_ad8_8 : own_arr Z h8 ad8 (3 : Int32) own_zero := own_arr_new A8 (by decide)
  have K8 : Keep h0 h8 [a1] := K7.ext E8
  have Zs8 : n0 ≤ h8.size := Nat.le_trans Zs7 E8.1
  obtain ⟨T9, h9, X9, e9, W9, st9⟩ := putF X8 hx hZ hown (host := "") (Or.inl (own_w hw 20 rfl)) Via.refl e8 F_next_a1_8 E_a1_8 (Or.inl (own_w hw 21 rfl)) (own_w hw 4 rfl) (ty := (.array .int)) (by decide) rfl rfl (g := (mkF m 30 #[.val (.ref a1), .val (.int (2 : Int32)), .val (.int (3 : Int32))] [(.ref ad8), (.ref a1)])) rfl rfl (hb hby d1_30)
  have E_a1_9 : Exa Z h9 a1 "com/example/process_stepper/processstepper/equivalence/IntLists" := E_a1_8.wr W9
  have F_previous_a1_9 : Fld Z h9 a1 "com/example/process_stepper/processstepper/equivalence/IntLists" "previous" "[I" .null := F_previous_a1_8.other W9 (Or.inr (slot_ne (Or.inl (own_w hw 23 rfl)) (Or.inl (own_w hw 21 rfl)) (by decide) (t := (.array .int)) (t' := (.array .int)) (by decide) (by decide)))
  have F_heads_a1_9 : Fld Z h9 a1 "com/example/process_stepper/processstepper/equivalence/IntLists" "heads" "[I" (.ref ad2) := F_heads_a1_8.other W9 (Or.inr (slot_ne (Or.inl (own_w hw 13 rfl)) (Or.inl (own_w hw 21 rfl)) (by decide) (t := (.array .int)) (t' := (.array .int)) (by decide) (by decide)))
  have A_ad2_9 : own_arr Z h9 ad2 (2 : Int32) (own_upd (own_upd own_zero (0 : Int32) (-1 : Int32)) (1 : Int32) (-1 : Int32)) := own_arr_other A_ad2_8 W9 (Nat.ne_of_gt lt_a1_ad2)
  have A_ad6_9 : own_arr Z h9 ad6 (2 : Int32) own_zero := own_arr_other A_ad6_8 W9 (Nat.ne_of_gt lt_a1_ad6)
  have F_sizes_a1_9 : Fld Z h9 a1 "com/example/process_stepper/processstepper/equivalence/IntLists" "sizes" "[I" (.ref ad6) := F_sizes_a1_8.other W9 (Or.inr (slot_ne (Or.inl (own_w hw 19 rfl)) (Or.inl (own_w hw 21 rfl)) (by decide) (t := (.array .int)) (t' := (.array .int)) (by decide) (by decide)))
  have A_ad8_9 : own_arr Z h9 ad8 (3 : Int32) own_zero := own_arr_other A_ad8_8 W9 (Nat.ne_of_gt lt_a1_ad8)
  have F_next_a1_9 : Fld Z h9 a1 "com/example/process_stepper/processstepper/equivalence/IntLists" "next" "[I" (.ref ad8) := F_next_a1_8.same W9
  have K9 : Keep h0 h9 [a1] := K8.wr W9 (Or.inl (List.mem_of_getElem? (i := 0) rfl))
  have N9 := Fr.snoc X9 N7 ga
  have Zs9 : n0 ≤ h9.size := by rw [W9.size]; exact Zs8
  obtain ⟨T10, h10, k10, X10, e10, E10, A10, st10⟩ := newP X9 hx hZ (own_w hw 1 rfl) e9 (g := (mkF m 35 #[.val (.ref a1), .val (.int (2 : Int32)), .val (.int (3 : Int32))] [(.int (3 : Int32)), (.ref a1)])) rfl (hb hby d1_35) rfl (by decide) (cap := 3) (by decide) (by decide) (by decide) (by decide)
  obtain ⟨ad10, g10⟩ : ∃ z, z = h9.size := ⟨_, rfl⟩
  rw [← g10] at A10 st10
  have lt_a1_ad10 : a1 < ad10 := Nat.lt_of_lt_of_eq E_a1_9.lt g10.symm
  have lt_ad2_ad10 : ad2 < ad10 := Nat.lt_of_lt_of_eq (own_arr_lt A_ad2_9) g10.symm
  have lt_ad6_ad10 : ad6 < ad10 := Nat.lt_of_lt_of_eq (own_arr_lt A_ad6_9) g10.symm
  have lt_ad8_ad10 : ad8 < ad10 := Nat.lt_of_lt_of_eq (own_arr_lt A_ad8_9) g10.symm
  have gn_ad10 : n0 ≤ ad10 := Nat.le_trans Zs9 (Nat.le_of_eq g10.symm)
  have sz_ad10 : h0.size ≤ ad10 := Nat.le_trans K9.1 (Nat.le_of_eq g10.symm)
  have E_a1_10 : Exa Z h10 a1 "com/example/process_stepper/processstepper/equivalence/IntLists" := E_a1_9.ext E10
  have F_previous_a1_10 : Fld Z h10 a1 "com/example/process_stepper/processstepper/equivalence/IntLists" "previous" "[I" .null := F_previous_a1_9.ext E10
  have F_heads_a1_10 : Fld Z h10 a1 "com/example/process_stepper/processstepper/equivalence/IntLists" "heads" "[I" (.ref ad2) := F_heads_a1_9.ext E10
  have A_ad2_10 : own_arr Z h10 ad2 (2 : Int32) (own_upd (own_upd own_zero (0 : Int32) (-1 : Int32)) (1 : Int32) (-1 : Int32)) := own_arr_ext A_ad2_9 E10
  have A_ad6_10 : own_arr Z h10 ad6 (2 : Int32) own_zero := own_arr_ext A_ad6_9 E10
  have F_sizes_a1_10 : Fld Z h10 a1 "com/example/process_stepper/processstepper/equivalence/IntLists" "sizes" "[I" (.ref ad6) := F_sizes_a1_9.ext E10
  have A_ad8_10 : own_arr Z h10 ad8 (3 : Int32) own_zero := own_arr_ext A_ad8_9 E10
  have F_next_a1_10 : Fld Z h10 a1 "com/example/process_stepper/processstepper/equivalence/IntLists" "next" "[I" (.ref ad8) := F_next_a1_9.ext E10
  have A_ad10_10 : own_arr Z h10 ad10 (3 : Int32) own_zero := own_arr_new A10 (by decide)
  have K10 : Keep h0 h10 [a1] := K9.ext E10
  have Zs10 : n0 ≤ h10.size := Nat.le_trans Zs9 E10.1
  obtain ⟨T11, h11, X11, e11, W11, st11⟩ := putF X10 hx hZ hown (host := "") (Or.inl (own_w hw 22 rfl)) Via.refl e10 F_previous_a1_10 E_a1_10 (Or.inl (own_w hw 23 rfl)) (own_w hw 4 rfl) (ty := (.array .int)) (by decide) rfl rfl (g := (mkF m 37 #[.val (.ref a1), .val (.int (2 : Int32)), .val (.int (3 : Int32))] [(.ref ad10), (.ref a1)])) rfl rfl (hb hby d1_37)
  have E_a1_11 : Exa Z h11 a1 "com/example/process_stepper/processstepper/equivalence/IntLists" := E_a1_10.wr W11
  have F_heads_a1_11 : Fld Z h11 a1 "com/example/process_stepper/processstepper/equivalence/IntLists" "heads" "[I" (.ref ad2) := F_heads_a1_10.other W11 (Or.inr (slot_ne (Or.inl (own_w hw 13 rfl)) (Or.inl (own_w hw 23 rfl)) (by decide) (t := (.array .int)) (t' := (.array .int)) (by decide) (by decide)))
  have A_ad2_11 : own_arr Z h11 ad2 (2 : Int32) (own_upd (own_upd own_zero (0 : Int32) (-1 : Int32)) (1 : Int32) (-1 : Int32)) := own_arr_other A_ad2_10 W11 (Nat.ne_of_gt lt_a1_ad2)
  have A_ad6_11 : own_arr Z h11 ad6 (2 : Int32) own_zero := own_arr_other A_ad6_10 W11 (Nat.ne_of_gt lt_a1_ad6)
  have F_sizes_a1_11 : Fld Z h11 a1 "com/example/process_stepper/processstepper/equivalence/IntLists" "sizes" "[I" (.ref ad6) := F_sizes_a1_10.other W11 (Or.inr (slot_ne (Or.inl (own_w hw 19 rfl)) (Or.inl (own_w hw 23 rfl)) (by decide) (t := (.array .int)) (t' := (.array .int)) (by decide) (by decide)))
  have A_ad8_11 : own_arr Z h11 ad8 (3 : Int32) own_zero := own_arr_other A_ad8_10 W11 (Nat.ne_of_gt lt_a1_ad8)
  have F_next_a1_11 : Fld Z h11 a1 "com/example/process_stepper/processstepper/equivalence/IntLists" "next" "[I" (.ref ad8) := F_next_a1_10.other W11 (Or.inr (slot_ne (Or.inl (own_w hw 21 rfl)) (Or.inl (own_w hw 23 rfl)) (by decide) (t := (.array .int)) (t' := (.array .int)) (by decide) (by decide)))
  have A_ad10_11 : own_arr Z h11 ad10 (3 : Int32) own_zero := own_arr_other A_ad10_10 W11 (Nat.ne_of_gt lt_a1_ad10)
  have F_previous_a1_11 : Fld Z h11 a1 "com/example/process_stepper/processstepper/equivalence/IntLists" "previous" "[I" (.ref ad10) := F_previous_a1_10.same W11
  have K11 : Keep h0 h11 [a1] := K10.wr W11 (Or.inl (List.mem_of_getElem? (i := 0) rfl))
  have N11 := Fr.snoc X11 N9 ga
  have Zs11 : n0 ≤ h11.size := by rw [W11.size]; exact Zs10
  obtain ⟨fs, hr, hrun, hended, hW, hsame⟩ := X11.leave (v := none) (fun _ => rfl)
  refine ⟨_, _, pre0 _ ?_, hrun, hended, _, _, rfl, ?_, ⟨_, rfl⟩, hW, hsame.mono (by decide) (by decide)⟩
  · show Steps p.tables e below (s₁.setTop (mkF m 0 #[.val (.ref a1), .val (.int (2 : Int32)), .val (.int (3 : Int32))] [])) _
    refine XS.aloadN X0.here hx rfl (hb hby d1_0) rfl rfl ?_
    show Steps p.tables e below (s₁.setTop (mkF m 1 #[.val (.ref a1), .val (.int (2 : Int32)), .val (.int (3 : Int32))] [(.ref a1)])) _
    refine st1 _ ?_
    show Steps p.tables e below (T1.setTop (mkF m 4 #[.val (.ref a1), .val (.int (2 : Int32)), .val (.int (3 : Int32))] [])) _
    refine XS.aloadN X1.here hx rfl (hb hby d1_4) rfl rfl ?_
    refine XS.iloadN X1.here hx rfl (hb hby d1_5) rfl ?_
    show Steps p.tables e below (T1.setTop (mkF m 6 #[.val (.ref a1), .val (.int (2 : Int32)), .val (.int (3 : Int32))] [(.int (2 : Int32)), (.ref a1)])) _
    refine st2 _ ?_
    show Steps p.tables e below (T2.setTop (mkF m 8 #[.val (.ref a1), .val (.int (2 : Int32)), .val (.int (3 : Int32))] [(.ref ad2), (.ref a1)])) _
    refine st3 _ ?_
    show Steps p.tables e below (T3.setTop (mkF m 11 #[.val (.ref a1), .val (.int (2 : Int32)), .val (.int (3 : Int32))] [])) _
    refine XS.aloadN X3.here hx rfl (hb hby d1_11) rfl rfl ?_
    show Steps p.tables e below (T3.setTop (mkF m 12 #[.val (.ref a1), .val (.int (2 : Int32)), .val (.int (3 : Int32))] [(.ref a1)])) _
    refine st4 _ ?_
    show Steps p.tables e below (T4.setTop (mkF m 15 #[.val (.ref a1), .val (.int (2 : Int32)), .val (.int (3 : Int32))] [(.ref ad2)])) _
    refine XS.iconst X4.here hx rfl (hb hby d1_15) ?_
    show Steps p.tables e below (T4.setTop (mkF m 16 #[.val (.ref a1), .val (.int (2 : Int32)), .val (.int (3 : Int32))] [(.int (-1 : Int32)), (.ref ad2)])) _
    refine st5 _ ?_
    show Steps p.tables e below (T5.setTop (mkF m 19 #[.val (.ref a1), .val (.int (2 : Int32)), .val (.int (3 : Int32))] [])) _
    refine XS.aloadN X5.here hx rfl (hb hby d1_19) rfl rfl ?_
    refine XS.iloadN X5.here hx rfl (hb hby d1_20) rfl ?_
    show Steps p.tables e below (T5.setTop (mkF m 21 #[.val (.ref a1), .val (.int (2 : Int32)), .val (.int (3 : Int32))] [(.int (2 : Int32)), (.ref a1)])) _
    refine st6 _ ?_
    show Steps p.tables e below (T6.setTop (mkF m 23 #[.val (.ref a1), .val (.int (2 : Int32)), .val (.int (3 : Int32))] [(.ref ad6), (.ref a1)])) _
    refine st7 _ ?_
    show Steps p.tables e below (T7.setTop (mkF m 26 #[.val (.ref a1), .val (.int (2 : Int32)), .val (.int (3 : Int32))] [])) _
    refine XS.aloadN X7.here hx rfl (hb hby d1_26) rfl rfl ?_
    refine XS.iloadN X7.here hx rfl (hb hby d1_27) rfl ?_
    show Steps p.tables e below (T7.setTop (mkF m 28 #[.val (.ref a1), .val (.int (2 : Int32)), .val (.int (3 : Int32))] [(.int (3 : Int32)), (.ref a1)])) _
    refine st8 _ ?_
    show Steps p.tables e below (T8.setTop (mkF m 30 #[.val (.ref a1), .val (.int (2 : Int32)), .val (.int (3 : Int32))] [(.ref ad8), (.ref a1)])) _
    refine st9 _ ?_
    show Steps p.tables e below (T9.setTop (mkF m 33 #[.val (.ref a1), .val (.int (2 : Int32)), .val (.int (3 : Int32))] [])) _
    refine XS.aloadN X9.here hx rfl (hb hby d1_33) rfl rfl ?_
    refine XS.iloadN X9.here hx rfl (hb hby d1_34) rfl ?_
    show Steps p.tables e below (T9.setTop (mkF m 35 #[.val (.ref a1), .val (.int (2 : Int32)), .val (.int (3 : Int32))] [(.int (3 : Int32)), (.ref a1)])) _
    refine st10 _ ?_
    show Steps p.tables e below (T10.setTop (mkF m 37 #[.val (.ref a1), .val (.int (2 : Int32)), .val (.int (3 : Int32))] [(.ref ad10), (.ref a1)])) _
    refine st11 _ ?_
    show Steps p.tables e below (T11.setTop (mkF m 40 #[.val (.ref a1), .val (.int (2 : Int32)), .val (.int (3 : Int32))] [])) _
    exact X11.returnOut hx Bd.returns (hb hby d1_40) hr
  · show Q1 Z a1 h0 n0 _ T11.heap _
    rw [e11]
    exact ⟨rfl, N11, ad2, ad6, ad8, ad10, K11, sz_ad2, ⟨E_a1_11, ⟨F_heads_a1_11, F_sizes_a1_11, F_next_a1_11, F_previous_a1_11⟩, ⟨A_ad2_11, A_ad6_11, A_ad8_11, A_ad10_11⟩, ⟨lt_a1_ad2, lt_ad2_ad6, lt_ad6_ad8, lt_ad8_ad10⟩, gn_ad2⟩⟩
def own_last1 (f g : Int32 → Int32) (a w : Int32) : Int32 := if (1 : Int32) < w ∧ f 1 = a ∧ ¬ (g 1 = (0 : Int32)) then 1 else if (0 : Int32) < w ∧ f 0 = a ∧ ¬ (g 0 = (0 : Int32)) then 0 else -1
def own_last0 (f g : Int32 → Int32) (a w : Int32) : Int32 := if (0 : Int32) < w ∧ f 0 = a ∧ ¬ (g 0 = (0 : Int32)) then 0 else -1
def own_c0 (f g : Int32 → Int32) (a : Int32) : Int32 := if f 0 = a ∧ ¬ (g 0 = (0 : Int32)) then 1 else 0
def own_c1 (f g : Int32 → Int32) (a : Int32) : Int32 := if f 1 = a ∧ ¬ (g 1 = (0 : Int32)) then 1 else 0
def own_c2 (f g : Int32 → Int32) (a : Int32) : Int32 := if f 2 = a ∧ ¬ (g 2 = (0 : Int32)) then 1 else 0
def own_cnt (f g : Int32 → Int32) (a : Int32) : Int32 := own_c0 f g a + own_c1 f g a + own_c2 f g a
theorem dL_0 : decode method_2_code 0 = .ok (.iload_n 3, 1) := by decide +kernel
theorem dL_1 : decode method_2_code 1 = .ok (.iconst 2, 1) := by decide +kernel
theorem dL_2 : decode method_2_code 2 = .ok (.if_icmp .le 18, 3) := by decide +kernel
theorem dL_5 : decode method_2_code 5 = .ok (.aload_n 0, 1) := by decide +kernel
theorem dL_6 : decode method_2_code 6 = .ok (.iconst 2, 1) := by decide +kernel
theorem dL_7 : decode method_2_code 7 = .ok (.iaload, 1) := by decide +kernel
theorem dL_8 : decode method_2_code 8 = .ok (.iload_n 2, 1) := by decide +kernel
theorem dL_9 : decode method_2_code 9 = .ok (.if_icmp .ne 11, 3) := by decide +kernel
theorem dL_12 : decode method_2_code 12 = .ok (.aload_n 1, 1) := by decide +kernel
theorem dL_13 : decode method_2_code 13 = .ok (.iconst 2, 1) := by decide +kernel
theorem dL_14 : decode method_2_code 14 = .ok (.baload, 1) := by decide +kernel
theorem dL_15 : decode method_2_code 15 = .ok (.ifCond .eq 5, 3) := by decide +kernel
theorem dL_18 : decode method_2_code 18 = .ok (.iconst 2, 1) := by decide +kernel
theorem dL_19 : decode method_2_code 19 = .ok (.ireturn, 1) := by decide +kernel
theorem dL_20 : decode method_2_code 20 = .ok (.iload_n 3, 1) := by decide +kernel
theorem dL_21 : decode method_2_code 21 = .ok (.iconst 1, 1) := by decide +kernel
theorem dL_22 : decode method_2_code 22 = .ok (.if_icmp .le 18, 3) := by decide +kernel
theorem dL_25 : decode method_2_code 25 = .ok (.aload_n 0, 1) := by decide +kernel
theorem dL_26 : decode method_2_code 26 = .ok (.iconst 1, 1) := by decide +kernel
theorem dL_27 : decode method_2_code 27 = .ok (.iaload, 1) := by decide +kernel
theorem dL_28 : decode method_2_code 28 = .ok (.iload_n 2, 1) := by decide +kernel
theorem dL_29 : decode method_2_code 29 = .ok (.if_icmp .ne 11, 3) := by decide +kernel
theorem dL_32 : decode method_2_code 32 = .ok (.aload_n 1, 1) := by decide +kernel
theorem dL_33 : decode method_2_code 33 = .ok (.iconst 1, 1) := by decide +kernel
theorem dL_34 : decode method_2_code 34 = .ok (.baload, 1) := by decide +kernel
theorem dL_35 : decode method_2_code 35 = .ok (.ifCond .eq 5, 3) := by decide +kernel
theorem dL_38 : decode method_2_code 38 = .ok (.iconst 1, 1) := by decide +kernel
theorem dL_39 : decode method_2_code 39 = .ok (.ireturn, 1) := by decide +kernel
theorem dL_40 : decode method_2_code 40 = .ok (.iload_n 3, 1) := by decide +kernel
theorem dL_41 : decode method_2_code 41 = .ok (.ifCond .le 18, 3) := by decide +kernel
theorem dL_44 : decode method_2_code 44 = .ok (.aload_n 0, 1) := by decide +kernel
theorem dL_45 : decode method_2_code 45 = .ok (.iconst 0, 1) := by decide +kernel
theorem dL_46 : decode method_2_code 46 = .ok (.iaload, 1) := by decide +kernel
theorem dL_47 : decode method_2_code 47 = .ok (.iload_n 2, 1) := by decide +kernel
theorem dL_48 : decode method_2_code 48 = .ok (.if_icmp .ne 11, 3) := by decide +kernel
theorem dL_51 : decode method_2_code 51 = .ok (.aload_n 1, 1) := by decide +kernel
theorem dL_52 : decode method_2_code 52 = .ok (.iconst 0, 1) := by decide +kernel
theorem dL_53 : decode method_2_code 53 = .ok (.baload, 1) := by decide +kernel
theorem dL_54 : decode method_2_code 54 = .ok (.ifCond .eq 5, 3) := by decide +kernel
theorem dL_57 : decode method_2_code 57 = .ok (.iconst 0, 1) := by decide +kernel
theorem dL_58 : decode method_2_code 58 = .ok (.ireturn, 1) := by decide +kernel
theorem dL_59 : decode method_2_code 59 = .ok (.iconst (-1), 1) := by decide +kernel
theorem dL_60 : decode method_2_code 60 = .ok (.ireturn, 1) := by decide +kernel
theorem pn_L : plainName "com/example/process_stepper/processstepper/equivalence/IntListsPushPinLaw" = true := by first | (simp [plainName, overriddenIn]; done) | decide +kernel
theorem ef_L (m : MethodId) (a1 : Addr) (a2 : Addr) (p3 : Int32) (p4 : Int32) : entryFrame m #[(.ref a1), (.ref a2), (.int p3), (.int p4)] 4 = mkF m 0 #[.val (.ref a1), .val (.ref a2), .val (.int p3), .val (.int p4)] [] := by first | (simp [entryFrame, mkF, argsToLocals, Value.category]; done) | rfl
def QL (Z : State) (a1 a2 : Addr) (p3 p4 : Int32) (f g : Int32 → Int32) (h0 : Heap) (n0 : Nat) (v : Option Value) (h : Heap) (L : List Loc) : Prop := v = some (.int (own_last f g p3 p4)) ∧ Fr n0 L ∧ h = h0
set_option maxRecDepth 65536 in
set_option maxHeartbeats 40000000 in
theorem rmL (l : Launch) (Z : State) (a0 : Array Value) (hw : ∀ d ∈ tables_1, d.before a0 Z = true) (ws : List Jvm.Cond) (a1 a2 : Addr) (p3 p4 : Int32) (f g : Int32 → Int32) (h0 : Heap) (n0 : Nat) (Z0 : n0 ≤ h0.size) (A1 : own_arr Z h0 a1 (3 : Int32) f) (A2 : own_arz Z h0 a2 (3 : Int32) g) :
    MetFree l (⟨"com/example/process_stepper/processstepper/equivalence/IntListsPushPinLaw", "last", "([I[ZII)I"⟩ : MethodName) (head1 (Jvm.Cond.code (⟨"com/example/process_stepper/processstepper/equivalence/IntListsPushPinLaw", "last", "([I[ZII)I"⟩ : MethodName) method_2_code 4 (some .int) :: ws) ({ frames := 0, cells := 0, slots := 0, locals := 0 } : Room)) (fun a U => a = #[(.ref a1), (.ref a2), (.int p3), (.int p4)] ∧ Z.Warmed39 U.vm ∧ U.heap = h0) (fun _ _ _ _ _ => True) (fun _ U o U' => ∃ v L, o = .returned v ∧ QL Z a1 a2 p3 p4 f g h0 n0 v U'.heap L ∧ FrameEnd U o U' L ({ frames := 0, cells := 0, slots := 0, locals := 0 } : Room).cells ({ frames := 0, cells := 0, slots := 0, locals := 0 } : Room).slots) := by
  refine MetFree.of_bodySF (plainFor_of_name pn_L) hisR ?_
  intro p e s m args below meth c s₁ Bd hml0 hP hK
  obtain ⟨rfl, hZ, hh⟩ := hP
  have hx := Bd.exec
  have hby := Bd.bytes
  have hml : c.maxLocals = 4 := hml0
  have hown : s.vm.findClass "com/example/process_stepper/processstepper/equivalence/IntListsPushPinLaw" = some m.cls := findClass_of_methodNamed Bd.named
  have hnm := (name_of_methodNamed Bd.named Bd.method).1
  have X0 : Stand p l e ({ frames := 0, cells := 0, slots := 0, locals := 0 } : Room) s m #[(.ref a1), (.ref a2), (.int p3), (.int p4)] below meth c s₁ [] 0 0 := Stand.of_body Bd
  have e0 : s₁.heap = h0 := by rw [← hh, Bd.state]; rfl
  have N0 := Fr.nil n0
  have pre0 : ∀ t, Steps p.tables e below (s₁.setTop (mkF m 0 #[.val (.ref a1), .val (.ref a2), .val (.int p3), .val (.int p4)] [])) t → Steps p.tables e below (s₁.setTop (entryFrame m #[(.ref a1), (.ref a2), (.int p3), (.int p4)] 4)) t := fun t k => castTop (ef_L m a1 a2 p3 p4) k
  obtain ⟨fs, hr, hrun, hended, hW, hsame⟩ := X0.leave (v := some (.int (own_last f g p3 p4))) (fun h => by rw [Bd.returns] at h; cases h)
  have J59 : own_last f g p3 p4 = -1 → Steps p.tables e below (s₁.setTop (mkF m 59 #[.val (.ref a1), .val (.ref a2), .val (.int p3), .val (.int p4)] [])) (s₁.setFrames fs) := by
    intro hJ
    show Steps p.tables e below (s₁.setTop (mkF m 59 #[.val (.ref a1), .val (.ref a2), .val (.int p3), .val (.int p4)] [])) _
    refine XS.iconst X0.here hx rfl (hb hby dL_59) ?_
    show Steps p.tables e below (s₁.setTop (mkF m 60 #[.val (.ref a1), .val (.ref a2), .val (.int p3), .val (.int p4)] [(.int (-1 : Int32))])) _
    refine own_ret (z := own_last f g p3 p4) (by first | exact hJ | (rw [hJ]; simp [own_last, own_last1, own_last0])) ?_
    exact retI X0 hx Bd.returns (hb hby dL_60) hr
  have J40 : own_last f g p3 p4 = own_last0 f g p3 p4 → Steps p.tables e below (s₁.setTop (mkF m 40 #[.val (.ref a1), .val (.ref a2), .val (.int p3), .val (.int p4)] [])) (s₁.setFrames fs) := by
    intro hJ
    show Steps p.tables e below (s₁.setTop (mkF m 40 #[.val (.ref a1), .val (.ref a2), .val (.int p3), .val (.int p4)] [])) _
    refine XS.iloadN X0.here hx rfl (hb hby dL_40) rfl ?_
    show Steps p.tables e below (s₁.setTop (mkF m 41 #[.val (.ref a1), .val (.ref a2), .val (.int p3), .val (.int p4)] [(.int p4)])) _
    by_cases hc41 : (0 : Int32) < p4
    · refine XS.ifNo X0.here hx rfl (hb hby dL_41) rfl ((if0 _ _).trans (tlt hc41).2.2.2) ?_
      show Steps p.tables e below (s₁.setTop (mkF m 44 #[.val (.ref a1), .val (.ref a2), .val (.int p3), .val (.int p4)] [])) _
      refine XS.aloadN X0.here hx rfl (hb hby dL_44) rfl rfl ?_
      refine XS.iconst X0.here hx rfl (hb hby dL_45) ?_
      show Steps p.tables e below (s₁.setTop (mkF m 46 #[.val (.ref a1), .val (.ref a2), .val (.int p3), .val (.int p4)] [(.int (0 : Int32)), (.ref a1)])) _
      refine own_ld X0 hx hZ e0 A1 (by decide) (by decide) (g := (mkF m 46 #[.val (.ref a1), .val (.ref a2), .val (.int p3), .val (.int p4)] [(.int (0 : Int32)), (.ref a1)])) rfl rfl (hb hby dL_46) _ ?_
      show Steps p.tables e below (s₁.setTop (mkF m 47 #[.val (.ref a1), .val (.ref a2), .val (.int p3), .val (.int p4)] [(.int (f (0 : Int32)))])) _
      refine XS.iloadN X0.here hx rfl (hb hby dL_47) rfl ?_
      show Steps p.tables e below (s₁.setTop (mkF m 48 #[.val (.ref a1), .val (.ref a2), .val (.int p3), .val (.int p4)] [(.int p3), (.int (f (0 : Int32)))])) _
      by_cases hc48 : (f (0 : Int32)) = p3
      · refine XS.icmpNo X0.here hx rfl (hb hby dL_48) rfl (teq hc48).2 ?_
        show Steps p.tables e below (s₁.setTop (mkF m 51 #[.val (.ref a1), .val (.ref a2), .val (.int p3), .val (.int p4)] [])) _
        refine XS.aloadN X0.here hx rfl (hb hby dL_51) rfl rfl ?_
        refine XS.iconst X0.here hx rfl (hb hby dL_52) ?_
        show Steps p.tables e below (s₁.setTop (mkF m 53 #[.val (.ref a1), .val (.ref a2), .val (.int p3), .val (.int p4)] [(.int (0 : Int32)), (.ref a2)])) _
        refine own_ldz X0 hx hZ e0 A2 (by decide) (by decide) (g := (mkF m 53 #[.val (.ref a1), .val (.ref a2), .val (.int p3), .val (.int p4)] [(.int (0 : Int32)), (.ref a2)])) rfl rfl (hb hby dL_53) _ ?_
        show Steps p.tables e below (s₁.setTop (mkF m 54 #[.val (.ref a1), .val (.ref a2), .val (.int p3), .val (.int p4)] [(.int (g (0 : Int32)))])) _
        by_cases hc54 : (g (0 : Int32)) = (0 : Int32)
        · refine XS.ifYes X0.here hx rfl (pc0 := 54) (pc' := 59) rfl (hb hby dL_54) rfl ((if0 _ _).trans (teq hc54).1) (by decide) (by decide) ?_
          exact J59 (by first | exact hJ | (rw [hJ]; simp [own_last, own_last1, own_last0, hc41, hc48, hc54]))
        · refine XS.ifNo X0.here hx rfl (hb hby dL_54) rfl ((if0 _ _).trans (feq hc54).1) ?_
          show Steps p.tables e below (s₁.setTop (mkF m 57 #[.val (.ref a1), .val (.ref a2), .val (.int p3), .val (.int p4)] [])) _
          refine XS.iconst X0.here hx rfl (hb hby dL_57) ?_
          show Steps p.tables e below (s₁.setTop (mkF m 58 #[.val (.ref a1), .val (.ref a2), .val (.int p3), .val (.int p4)] [(.int (0 : Int32))])) _
          refine own_ret (z := own_last f g p3 p4) (by first | exact hJ | (rw [hJ]; simp [own_last, own_last1, own_last0, hc41, hc48, hc54])) ?_
          exact retI X0 hx Bd.returns (hb hby dL_58) hr
      · refine XS.icmpYes X0.here hx rfl (pc0 := 48) (pc' := 59) rfl (hb hby dL_48) rfl (feq hc48).2 (by decide) (by decide) ?_
        exact J59 (by first | exact hJ | (rw [hJ]; simp [own_last, own_last1, own_last0, hc41, hc48]))
    · refine XS.ifYes X0.here hx rfl (pc0 := 41) (pc' := 59) rfl (hb hby dL_41) rfl ((if0 _ _).trans (flt hc41).2.2.2) (by decide) (by decide) ?_
      exact J59 (by first | exact hJ | (rw [hJ]; simp [own_last, own_last1, own_last0, hc41]))
  have J20 : own_last f g p3 p4 = own_last1 f g p3 p4 → Steps p.tables e below (s₁.setTop (mkF m 20 #[.val (.ref a1), .val (.ref a2), .val (.int p3), .val (.int p4)] [])) (s₁.setFrames fs) := by
    intro hJ
    show Steps p.tables e below (s₁.setTop (mkF m 20 #[.val (.ref a1), .val (.ref a2), .val (.int p3), .val (.int p4)] [])) _
    refine XS.iloadN X0.here hx rfl (hb hby dL_20) rfl ?_
    refine XS.iconst X0.here hx rfl (hb hby dL_21) ?_
    show Steps p.tables e below (s₁.setTop (mkF m 22 #[.val (.ref a1), .val (.ref a2), .val (.int p3), .val (.int p4)] [(.int (1 : Int32)), (.int p4)])) _
    by_cases hc22 : (1 : Int32) < p4
    · refine XS.icmpNo X0.here hx rfl (hb hby dL_22) rfl (tlt hc22).2.2.2 ?_
      show Steps p.tables e below (s₁.setTop (mkF m 25 #[.val (.ref a1), .val (.ref a2), .val (.int p3), .val (.int p4)] [])) _
      refine XS.aloadN X0.here hx rfl (hb hby dL_25) rfl rfl ?_
      refine XS.iconst X0.here hx rfl (hb hby dL_26) ?_
      show Steps p.tables e below (s₁.setTop (mkF m 27 #[.val (.ref a1), .val (.ref a2), .val (.int p3), .val (.int p4)] [(.int (1 : Int32)), (.ref a1)])) _
      refine own_ld X0 hx hZ e0 A1 (by decide) (by decide) (g := (mkF m 27 #[.val (.ref a1), .val (.ref a2), .val (.int p3), .val (.int p4)] [(.int (1 : Int32)), (.ref a1)])) rfl rfl (hb hby dL_27) _ ?_
      show Steps p.tables e below (s₁.setTop (mkF m 28 #[.val (.ref a1), .val (.ref a2), .val (.int p3), .val (.int p4)] [(.int (f (1 : Int32)))])) _
      refine XS.iloadN X0.here hx rfl (hb hby dL_28) rfl ?_
      show Steps p.tables e below (s₁.setTop (mkF m 29 #[.val (.ref a1), .val (.ref a2), .val (.int p3), .val (.int p4)] [(.int p3), (.int (f (1 : Int32)))])) _
      by_cases hc29 : (f (1 : Int32)) = p3
      · refine XS.icmpNo X0.here hx rfl (hb hby dL_29) rfl (teq hc29).2 ?_
        show Steps p.tables e below (s₁.setTop (mkF m 32 #[.val (.ref a1), .val (.ref a2), .val (.int p3), .val (.int p4)] [])) _
        refine XS.aloadN X0.here hx rfl (hb hby dL_32) rfl rfl ?_
        refine XS.iconst X0.here hx rfl (hb hby dL_33) ?_
        show Steps p.tables e below (s₁.setTop (mkF m 34 #[.val (.ref a1), .val (.ref a2), .val (.int p3), .val (.int p4)] [(.int (1 : Int32)), (.ref a2)])) _
        refine own_ldz X0 hx hZ e0 A2 (by decide) (by decide) (g := (mkF m 34 #[.val (.ref a1), .val (.ref a2), .val (.int p3), .val (.int p4)] [(.int (1 : Int32)), (.ref a2)])) rfl rfl (hb hby dL_34) _ ?_
        show Steps p.tables e below (s₁.setTop (mkF m 35 #[.val (.ref a1), .val (.ref a2), .val (.int p3), .val (.int p4)] [(.int (g (1 : Int32)))])) _
        by_cases hc35 : (g (1 : Int32)) = (0 : Int32)
        · refine XS.ifYes X0.here hx rfl (pc0 := 35) (pc' := 40) rfl (hb hby dL_35) rfl ((if0 _ _).trans (teq hc35).1) (by decide) (by decide) ?_
          exact J40 (by first | exact hJ | (rw [hJ]; simp [own_last, own_last1, own_last0, hc22, hc29, hc35]))
        · refine XS.ifNo X0.here hx rfl (hb hby dL_35) rfl ((if0 _ _).trans (feq hc35).1) ?_
          show Steps p.tables e below (s₁.setTop (mkF m 38 #[.val (.ref a1), .val (.ref a2), .val (.int p3), .val (.int p4)] [])) _
          refine XS.iconst X0.here hx rfl (hb hby dL_38) ?_
          show Steps p.tables e below (s₁.setTop (mkF m 39 #[.val (.ref a1), .val (.ref a2), .val (.int p3), .val (.int p4)] [(.int (1 : Int32))])) _
          refine own_ret (z := own_last f g p3 p4) (by first | exact hJ | (rw [hJ]; simp [own_last, own_last1, own_last0, hc22, hc29, hc35])) ?_
          exact retI X0 hx Bd.returns (hb hby dL_39) hr
      · refine XS.icmpYes X0.here hx rfl (pc0 := 29) (pc' := 40) rfl (hb hby dL_29) rfl (feq hc29).2 (by decide) (by decide) ?_
        exact J40 (by first | exact hJ | (rw [hJ]; simp [own_last, own_last1, own_last0, hc22, hc29]))
    · refine XS.icmpYes X0.here hx rfl (pc0 := 22) (pc' := 40) rfl (hb hby dL_22) rfl (flt hc22).2.2.2 (by decide) (by decide) ?_
      exact J40 (by first | exact hJ | (rw [hJ]; simp [own_last, own_last1, own_last0, hc22]))
  refine ⟨_, _, pre0 _ ?_, hrun, hended, _, _, rfl, ?_, ⟨_, rfl⟩, hW, hsame.mono (by decide) (by decide)⟩
  · show Steps p.tables e below (s₁.setTop (mkF m 0 #[.val (.ref a1), .val (.ref a2), .val (.int p3), .val (.int p4)] [])) _
    refine XS.iloadN X0.here hx rfl (hb hby dL_0) rfl ?_
    refine XS.iconst X0.here hx rfl (hb hby dL_1) ?_
    show Steps p.tables e below (s₁.setTop (mkF m 2 #[.val (.ref a1), .val (.ref a2), .val (.int p3), .val (.int p4)] [(.int (2 : Int32)), (.int p4)])) _
    by_cases hc2 : (2 : Int32) < p4
    · refine XS.icmpNo X0.here hx rfl (hb hby dL_2) rfl (tlt hc2).2.2.2 ?_
      show Steps p.tables e below (s₁.setTop (mkF m 5 #[.val (.ref a1), .val (.ref a2), .val (.int p3), .val (.int p4)] [])) _
      refine XS.aloadN X0.here hx rfl (hb hby dL_5) rfl rfl ?_
      refine XS.iconst X0.here hx rfl (hb hby dL_6) ?_
      show Steps p.tables e below (s₁.setTop (mkF m 7 #[.val (.ref a1), .val (.ref a2), .val (.int p3), .val (.int p4)] [(.int (2 : Int32)), (.ref a1)])) _
      refine own_ld X0 hx hZ e0 A1 (by decide) (by decide) (g := (mkF m 7 #[.val (.ref a1), .val (.ref a2), .val (.int p3), .val (.int p4)] [(.int (2 : Int32)), (.ref a1)])) rfl rfl (hb hby dL_7) _ ?_
      show Steps p.tables e below (s₁.setTop (mkF m 8 #[.val (.ref a1), .val (.ref a2), .val (.int p3), .val (.int p4)] [(.int (f (2 : Int32)))])) _
      refine XS.iloadN X0.here hx rfl (hb hby dL_8) rfl ?_
      show Steps p.tables e below (s₁.setTop (mkF m 9 #[.val (.ref a1), .val (.ref a2), .val (.int p3), .val (.int p4)] [(.int p3), (.int (f (2 : Int32)))])) _
      by_cases hc9 : (f (2 : Int32)) = p3
      · refine XS.icmpNo X0.here hx rfl (hb hby dL_9) rfl (teq hc9).2 ?_
        show Steps p.tables e below (s₁.setTop (mkF m 12 #[.val (.ref a1), .val (.ref a2), .val (.int p3), .val (.int p4)] [])) _
        refine XS.aloadN X0.here hx rfl (hb hby dL_12) rfl rfl ?_
        refine XS.iconst X0.here hx rfl (hb hby dL_13) ?_
        show Steps p.tables e below (s₁.setTop (mkF m 14 #[.val (.ref a1), .val (.ref a2), .val (.int p3), .val (.int p4)] [(.int (2 : Int32)), (.ref a2)])) _
        refine own_ldz X0 hx hZ e0 A2 (by decide) (by decide) (g := (mkF m 14 #[.val (.ref a1), .val (.ref a2), .val (.int p3), .val (.int p4)] [(.int (2 : Int32)), (.ref a2)])) rfl rfl (hb hby dL_14) _ ?_
        show Steps p.tables e below (s₁.setTop (mkF m 15 #[.val (.ref a1), .val (.ref a2), .val (.int p3), .val (.int p4)] [(.int (g (2 : Int32)))])) _
        by_cases hc15 : (g (2 : Int32)) = (0 : Int32)
        · refine XS.ifYes X0.here hx rfl (pc0 := 15) (pc' := 20) rfl (hb hby dL_15) rfl ((if0 _ _).trans (teq hc15).1) (by decide) (by decide) ?_
          exact J20 (by simp [own_last, own_last1, own_last0, hc2, hc9, hc15])
        · refine XS.ifNo X0.here hx rfl (hb hby dL_15) rfl ((if0 _ _).trans (feq hc15).1) ?_
          show Steps p.tables e below (s₁.setTop (mkF m 18 #[.val (.ref a1), .val (.ref a2), .val (.int p3), .val (.int p4)] [])) _
          refine XS.iconst X0.here hx rfl (hb hby dL_18) ?_
          show Steps p.tables e below (s₁.setTop (mkF m 19 #[.val (.ref a1), .val (.ref a2), .val (.int p3), .val (.int p4)] [(.int (2 : Int32))])) _
          refine own_ret (z := own_last f g p3 p4) (by simp [own_last, own_last1, own_last0, hc2, hc9, hc15]) ?_
          exact retI X0 hx Bd.returns (hb hby dL_19) hr
      · refine XS.icmpYes X0.here hx rfl (pc0 := 9) (pc' := 20) rfl (hb hby dL_9) rfl (feq hc9).2 (by decide) (by decide) ?_
        exact J20 (by simp [own_last, own_last1, own_last0, hc2, hc9])
    · refine XS.icmpYes X0.here hx rfl (pc0 := 2) (pc' := 20) rfl (hb hby dL_2) rfl (flt hc2).2.2.2 (by decide) (by decide) ?_
      exact J20 (by simp [own_last, own_last1, own_last0, hc2])
  · show QL Z a1 a2 p3 p4 f g h0 n0 _ s₁.heap _
    rw [e0]
    exact ⟨rfl, N0, rfl⟩
theorem dE_0 : decode method_3_code 0 = .ok (.iload_n 1, 1) := by decide +kernel
theorem dE_1 : decode method_3_code 1 = .ok (.ifCond .ge 5, 3) := by decide +kernel
theorem dE_4 : decode method_3_code 4 = .ok (.iconst (-1), 1) := by decide +kernel
theorem dE_5 : decode method_3_code 5 = .ok (.ireturn, 1) := by decide +kernel
theorem dE_6 : decode method_3_code 6 = .ok (.aload_n 0, 1) := by decide +kernel
theorem dE_7 : decode method_3_code 7 = .ok (.iload_n 1, 1) := by decide +kernel
theorem dE_8 : decode method_3_code 8 = .ok (.iaload, 1) := by decide +kernel
theorem dE_9 : decode method_3_code 9 = .ok (.ireturn, 1) := by decide +kernel
theorem pn_E : plainName "com/example/process_stepper/processstepper/equivalence/IntListsPushPinLaw" = true := by first | (simp [plainName, overriddenIn]; done) | decide +kernel
theorem ef_E (m : MethodId) (a1 : Addr) (p2 : Int32) : entryFrame m #[(.ref a1), (.int p2)] 2 = mkF m 0 #[.val (.ref a1), .val (.int p2)] [] := by first | (simp [entryFrame, mkF, argsToLocals, Value.category]; done) | rfl
def QE (Z : State) (a1 : Addr) (p2 : Int32) (f : Int32 → Int32) (h0 : Heap) (n0 : Nat) (v : Option Value) (h : Heap) (L : List Loc) : Prop := v = some (.int (own_el f p2)) ∧ Fr n0 L ∧ h = h0
set_option maxRecDepth 65536 in
set_option maxHeartbeats 40000000 in
theorem rmE (l : Launch) (Z : State) (a0 : Array Value) (hw : ∀ d ∈ tables_1, d.before a0 Z = true) (ws : List Jvm.Cond) (a1 : Addr) (p2 : Int32) (f : Int32 → Int32) (h0 : Heap) (n0 : Nat) (Z0 : n0 ≤ h0.size) (A1 : own_arr Z h0 a1 (3 : Int32) f) (hk : p2 < (3 : Int32)) :
    MetFree l (⟨"com/example/process_stepper/processstepper/equivalence/IntListsPushPinLaw", "elementAt", "([II)I"⟩ : MethodName) (head1 (Jvm.Cond.code (⟨"com/example/process_stepper/processstepper/equivalence/IntListsPushPinLaw", "elementAt", "([II)I"⟩ : MethodName) method_3_code 2 (some .int) :: ws) ({ frames := 0, cells := 0, slots := 0, locals := 0 } : Room)) (fun a U => a = #[(.ref a1), (.int p2)] ∧ Z.Warmed39 U.vm ∧ U.heap = h0) (fun _ _ _ _ _ => True) (fun _ U o U' => ∃ v L, o = .returned v ∧ QE Z a1 p2 f h0 n0 v U'.heap L ∧ FrameEnd U o U' L ({ frames := 0, cells := 0, slots := 0, locals := 0 } : Room).cells ({ frames := 0, cells := 0, slots := 0, locals := 0 } : Room).slots) := by
  refine MetFree.of_bodySF (plainFor_of_name pn_E) hisR ?_
  intro p e s m args below meth c s₁ Bd hml0 hP hK
  obtain ⟨rfl, hZ, hh⟩ := hP
  have hx := Bd.exec
  have hby := Bd.bytes
  have hml : c.maxLocals = 2 := hml0
  have hown : s.vm.findClass "com/example/process_stepper/processstepper/equivalence/IntListsPushPinLaw" = some m.cls := findClass_of_methodNamed Bd.named
  have hnm := (name_of_methodNamed Bd.named Bd.method).1
  have X0 : Stand p l e ({ frames := 0, cells := 0, slots := 0, locals := 0 } : Room) s m #[(.ref a1), (.int p2)] below meth c s₁ [] 0 0 := Stand.of_body Bd
  have e0 : s₁.heap = h0 := by rw [← hh, Bd.state]; rfl
  have N0 := Fr.nil n0
  have pre0 : ∀ t, Steps p.tables e below (s₁.setTop (mkF m 0 #[.val (.ref a1), .val (.int p2)] [])) t → Steps p.tables e below (s₁.setTop (entryFrame m #[(.ref a1), (.int p2)] 2)) t := fun t k => castTop (ef_E m a1 p2) k
  by_cases hc1 : p2 < (0 : Int32)
  · obtain ⟨fs, hr, hrun, hended, hW, hsame⟩ := X0.leave (v := some (.int (-1 : Int32))) (fun h => by rw [Bd.returns] at h; cases h)
    refine ⟨_, _, pre0 _ ?_, hrun, hended, _, _, rfl, ?_, ⟨_, rfl⟩, hW, hsame.mono (by decide) (by decide)⟩
    · show Steps p.tables e below (s₁.setTop (mkF m 0 #[.val (.ref a1), .val (.int p2)] [])) _
      refine XS.iloadN X0.here hx rfl (hb hby dE_0) rfl ?_
      show Steps p.tables e below (s₁.setTop (mkF m 1 #[.val (.ref a1), .val (.int p2)] [(.int p2)])) _
      refine XS.ifNo X0.here hx rfl (hb hby dE_1) rfl ((if0 _ _).trans (tlt hc1).2.1) ?_
      show Steps p.tables e below (s₁.setTop (mkF m 4 #[.val (.ref a1), .val (.int p2)] [])) _
      refine XS.iconst X0.here hx rfl (hb hby dE_4) ?_
      show Steps p.tables e below (s₁.setTop (mkF m 5 #[.val (.ref a1), .val (.int p2)] [(.int (-1 : Int32))])) _
      exact retI X0 hx Bd.returns (hb hby dE_5) hr
    · show QE Z a1 p2 f h0 n0 _ s₁.heap _
      rw [e0]
      exact ⟨congrArg (fun z => some (Value.int z)) (show (-1 : Int32) = _ by simp [own_el, hc1]), N0, rfl⟩
  · obtain ⟨fs, hr, hrun, hended, hW, hsame⟩ := X0.leave (v := some (.int (f p2))) (fun h => by rw [Bd.returns] at h; cases h)
    refine ⟨_, _, pre0 _ ?_, hrun, hended, _, _, rfl, ?_, ⟨_, rfl⟩, hW, hsame.mono (by decide) (by decide)⟩
    · show Steps p.tables e below (s₁.setTop (mkF m 0 #[.val (.ref a1), .val (.int p2)] [])) _
      refine XS.iloadN X0.here hx rfl (hb hby dE_0) rfl ?_
      show Steps p.tables e below (s₁.setTop (mkF m 1 #[.val (.ref a1), .val (.int p2)] [(.int p2)])) _
      refine XS.ifYes X0.here hx rfl (pc0 := 1) (pc' := 6) rfl (hb hby dE_1) rfl ((if0 _ _).trans (flt hc1).2.1) (by decide) (by decide) ?_
      show Steps p.tables e below (s₁.setTop (mkF m 6 #[.val (.ref a1), .val (.int p2)] [])) _
      refine XS.aloadN X0.here hx rfl (hb hby dE_6) rfl rfl ?_
      refine XS.iloadN X0.here hx rfl (hb hby dE_7) rfl ?_
      show Steps p.tables e below (s₁.setTop (mkF m 8 #[.val (.ref a1), .val (.int p2)] [(.int p2), (.ref a1)])) _
      refine own_ld X0 hx hZ e0 A1 hc1 hk (g := (mkF m 8 #[.val (.ref a1), .val (.int p2)] [(.int p2), (.ref a1)])) rfl rfl (hb hby dE_8) _ ?_
      show Steps p.tables e below (s₁.setTop (mkF m 9 #[.val (.ref a1), .val (.int p2)] [(.int (f p2))])) _
      exact retI X0 hx Bd.returns (hb hby dE_9) hr
    · show QE Z a1 p2 f h0 n0 _ s₁.heap _
      rw [e0]
      exact ⟨congrArg (fun z => some (Value.int z)) (show (f p2) = _ by simp [own_el, hc1]), N0, rfl⟩
theorem dC_0 : decode method_4_code 0 = .ok (.iconst 0, 1) := by decide +kernel
theorem dC_1 : decode method_4_code 1 = .ok (.istore_n 3, 1) := by decide +kernel
theorem dC_2 : decode method_4_code 2 = .ok (.aload_n 0, 1) := by decide +kernel
theorem dC_3 : decode method_4_code 3 = .ok (.iconst 0, 1) := by decide +kernel
theorem dC_4 : decode method_4_code 4 = .ok (.iaload, 1) := by decide +kernel
theorem dC_5 : decode method_4_code 5 = .ok (.iload_n 2, 1) := by decide +kernel
theorem dC_6 : decode method_4_code 6 = .ok (.if_icmp .ne 13, 3) := by decide +kernel
theorem dC_9 : decode method_4_code 9 = .ok (.aload_n 1, 1) := by decide +kernel
theorem dC_10 : decode method_4_code 10 = .ok (.iconst 0, 1) := by decide +kernel
theorem dC_11 : decode method_4_code 11 = .ok (.baload, 1) := by decide +kernel
theorem dC_12 : decode method_4_code 12 = .ok (.ifCond .eq 7, 3) := by decide +kernel
theorem dC_15 : decode method_4_code 15 = .ok (.iload_n 3, 1) := by decide +kernel
theorem dC_16 : decode method_4_code 16 = .ok (.iconst 1, 1) := by decide +kernel
theorem dC_17 : decode method_4_code 17 = .ok (.iadd, 1) := by decide +kernel
theorem dC_18 : decode method_4_code 18 = .ok (.istore_n 3, 1) := by decide +kernel
theorem dC_19 : decode method_4_code 19 = .ok (.aload_n 0, 1) := by decide +kernel
theorem dC_20 : decode method_4_code 20 = .ok (.iconst 1, 1) := by decide +kernel
theorem dC_21 : decode method_4_code 21 = .ok (.iaload, 1) := by decide +kernel
theorem dC_22 : decode method_4_code 22 = .ok (.iload_n 2, 1) := by decide +kernel
theorem dC_23 : decode method_4_code 23 = .ok (.if_icmp .ne 13, 3) := by decide +kernel
theorem dC_26 : decode method_4_code 26 = .ok (.aload_n 1, 1) := by decide +kernel
theorem dC_27 : decode method_4_code 27 = .ok (.iconst 1, 1) := by decide +kernel
theorem dC_28 : decode method_4_code 28 = .ok (.baload, 1) := by decide +kernel
theorem dC_29 : decode method_4_code 29 = .ok (.ifCond .eq 7, 3) := by decide +kernel
theorem dC_32 : decode method_4_code 32 = .ok (.iload_n 3, 1) := by decide +kernel
theorem dC_33 : decode method_4_code 33 = .ok (.iconst 1, 1) := by decide +kernel
theorem dC_34 : decode method_4_code 34 = .ok (.iadd, 1) := by decide +kernel
theorem dC_35 : decode method_4_code 35 = .ok (.istore_n 3, 1) := by decide +kernel
theorem dC_36 : decode method_4_code 36 = .ok (.aload_n 0, 1) := by decide +kernel
theorem dC_37 : decode method_4_code 37 = .ok (.iconst 2, 1) := by decide +kernel
theorem dC_38 : decode method_4_code 38 = .ok (.iaload, 1) := by decide +kernel
theorem dC_39 : decode method_4_code 39 = .ok (.iload_n 2, 1) := by decide +kernel
theorem dC_40 : decode method_4_code 40 = .ok (.if_icmp .ne 13, 3) := by decide +kernel
theorem dC_43 : decode method_4_code 43 = .ok (.aload_n 1, 1) := by decide +kernel
theorem dC_44 : decode method_4_code 44 = .ok (.iconst 2, 1) := by decide +kernel
theorem dC_45 : decode method_4_code 45 = .ok (.baload, 1) := by decide +kernel
theorem dC_46 : decode method_4_code 46 = .ok (.ifCond .eq 7, 3) := by decide +kernel
theorem dC_49 : decode method_4_code 49 = .ok (.iload_n 3, 1) := by decide +kernel
theorem dC_50 : decode method_4_code 50 = .ok (.iconst 1, 1) := by decide +kernel
theorem dC_51 : decode method_4_code 51 = .ok (.iadd, 1) := by decide +kernel
theorem dC_52 : decode method_4_code 52 = .ok (.istore_n 3, 1) := by decide +kernel
theorem dC_53 : decode method_4_code 53 = .ok (.iload_n 3, 1) := by decide +kernel
theorem dC_54 : decode method_4_code 54 = .ok (.ireturn, 1) := by decide +kernel
theorem pn_C : plainName "com/example/process_stepper/processstepper/equivalence/IntListsPushPinLaw" = true := by first | (simp [plainName, overriddenIn]; done) | decide +kernel
theorem ef_C (m : MethodId) (a1 : Addr) (a2 : Addr) (p3 : Int32) : entryFrame m #[(.ref a1), (.ref a2), (.int p3)] 4 = mkF m 0 #[.val (.ref a1), .val (.ref a2), .val (.int p3), .unset] [] := by first | (simp [entryFrame, mkF, argsToLocals, Value.category]; done) | rfl
def QC (Z : State) (a1 a2 : Addr) (p3 : Int32) (f g : Int32 → Int32) (h0 : Heap) (n0 : Nat) (v : Option Value) (h : Heap) (L : List Loc) : Prop := v = some (.int (own_cnt f g p3)) ∧ Fr n0 L ∧ h = h0
set_option maxRecDepth 65536 in
set_option maxHeartbeats 40000000 in
theorem rmC (l : Launch) (Z : State) (a0 : Array Value) (hw : ∀ d ∈ tables_1, d.before a0 Z = true) (ws : List Jvm.Cond) (a1 a2 : Addr) (p3 : Int32) (f g : Int32 → Int32) (h0 : Heap) (n0 : Nat) (Z0 : n0 ≤ h0.size) (A1 : own_arr Z h0 a1 (3 : Int32) f) (A2 : own_arz Z h0 a2 (3 : Int32) g) :
    MetFree l (⟨"com/example/process_stepper/processstepper/equivalence/IntListsPushPinLaw", "count", "([I[ZI)I"⟩ : MethodName) (head1 (Jvm.Cond.code (⟨"com/example/process_stepper/processstepper/equivalence/IntListsPushPinLaw", "count", "([I[ZI)I"⟩ : MethodName) method_4_code 4 (some .int) :: ws) ({ frames := 0, cells := 0, slots := 0, locals := 0 } : Room)) (fun a U => a = #[(.ref a1), (.ref a2), (.int p3)] ∧ Z.Warmed39 U.vm ∧ U.heap = h0) (fun _ _ _ _ _ => True) (fun _ U o U' => ∃ v L, o = .returned v ∧ QC Z a1 a2 p3 f g h0 n0 v U'.heap L ∧ FrameEnd U o U' L ({ frames := 0, cells := 0, slots := 0, locals := 0 } : Room).cells ({ frames := 0, cells := 0, slots := 0, locals := 0 } : Room).slots) := by
  refine MetFree.of_bodySF (plainFor_of_name pn_C) hisR ?_
  intro p e s m args below meth c s₁ Bd hml0 hP hK
  obtain ⟨rfl, hZ, hh⟩ := hP
  have hx := Bd.exec
  have hby := Bd.bytes
  have hml : c.maxLocals = 4 := hml0
  have hown : s.vm.findClass "com/example/process_stepper/processstepper/equivalence/IntListsPushPinLaw" = some m.cls := findClass_of_methodNamed Bd.named
  have hnm := (name_of_methodNamed Bd.named Bd.method).1
  have X0 : Stand p l e ({ frames := 0, cells := 0, slots := 0, locals := 0 } : Room) s m #[(.ref a1), (.ref a2), (.int p3)] below meth c s₁ [] 0 0 := Stand.of_body Bd
  have e0 : s₁.heap = h0 := by rw [← hh, Bd.state]; rfl
  have N0 := Fr.nil n0
  have pre0 : ∀ t, Steps p.tables e below (s₁.setTop (mkF m 0 #[.val (.ref a1), .val (.ref a2), .val (.int p3), .unset] [])) t → Steps p.tables e below (s₁.setTop (entryFrame m #[(.ref a1), (.ref a2), (.int p3)] 4)) t := fun t k => castTop (ef_C m a1 a2 p3) k
  obtain ⟨fs, hr, hrun, hended, hW, hsame⟩ := X0.leave (v := some (.int (own_cnt f g p3))) (fun h => by rw [Bd.returns] at h; cases h)
  have J53 : ∀ c1 : Int32, own_cnt f g p3 = c1 → Steps p.tables e below (s₁.setTop (mkF m 53 #[.val (.ref a1), .val (.ref a2), .val (.int p3), .val (.int c1)] [])) (s₁.setFrames fs) := by
    intro c1 hJ
    show Steps p.tables e below (s₁.setTop (mkF m 53 #[.val (.ref a1), .val (.ref a2), .val (.int p3), .val (.int c1)] [])) _
    refine XS.iloadN X0.here hx rfl (hb hby dC_53) rfl ?_
    show Steps p.tables e below (s₁.setTop (mkF m 54 #[.val (.ref a1), .val (.ref a2), .val (.int p3), .val (.int c1)] [(.int c1)])) _
    refine own_ret (z := own_cnt f g p3) (by first | exact hJ | (rw [hJ]; simp [own_cnt, own_c0, own_c1, own_c2])) ?_
    exact retI X0 hx Bd.returns (hb hby dC_54) hr
  have J36 : ∀ c1 : Int32, own_cnt f g p3 = c1 + own_c2 f g p3 → Steps p.tables e below (s₁.setTop (mkF m 36 #[.val (.ref a1), .val (.ref a2), .val (.int p3), .val (.int c1)] [])) (s₁.setFrames fs) := by
    intro c1 hJ
    show Steps p.tables e below (s₁.setTop (mkF m 36 #[.val (.ref a1), .val (.ref a2), .val (.int p3), .val (.int c1)] [])) _
    refine XS.aloadN X0.here hx rfl (hb hby dC_36) rfl rfl ?_
    refine XS.iconst X0.here hx rfl (hb hby dC_37) ?_
    show Steps p.tables e below (s₁.setTop (mkF m 38 #[.val (.ref a1), .val (.ref a2), .val (.int p3), .val (.int c1)] [(.int (2 : Int32)), (.ref a1)])) _
    refine own_ld X0 hx hZ e0 A1 (by decide) (by decide) (g := (mkF m 38 #[.val (.ref a1), .val (.ref a2), .val (.int p3), .val (.int c1)] [(.int (2 : Int32)), (.ref a1)])) rfl rfl (hb hby dC_38) _ ?_
    show Steps p.tables e below (s₁.setTop (mkF m 39 #[.val (.ref a1), .val (.ref a2), .val (.int p3), .val (.int c1)] [(.int (f (2 : Int32)))])) _
    refine XS.iloadN X0.here hx rfl (hb hby dC_39) rfl ?_
    show Steps p.tables e below (s₁.setTop (mkF m 40 #[.val (.ref a1), .val (.ref a2), .val (.int p3), .val (.int c1)] [(.int p3), (.int (f (2 : Int32)))])) _
    by_cases hc40 : (f (2 : Int32)) = p3
    · refine XS.icmpNo X0.here hx rfl (hb hby dC_40) rfl (teq hc40).2 ?_
      show Steps p.tables e below (s₁.setTop (mkF m 43 #[.val (.ref a1), .val (.ref a2), .val (.int p3), .val (.int c1)] [])) _
      refine XS.aloadN X0.here hx rfl (hb hby dC_43) rfl rfl ?_
      refine XS.iconst X0.here hx rfl (hb hby dC_44) ?_
      show Steps p.tables e below (s₁.setTop (mkF m 45 #[.val (.ref a1), .val (.ref a2), .val (.int p3), .val (.int c1)] [(.int (2 : Int32)), (.ref a2)])) _
      refine own_ldz X0 hx hZ e0 A2 (by decide) (by decide) (g := (mkF m 45 #[.val (.ref a1), .val (.ref a2), .val (.int p3), .val (.int c1)] [(.int (2 : Int32)), (.ref a2)])) rfl rfl (hb hby dC_45) _ ?_
      show Steps p.tables e below (s₁.setTop (mkF m 46 #[.val (.ref a1), .val (.ref a2), .val (.int p3), .val (.int c1)] [(.int (g (2 : Int32)))])) _
      by_cases hc46 : (g (2 : Int32)) = (0 : Int32)
      · refine XS.ifYes X0.here hx rfl (pc0 := 46) (pc' := 53) rfl (hb hby dC_46) rfl ((if0 _ _).trans (teq hc46).1) (by decide) (by decide) ?_
        exact J53 c1 (by first | exact hJ | (rw [hJ]; simp [own_cnt, own_c0, own_c1, own_c2, hc40, hc46]))
      · refine XS.ifNo X0.here hx rfl (hb hby dC_46) rfl ((if0 _ _).trans (feq hc46).1) ?_
        show Steps p.tables e below (s₁.setTop (mkF m 49 #[.val (.ref a1), .val (.ref a2), .val (.int p3), .val (.int c1)] [])) _
        refine XS.iloadN X0.here hx rfl (hb hby dC_49) rfl ?_
        refine XS.iconst X0.here hx rfl (hb hby dC_50) ?_
        show Steps p.tables e below (s₁.setTop (mkF m 51 #[.val (.ref a1), .val (.ref a2), .val (.int p3), .val (.int c1)] [(.int (1 : Int32)), (.int c1)])) _
        refine XS.iadd X0.here hx rfl (hb hby dC_51) rfl ?_
        show Steps p.tables e below (s₁.setTop (mkF m 52 #[.val (.ref a1), .val (.ref a2), .val (.int p3), .val (.int c1)] [(.int (c1 + (1 : Int32)))])) _
        refine XS.istoreN X0.here hx rfl (hb hby dC_52) rfl (l' := #[.val (.ref a1), .val (.ref a2), .val (.int p3), .val (.int (c1 + (1 : Int32)))]) rfl ?_
        exact J53 (c1 + (1 : Int32)) (by first | exact hJ | (rw [hJ]; simp [own_cnt, own_c0, own_c1, own_c2, hc40, hc46]))
    · refine XS.icmpYes X0.here hx rfl (pc0 := 40) (pc' := 53) rfl (hb hby dC_40) rfl (feq hc40).2 (by decide) (by decide) ?_
      exact J53 c1 (by first | exact hJ | (rw [hJ]; simp [own_cnt, own_c0, own_c1, own_c2, hc40]))
  have J19 : ∀ c1 : Int32, own_cnt f g p3 = c1 + own_c1 f g p3 + own_c2 f g p3 → Steps p.tables e below (s₁.setTop (mkF m 19 #[.val (.ref a1), .val (.ref a2), .val (.int p3), .val (.int c1)] [])) (s₁.setFrames fs) := by
    intro c1 hJ
    show Steps p.tables e below (s₁.setTop (mkF m 19 #[.val (.ref a1), .val (.ref a2), .val (.int p3), .val (.int c1)] [])) _
    refine XS.aloadN X0.here hx rfl (hb hby dC_19) rfl rfl ?_
    refine XS.iconst X0.here hx rfl (hb hby dC_20) ?_
    show Steps p.tables e below (s₁.setTop (mkF m 21 #[.val (.ref a1), .val (.ref a2), .val (.int p3), .val (.int c1)] [(.int (1 : Int32)), (.ref a1)])) _
    refine own_ld X0 hx hZ e0 A1 (by decide) (by decide) (g := (mkF m 21 #[.val (.ref a1), .val (.ref a2), .val (.int p3), .val (.int c1)] [(.int (1 : Int32)), (.ref a1)])) rfl rfl (hb hby dC_21) _ ?_
    show Steps p.tables e below (s₁.setTop (mkF m 22 #[.val (.ref a1), .val (.ref a2), .val (.int p3), .val (.int c1)] [(.int (f (1 : Int32)))])) _
    refine XS.iloadN X0.here hx rfl (hb hby dC_22) rfl ?_
    show Steps p.tables e below (s₁.setTop (mkF m 23 #[.val (.ref a1), .val (.ref a2), .val (.int p3), .val (.int c1)] [(.int p3), (.int (f (1 : Int32)))])) _
    by_cases hc23 : (f (1 : Int32)) = p3
    · refine XS.icmpNo X0.here hx rfl (hb hby dC_23) rfl (teq hc23).2 ?_
      show Steps p.tables e below (s₁.setTop (mkF m 26 #[.val (.ref a1), .val (.ref a2), .val (.int p3), .val (.int c1)] [])) _
      refine XS.aloadN X0.here hx rfl (hb hby dC_26) rfl rfl ?_
      refine XS.iconst X0.here hx rfl (hb hby dC_27) ?_
      show Steps p.tables e below (s₁.setTop (mkF m 28 #[.val (.ref a1), .val (.ref a2), .val (.int p3), .val (.int c1)] [(.int (1 : Int32)), (.ref a2)])) _
      refine own_ldz X0 hx hZ e0 A2 (by decide) (by decide) (g := (mkF m 28 #[.val (.ref a1), .val (.ref a2), .val (.int p3), .val (.int c1)] [(.int (1 : Int32)), (.ref a2)])) rfl rfl (hb hby dC_28) _ ?_
      show Steps p.tables e below (s₁.setTop (mkF m 29 #[.val (.ref a1), .val (.ref a2), .val (.int p3), .val (.int c1)] [(.int (g (1 : Int32)))])) _
      by_cases hc29 : (g (1 : Int32)) = (0 : Int32)
      · refine XS.ifYes X0.here hx rfl (pc0 := 29) (pc' := 36) rfl (hb hby dC_29) rfl ((if0 _ _).trans (teq hc29).1) (by decide) (by decide) ?_
        exact J36 c1 (by first | exact hJ | (rw [hJ]; simp [own_cnt, own_c0, own_c1, own_c2, hc23, hc29]))
      · refine XS.ifNo X0.here hx rfl (hb hby dC_29) rfl ((if0 _ _).trans (feq hc29).1) ?_
        show Steps p.tables e below (s₁.setTop (mkF m 32 #[.val (.ref a1), .val (.ref a2), .val (.int p3), .val (.int c1)] [])) _
        refine XS.iloadN X0.here hx rfl (hb hby dC_32) rfl ?_
        refine XS.iconst X0.here hx rfl (hb hby dC_33) ?_
        show Steps p.tables e below (s₁.setTop (mkF m 34 #[.val (.ref a1), .val (.ref a2), .val (.int p3), .val (.int c1)] [(.int (1 : Int32)), (.int c1)])) _
        refine XS.iadd X0.here hx rfl (hb hby dC_34) rfl ?_
        show Steps p.tables e below (s₁.setTop (mkF m 35 #[.val (.ref a1), .val (.ref a2), .val (.int p3), .val (.int c1)] [(.int (c1 + (1 : Int32)))])) _
        refine XS.istoreN X0.here hx rfl (hb hby dC_35) rfl (l' := #[.val (.ref a1), .val (.ref a2), .val (.int p3), .val (.int (c1 + (1 : Int32)))]) rfl ?_
        exact J36 (c1 + (1 : Int32)) (by first | exact hJ | (rw [hJ]; simp [own_cnt, own_c0, own_c1, own_c2, hc23, hc29]))
    · refine XS.icmpYes X0.here hx rfl (pc0 := 23) (pc' := 36) rfl (hb hby dC_23) rfl (feq hc23).2 (by decide) (by decide) ?_
      exact J36 c1 (by first | exact hJ | (rw [hJ]; simp [own_cnt, own_c0, own_c1, own_c2, hc23]))
  refine ⟨_, _, pre0 _ ?_, hrun, hended, _, _, rfl, ?_, ⟨_, rfl⟩, hW, hsame.mono (by decide) (by decide)⟩
  · show Steps p.tables e below (s₁.setTop (mkF m 0 #[.val (.ref a1), .val (.ref a2), .val (.int p3), .unset] [])) _
    refine XS.iconst X0.here hx rfl (hb hby dC_0) ?_
    refine XS.istoreN X0.here hx rfl (hb hby dC_1) rfl (l' := #[.val (.ref a1), .val (.ref a2), .val (.int p3), .val (.int (0 : Int32))]) rfl ?_
    refine XS.aloadN X0.here hx rfl (hb hby dC_2) rfl rfl ?_
    refine XS.iconst X0.here hx rfl (hb hby dC_3) ?_
    show Steps p.tables e below (s₁.setTop (mkF m 4 #[.val (.ref a1), .val (.ref a2), .val (.int p3), .val (.int (0 : Int32))] [(.int (0 : Int32)), (.ref a1)])) _
    refine own_ld X0 hx hZ e0 A1 (by decide) (by decide) (g := (mkF m 4 #[.val (.ref a1), .val (.ref a2), .val (.int p3), .val (.int (0 : Int32))] [(.int (0 : Int32)), (.ref a1)])) rfl rfl (hb hby dC_4) _ ?_
    show Steps p.tables e below (s₁.setTop (mkF m 5 #[.val (.ref a1), .val (.ref a2), .val (.int p3), .val (.int (0 : Int32))] [(.int (f (0 : Int32)))])) _
    refine XS.iloadN X0.here hx rfl (hb hby dC_5) rfl ?_
    show Steps p.tables e below (s₁.setTop (mkF m 6 #[.val (.ref a1), .val (.ref a2), .val (.int p3), .val (.int (0 : Int32))] [(.int p3), (.int (f (0 : Int32)))])) _
    by_cases hc6 : (f (0 : Int32)) = p3
    · refine XS.icmpNo X0.here hx rfl (hb hby dC_6) rfl (teq hc6).2 ?_
      show Steps p.tables e below (s₁.setTop (mkF m 9 #[.val (.ref a1), .val (.ref a2), .val (.int p3), .val (.int (0 : Int32))] [])) _
      refine XS.aloadN X0.here hx rfl (hb hby dC_9) rfl rfl ?_
      refine XS.iconst X0.here hx rfl (hb hby dC_10) ?_
      show Steps p.tables e below (s₁.setTop (mkF m 11 #[.val (.ref a1), .val (.ref a2), .val (.int p3), .val (.int (0 : Int32))] [(.int (0 : Int32)), (.ref a2)])) _
      refine own_ldz X0 hx hZ e0 A2 (by decide) (by decide) (g := (mkF m 11 #[.val (.ref a1), .val (.ref a2), .val (.int p3), .val (.int (0 : Int32))] [(.int (0 : Int32)), (.ref a2)])) rfl rfl (hb hby dC_11) _ ?_
      show Steps p.tables e below (s₁.setTop (mkF m 12 #[.val (.ref a1), .val (.ref a2), .val (.int p3), .val (.int (0 : Int32))] [(.int (g (0 : Int32)))])) _
      by_cases hc12 : (g (0 : Int32)) = (0 : Int32)
      · refine XS.ifYes X0.here hx rfl (pc0 := 12) (pc' := 19) rfl (hb hby dC_12) rfl ((if0 _ _).trans (teq hc12).1) (by decide) (by decide) ?_
        exact J19 (0 : Int32) (by simp [own_cnt, own_c0, own_c1, own_c2, hc6, hc12])
      · refine XS.ifNo X0.here hx rfl (hb hby dC_12) rfl ((if0 _ _).trans (feq hc12).1) ?_
        show Steps p.tables e below (s₁.setTop (mkF m 15 #[.val (.ref a1), .val (.ref a2), .val (.int p3), .val (.int (0 : Int32))] [])) _
        refine XS.iloadN X0.here hx rfl (hb hby dC_15) rfl ?_
        refine XS.iconst X0.here hx rfl (hb hby dC_16) ?_
        show Steps p.tables e below (s₁.setTop (mkF m 17 #[.val (.ref a1), .val (.ref a2), .val (.int p3), .val (.int (0 : Int32))] [(.int (1 : Int32)), (.int (0 : Int32))])) _
        refine XS.iadd X0.here hx rfl (hb hby dC_17) rfl ?_
        show Steps p.tables e below (s₁.setTop (mkF m 18 #[.val (.ref a1), .val (.ref a2), .val (.int p3), .val (.int (0 : Int32))] [(.int (1 : Int32))])) _
        refine XS.istoreN X0.here hx rfl (hb hby dC_18) rfl (l' := #[.val (.ref a1), .val (.ref a2), .val (.int p3), .val (.int (1 : Int32))]) rfl ?_
        exact J19 (1 : Int32) (by simp [own_cnt, own_c0, own_c1, own_c2, hc6, hc12])
    · refine XS.icmpYes X0.here hx rfl (pc0 := 6) (pc' := 19) rfl (hb hby dC_6) rfl (feq hc6).2 (by decide) (by decide) ?_
      exact J19 (0 : Int32) (by simp [own_cnt, own_c0, own_c1, own_c2, hc6])
  · show QC Z a1 a2 p3 f g h0 n0 _ s₁.heap _
    rw [e0]
    exact ⟨rfl, N0, rfl⟩
/-! the law's numbers -/
theorem own_bit (p : Int32) : (p &&& (1 : Int32)) = (0 : Int32) ∨ (p &&& (1 : Int32)) = (1 : Int32) := by
  have a := c_and p 1 (by decide)
  have k : (1 : Int32).toInt = 1 := by decide
  rw [k] at a
  rcases (show (p &&& (1 : Int32)).toInt = 0 ∨ (p &&& (1 : Int32)).toInt = 1 by omega) with h | h
  · exact Or.inl (Int32.toInt_inj.mp h)
  · exact Or.inr (Int32.toInt_inj.mp h)
theorem own_mod (p : Int32) (n r : Int32) (d : Int) (hd : n.toInt = d) (d0 : 0 < d) (h : r = ((p &&& (2147483647 : Int32)) % n)) : 0 ≤ r.toInt ∧ r.toInt < d := by
  have a := (c_and p 2147483647 (by decide)).1
  have e := (c_irem (p &&& (2147483647 : Int32)) n d hd).1 a
  rw [← h] at e
  have := Int.emod_nonneg (p &&& (2147483647 : Int32)).toInt (Int.ne_of_gt d0)
  have := Int.emod_lt_of_pos (p &&& (2147483647 : Int32)).toInt d0
  omega
theorem own_three (p r : Int32) (h : r = ((p &&& (2147483647 : Int32)) % (3 : Int32))) : r = (0 : Int32) ∨ r = (1 : Int32) ∨ r = (2 : Int32) := by
  have e := own_mod p 3 r 3 (by decide) (by decide) h
  rcases (show r.toInt = 0 ∨ r.toInt = 1 ∨ r.toInt = 2 by omega) with h | h | h
  · exact Or.inl (Int32.toInt_inj.mp h)
  · exact Or.inr (Or.inl (Int32.toInt_inj.mp h))
  · exact Or.inr (Or.inr (Int32.toInt_inj.mp h))
theorem own_four (p r : Int32) (h : r = ((p &&& (2147483647 : Int32)) % (4 : Int32))) : r = (0 : Int32) ∨ r = (1 : Int32) ∨ r = (2 : Int32) ∨ r = (3 : Int32) := by
  have e := own_mod p 4 r 4 (by decide) (by decide) h
  rcases (show r.toInt = 0 ∨ r.toInt = 1 ∨ r.toInt = 2 ∨ r.toInt = 3 by omega) with h | h | h | h
  · exact Or.inl (Int32.toInt_inj.mp h)
  · exact Or.inr (Or.inl (Int32.toInt_inj.mp h))
  · exact Or.inr (Or.inr (Or.inl (Int32.toInt_inj.mp h)))
  · exact Or.inr (Or.inr (Or.inr (Int32.toInt_inj.mp h)))
def own_f0 (u0 u1 u2 ss v1 v2 : Int32) : Int32 → Int32 := (own_upd own_H0 u0 ss)
def own_f1 (u0 u1 u2 ss v1 v2 : Int32) : Int32 → Int32 := (own_upd own_zero u0 (own_zero u0 + (1 : Int32)))
def own_f2 (u0 u1 u2 ss v1 v2 : Int32) : Int32 → Int32 := (own_upd own_zero ss (own_H0 u0))
def own_f3 (u0 u1 u2 ss v1 v2 : Int32) : Int32 → Int32 := (own_pP own_H0 own_zero u0 ss)
def own_f4 (u0 u1 u2 ss v1 v2 : Int32) : Int32 → Int32 := (own_upd (own_f0 u0 u1 u2 ss v1 v2) u1 v1)
def own_f5 (u0 u1 u2 ss v1 v2 : Int32) : Int32 → Int32 := (own_upd (own_f1 u0 u1 u2 ss v1 v2) u1 ((own_f1 u0 u1 u2 ss v1 v2) u1 + (1 : Int32)))
def own_f6 (u0 u1 u2 ss v1 v2 : Int32) : Int32 → Int32 := (own_upd (own_f2 u0 u1 u2 ss v1 v2) v1 ((own_f0 u0 u1 u2 ss v1 v2) u1))
def own_f7 (u0 u1 u2 ss v1 v2 : Int32) : Int32 → Int32 := (own_pP (own_f0 u0 u1 u2 ss v1 v2) (own_f3 u0 u1 u2 ss v1 v2) u1 v1)
def own_f8 (u0 u1 u2 ss v1 v2 : Int32) : Int32 → Int32 := (own_upd (own_f4 u0 u1 u2 ss v1 v2) u2 v2)
def own_f9 (u0 u1 u2 ss v1 v2 : Int32) : Int32 → Int32 := (own_upd (own_f5 u0 u1 u2 ss v1 v2) u2 ((own_f5 u0 u1 u2 ss v1 v2) u2 + (1 : Int32)))
def own_f10 (u0 u1 u2 ss v1 v2 : Int32) : Int32 → Int32 := (own_upd (own_f6 u0 u1 u2 ss v1 v2) v2 ((own_f4 u0 u1 u2 ss v1 v2) u2))
def own_f11 (u0 u1 u2 ss v1 v2 : Int32) : Int32 → Int32 := (own_pP (own_f4 u0 u1 u2 ss v1 v2) (own_f7 u0 u1 u2 ss v1 v2) u2 v2)
def own_f12 (u0 u1 u2 ss v1 v2 : Int32) : Int32 → Int32 := (own_rH (own_f8 u0 u1 u2 ss v1 v2) (own_f10 u0 u1 u2 ss v1 v2) (own_f11 u0 u1 u2 ss v1 v2) u0 ss)
def own_f13 (u0 u1 u2 ss v1 v2 : Int32) : Int32 → Int32 := (own_upd (own_f9 u0 u1 u2 ss v1 v2) u0 ((own_f9 u0 u1 u2 ss v1 v2) u0 - (1 : Int32)))
def own_f14 (u0 u1 u2 ss v1 v2 : Int32) : Int32 → Int32 := (own_rN (own_f10 u0 u1 u2 ss v1 v2) (own_f11 u0 u1 u2 ss v1 v2) ss)
def own_f15 (u0 u1 u2 ss v1 v2 : Int32) : Int32 → Int32 := (own_rP (own_f10 u0 u1 u2 ss v1 v2) (own_f11 u0 u1 u2 ss v1 v2) ss)
def own_f16 (u0 u1 u2 ss v1 v2 : Int32) : Int32 → Int32 := (own_rH (own_f8 u0 u1 u2 ss v1 v2) (own_f10 u0 u1 u2 ss v1 v2) (own_f11 u0 u1 u2 ss v1 v2) u1 v1)
def own_f17 (u0 u1 u2 ss v1 v2 : Int32) : Int32 → Int32 := (own_upd (own_f9 u0 u1 u2 ss v1 v2) u1 ((own_f9 u0 u1 u2 ss v1 v2) u1 - (1 : Int32)))
def own_f18 (u0 u1 u2 ss v1 v2 : Int32) : Int32 → Int32 := (own_rN (own_f10 u0 u1 u2 ss v1 v2) (own_f11 u0 u1 u2 ss v1 v2) v1)
def own_f19 (u0 u1 u2 ss v1 v2 : Int32) : Int32 → Int32 := (own_rP (own_f10 u0 u1 u2 ss v1 v2) (own_f11 u0 u1 u2 ss v1 v2) v1)
def own_f20 (u0 u1 u2 ss v1 v2 : Int32) : Int32 → Int32 := (own_rH (own_f8 u0 u1 u2 ss v1 v2) (own_f10 u0 u1 u2 ss v1 v2) (own_f11 u0 u1 u2 ss v1 v2) u2 v2)
def own_f21 (u0 u1 u2 ss v1 v2 : Int32) : Int32 → Int32 := (own_upd (own_f9 u0 u1 u2 ss v1 v2) u2 ((own_f9 u0 u1 u2 ss v1 v2) u2 - (1 : Int32)))
def own_f22 (u0 u1 u2 ss v1 v2 : Int32) : Int32 → Int32 := (own_rN (own_f10 u0 u1 u2 ss v1 v2) (own_f11 u0 u1 u2 ss v1 v2) v2)
def own_f23 (u0 u1 u2 ss v1 v2 : Int32) : Int32 → Int32 := (own_rP (own_f10 u0 u1 u2 ss v1 v2) (own_f11 u0 u1 u2 ss v1 v2) v2)
theorem own_k0 (u0 u1 u2 ss v1 v2 : Int32) (c_u0 : u0 = (0 : Int32) ∨ u0 = (1 : Int32)) (c_u1 : u1 = (0 : Int32) ∨ u1 = (1 : Int32)) (c_u2 : u2 = (0 : Int32) ∨ u2 = (1 : Int32)) (c_s : ss = (0 : Int32) ∨ ss = (1 : Int32) ∨ ss = (2 : Int32)) (hv1 : v1 = (((1 : Int32) + ss) % (3 : Int32))) (hv2 : v2 = (((2 : Int32) + ss) % (3 : Int32))) : ¬ u0 < 0 := by
  subst hv1 hv2; rcases c_u0 with rfl | rfl <;> rcases c_u1 with rfl | rfl <;> rcases c_u2 with rfl | rfl <;> rcases c_s with rfl | rfl | rfl <;> decide +kernel
theorem own_k1 (u0 u1 u2 ss v1 v2 : Int32) (c_u0 : u0 = (0 : Int32) ∨ u0 = (1 : Int32)) (c_u1 : u1 = (0 : Int32) ∨ u1 = (1 : Int32)) (c_u2 : u2 = (0 : Int32) ∨ u2 = (1 : Int32)) (c_s : ss = (0 : Int32) ∨ ss = (1 : Int32) ∨ ss = (2 : Int32)) (hv1 : v1 = (((1 : Int32) + ss) % (3 : Int32))) (hv2 : v2 = (((2 : Int32) + ss) % (3 : Int32))) : u0 < (2 : Int32) := by
  subst hv1 hv2; rcases c_u0 with rfl | rfl <;> rcases c_u1 with rfl | rfl <;> rcases c_u2 with rfl | rfl <;> rcases c_s with rfl | rfl | rfl <;> decide +kernel
theorem own_k2 (u0 u1 u2 ss v1 v2 : Int32) (c_u0 : u0 = (0 : Int32) ∨ u0 = (1 : Int32)) (c_u1 : u1 = (0 : Int32) ∨ u1 = (1 : Int32)) (c_u2 : u2 = (0 : Int32) ∨ u2 = (1 : Int32)) (c_s : ss = (0 : Int32) ∨ ss = (1 : Int32) ∨ ss = (2 : Int32)) (hv1 : v1 = (((1 : Int32) + ss) % (3 : Int32))) (hv2 : v2 = (((2 : Int32) + ss) % (3 : Int32))) : ¬ ss < 0 := by
  subst hv1 hv2; rcases c_u0 with rfl | rfl <;> rcases c_u1 with rfl | rfl <;> rcases c_u2 with rfl | rfl <;> rcases c_s with rfl | rfl | rfl <;> decide +kernel
theorem own_k3 (u0 u1 u2 ss v1 v2 : Int32) (c_u0 : u0 = (0 : Int32) ∨ u0 = (1 : Int32)) (c_u1 : u1 = (0 : Int32) ∨ u1 = (1 : Int32)) (c_u2 : u2 = (0 : Int32) ∨ u2 = (1 : Int32)) (c_s : ss = (0 : Int32) ∨ ss = (1 : Int32) ∨ ss = (2 : Int32)) (hv1 : v1 = (((1 : Int32) + ss) % (3 : Int32))) (hv2 : v2 = (((2 : Int32) + ss) % (3 : Int32))) : ss < (3 : Int32) := by
  subst hv1 hv2; rcases c_u0 with rfl | rfl <;> rcases c_u1 with rfl | rfl <;> rcases c_u2 with rfl | rfl <;> rcases c_s with rfl | rfl | rfl <;> decide +kernel
theorem own_k4 (u0 u1 u2 ss v1 v2 : Int32) (c_u0 : u0 = (0 : Int32) ∨ u0 = (1 : Int32)) (c_u1 : u1 = (0 : Int32) ∨ u1 = (1 : Int32)) (c_u2 : u2 = (0 : Int32) ∨ u2 = (1 : Int32)) (c_s : ss = (0 : Int32) ∨ ss = (1 : Int32) ∨ ss = (2 : Int32)) (hv1 : v1 = (((1 : Int32) + ss) % (3 : Int32))) (hv2 : v2 = (((2 : Int32) + ss) % (3 : Int32))) : own_in (own_H0 u0) := by
  unfold own_in; subst hv1 hv2; rcases c_u0 with rfl | rfl <;> rcases c_u1 with rfl | rfl <;> rcases c_u2 with rfl | rfl <;> rcases c_s with rfl | rfl | rfl <;> decide +kernel
theorem own_k5 (u0 u1 u2 ss v1 v2 : Int32) (c_u0 : u0 = (0 : Int32) ∨ u0 = (1 : Int32)) (c_u1 : u1 = (0 : Int32) ∨ u1 = (1 : Int32)) (c_u2 : u2 = (0 : Int32) ∨ u2 = (1 : Int32)) (c_s : ss = (0 : Int32) ∨ ss = (1 : Int32) ∨ ss = (2 : Int32)) (hv1 : v1 = (((1 : Int32) + ss) % (3 : Int32))) (hv2 : v2 = (((2 : Int32) + ss) % (3 : Int32))) : ¬ u1 < 0 := by
  subst hv1 hv2; rcases c_u0 with rfl | rfl <;> rcases c_u1 with rfl | rfl <;> rcases c_u2 with rfl | rfl <;> rcases c_s with rfl | rfl | rfl <;> decide +kernel
theorem own_k6 (u0 u1 u2 ss v1 v2 : Int32) (c_u0 : u0 = (0 : Int32) ∨ u0 = (1 : Int32)) (c_u1 : u1 = (0 : Int32) ∨ u1 = (1 : Int32)) (c_u2 : u2 = (0 : Int32) ∨ u2 = (1 : Int32)) (c_s : ss = (0 : Int32) ∨ ss = (1 : Int32) ∨ ss = (2 : Int32)) (hv1 : v1 = (((1 : Int32) + ss) % (3 : Int32))) (hv2 : v2 = (((2 : Int32) + ss) % (3 : Int32))) : u1 < (2 : Int32) := by
  subst hv1 hv2; rcases c_u0 with rfl | rfl <;> rcases c_u1 with rfl | rfl <;> rcases c_u2 with rfl | rfl <;> rcases c_s with rfl | rfl | rfl <;> decide +kernel
theorem own_k7 (u0 u1 u2 ss v1 v2 : Int32) (c_u0 : u0 = (0 : Int32) ∨ u0 = (1 : Int32)) (c_u1 : u1 = (0 : Int32) ∨ u1 = (1 : Int32)) (c_u2 : u2 = (0 : Int32) ∨ u2 = (1 : Int32)) (c_s : ss = (0 : Int32) ∨ ss = (1 : Int32) ∨ ss = (2 : Int32)) (hv1 : v1 = (((1 : Int32) + ss) % (3 : Int32))) (hv2 : v2 = (((2 : Int32) + ss) % (3 : Int32))) : ¬ v1 < 0 := by
  subst hv1 hv2; rcases c_u0 with rfl | rfl <;> rcases c_u1 with rfl | rfl <;> rcases c_u2 with rfl | rfl <;> rcases c_s with rfl | rfl | rfl <;> decide +kernel
theorem own_k8 (u0 u1 u2 ss v1 v2 : Int32) (c_u0 : u0 = (0 : Int32) ∨ u0 = (1 : Int32)) (c_u1 : u1 = (0 : Int32) ∨ u1 = (1 : Int32)) (c_u2 : u2 = (0 : Int32) ∨ u2 = (1 : Int32)) (c_s : ss = (0 : Int32) ∨ ss = (1 : Int32) ∨ ss = (2 : Int32)) (hv1 : v1 = (((1 : Int32) + ss) % (3 : Int32))) (hv2 : v2 = (((2 : Int32) + ss) % (3 : Int32))) : v1 < (3 : Int32) := by
  subst hv1 hv2; rcases c_u0 with rfl | rfl <;> rcases c_u1 with rfl | rfl <;> rcases c_u2 with rfl | rfl <;> rcases c_s with rfl | rfl | rfl <;> decide +kernel
theorem own_k9 (u0 u1 u2 ss v1 v2 : Int32) (c_u0 : u0 = (0 : Int32) ∨ u0 = (1 : Int32)) (c_u1 : u1 = (0 : Int32) ∨ u1 = (1 : Int32)) (c_u2 : u2 = (0 : Int32) ∨ u2 = (1 : Int32)) (c_s : ss = (0 : Int32) ∨ ss = (1 : Int32) ∨ ss = (2 : Int32)) (hv1 : v1 = (((1 : Int32) + ss) % (3 : Int32))) (hv2 : v2 = (((2 : Int32) + ss) % (3 : Int32))) : own_in ((own_f0 u0 u1 u2 ss v1 v2) u1) := by
  unfold own_in; subst hv1 hv2; rcases c_u0 with rfl | rfl <;> rcases c_u1 with rfl | rfl <;> rcases c_u2 with rfl | rfl <;> rcases c_s with rfl | rfl | rfl <;> decide +kernel
theorem own_k10 (u0 u1 u2 ss v1 v2 : Int32) (c_u0 : u0 = (0 : Int32) ∨ u0 = (1 : Int32)) (c_u1 : u1 = (0 : Int32) ∨ u1 = (1 : Int32)) (c_u2 : u2 = (0 : Int32) ∨ u2 = (1 : Int32)) (c_s : ss = (0 : Int32) ∨ ss = (1 : Int32) ∨ ss = (2 : Int32)) (hv1 : v1 = (((1 : Int32) + ss) % (3 : Int32))) (hv2 : v2 = (((2 : Int32) + ss) % (3 : Int32))) : ¬ u2 < 0 := by
  subst hv1 hv2; rcases c_u0 with rfl | rfl <;> rcases c_u1 with rfl | rfl <;> rcases c_u2 with rfl | rfl <;> rcases c_s with rfl | rfl | rfl <;> decide +kernel
theorem own_k11 (u0 u1 u2 ss v1 v2 : Int32) (c_u0 : u0 = (0 : Int32) ∨ u0 = (1 : Int32)) (c_u1 : u1 = (0 : Int32) ∨ u1 = (1 : Int32)) (c_u2 : u2 = (0 : Int32) ∨ u2 = (1 : Int32)) (c_s : ss = (0 : Int32) ∨ ss = (1 : Int32) ∨ ss = (2 : Int32)) (hv1 : v1 = (((1 : Int32) + ss) % (3 : Int32))) (hv2 : v2 = (((2 : Int32) + ss) % (3 : Int32))) : u2 < (2 : Int32) := by
  subst hv1 hv2; rcases c_u0 with rfl | rfl <;> rcases c_u1 with rfl | rfl <;> rcases c_u2 with rfl | rfl <;> rcases c_s with rfl | rfl | rfl <;> decide +kernel
theorem own_k12 (u0 u1 u2 ss v1 v2 : Int32) (c_u0 : u0 = (0 : Int32) ∨ u0 = (1 : Int32)) (c_u1 : u1 = (0 : Int32) ∨ u1 = (1 : Int32)) (c_u2 : u2 = (0 : Int32) ∨ u2 = (1 : Int32)) (c_s : ss = (0 : Int32) ∨ ss = (1 : Int32) ∨ ss = (2 : Int32)) (hv1 : v1 = (((1 : Int32) + ss) % (3 : Int32))) (hv2 : v2 = (((2 : Int32) + ss) % (3 : Int32))) : ¬ v2 < 0 := by
  subst hv1 hv2; rcases c_u0 with rfl | rfl <;> rcases c_u1 with rfl | rfl <;> rcases c_u2 with rfl | rfl <;> rcases c_s with rfl | rfl | rfl <;> decide +kernel
theorem own_k13 (u0 u1 u2 ss v1 v2 : Int32) (c_u0 : u0 = (0 : Int32) ∨ u0 = (1 : Int32)) (c_u1 : u1 = (0 : Int32) ∨ u1 = (1 : Int32)) (c_u2 : u2 = (0 : Int32) ∨ u2 = (1 : Int32)) (c_s : ss = (0 : Int32) ∨ ss = (1 : Int32) ∨ ss = (2 : Int32)) (hv1 : v1 = (((1 : Int32) + ss) % (3 : Int32))) (hv2 : v2 = (((2 : Int32) + ss) % (3 : Int32))) : v2 < (3 : Int32) := by
  subst hv1 hv2; rcases c_u0 with rfl | rfl <;> rcases c_u1 with rfl | rfl <;> rcases c_u2 with rfl | rfl <;> rcases c_s with rfl | rfl | rfl <;> decide +kernel
theorem own_k14 (u0 u1 u2 ss v1 v2 : Int32) (c_u0 : u0 = (0 : Int32) ∨ u0 = (1 : Int32)) (c_u1 : u1 = (0 : Int32) ∨ u1 = (1 : Int32)) (c_u2 : u2 = (0 : Int32) ∨ u2 = (1 : Int32)) (c_s : ss = (0 : Int32) ∨ ss = (1 : Int32) ∨ ss = (2 : Int32)) (hv1 : v1 = (((1 : Int32) + ss) % (3 : Int32))) (hv2 : v2 = (((2 : Int32) + ss) % (3 : Int32))) : own_in ((own_f4 u0 u1 u2 ss v1 v2) u2) := by
  unfold own_in; subst hv1 hv2; rcases c_u0 with rfl | rfl <;> rcases c_u1 with rfl | rfl <;> rcases c_u2 with rfl | rfl <;> rcases c_s with rfl | rfl | rfl <;> decide +kernel
theorem own_k15 (u0 u1 u2 ss v1 v2 : Int32) (c_u0 : u0 = (0 : Int32) ∨ u0 = (1 : Int32)) (c_u1 : u1 = (0 : Int32) ∨ u1 = (1 : Int32)) (c_u2 : u2 = (0 : Int32) ∨ u2 = (1 : Int32)) (c_s : ss = (0 : Int32) ∨ ss = (1 : Int32) ∨ ss = (2 : Int32)) (hv1 : v1 = (((1 : Int32) + ss) % (3 : Int32))) (hv2 : v2 = (((2 : Int32) + ss) % (3 : Int32))) : own_in ((own_f11 u0 u1 u2 ss v1 v2) ss) := by
  unfold own_in; subst hv1 hv2; rcases c_u0 with rfl | rfl <;> rcases c_u1 with rfl | rfl <;> rcases c_u2 with rfl | rfl <;> rcases c_s with rfl | rfl | rfl <;> decide +kernel
theorem own_k16 (u0 u1 u2 ss v1 v2 : Int32) (c_u0 : u0 = (0 : Int32) ∨ u0 = (1 : Int32)) (c_u1 : u1 = (0 : Int32) ∨ u1 = (1 : Int32)) (c_u2 : u2 = (0 : Int32) ∨ u2 = (1 : Int32)) (c_s : ss = (0 : Int32) ∨ ss = (1 : Int32) ∨ ss = (2 : Int32)) (hv1 : v1 = (((1 : Int32) + ss) % (3 : Int32))) (hv2 : v2 = (((2 : Int32) + ss) % (3 : Int32))) : own_in (own_rN (own_f10 u0 u1 u2 ss v1 v2) (own_f11 u0 u1 u2 ss v1 v2) ss ss) := by
  unfold own_in; subst hv1 hv2; rcases c_u0 with rfl | rfl <;> rcases c_u1 with rfl | rfl <;> rcases c_u2 with rfl | rfl <;> rcases c_s with rfl | rfl | rfl <;> decide +kernel
theorem own_k17 (u0 u1 u2 ss v1 v2 : Int32) (c_u0 : u0 = (0 : Int32) ∨ u0 = (1 : Int32)) (c_u1 : u1 = (0 : Int32) ∨ u1 = (1 : Int32)) (c_u2 : u2 = (0 : Int32) ∨ u2 = (1 : Int32)) (c_s : ss = (0 : Int32) ∨ ss = (1 : Int32) ∨ ss = (2 : Int32)) (hv1 : v1 = (((1 : Int32) + ss) % (3 : Int32))) (hv2 : v2 = (((2 : Int32) + ss) % (3 : Int32))) : ((own_f12 u0 u1 u2 ss v1 v2) (0 : Int32)) = (own_el (own_upd (own_upd (own_upd own_zero (0 : Int32) ss) (1 : Int32) v1) (2 : Int32) v2) (own_last (own_upd (own_upd (own_upd own_zero (0 : Int32) u0) (1 : Int32) u1) (2 : Int32) u2) (own_upd (own_upd (own_upd own_zero (0 : Int32) (0 : Int32)) (1 : Int32) (1 : Int32)) (2 : Int32) (1 : Int32)) (0 : Int32) (3 : Int32))) := by
  subst hv1 hv2; rcases c_u0 with rfl | rfl <;> rcases c_u1 with rfl | rfl <;> rcases c_u2 with rfl | rfl <;> rcases c_s with rfl | rfl | rfl <;> decide +kernel
theorem own_k18 (u0 u1 u2 ss v1 v2 : Int32) (c_u0 : u0 = (0 : Int32) ∨ u0 = (1 : Int32)) (c_u1 : u1 = (0 : Int32) ∨ u1 = (1 : Int32)) (c_u2 : u2 = (0 : Int32) ∨ u2 = (1 : Int32)) (c_s : ss = (0 : Int32) ∨ ss = (1 : Int32) ∨ ss = (2 : Int32)) (hv1 : v1 = (((1 : Int32) + ss) % (3 : Int32))) (hv2 : v2 = (((2 : Int32) + ss) % (3 : Int32))) : ((own_f12 u0 u1 u2 ss v1 v2) (1 : Int32)) = (own_el (own_upd (own_upd (own_upd own_zero (0 : Int32) ss) (1 : Int32) v1) (2 : Int32) v2) (own_last (own_upd (own_upd (own_upd own_zero (0 : Int32) u0) (1 : Int32) u1) (2 : Int32) u2) (own_upd (own_upd (own_upd own_zero (0 : Int32) (0 : Int32)) (1 : Int32) (1 : Int32)) (2 : Int32) (1 : Int32)) (1 : Int32) (3 : Int32))) := by
  subst hv1 hv2; rcases c_u0 with rfl | rfl <;> rcases c_u1 with rfl | rfl <;> rcases c_u2 with rfl | rfl <;> rcases c_s with rfl | rfl | rfl <;> decide +kernel
theorem own_k19 (u0 u1 u2 ss v1 v2 : Int32) (c_u0 : u0 = (0 : Int32) ∨ u0 = (1 : Int32)) (c_u1 : u1 = (0 : Int32) ∨ u1 = (1 : Int32)) (c_u2 : u2 = (0 : Int32) ∨ u2 = (1 : Int32)) (c_s : ss = (0 : Int32) ∨ ss = (1 : Int32) ∨ ss = (2 : Int32)) (hv1 : v1 = (((1 : Int32) + ss) % (3 : Int32))) (hv2 : v2 = (((2 : Int32) + ss) % (3 : Int32))) : ((own_f13 u0 u1 u2 ss v1 v2) (0 : Int32)) = (own_cnt (own_upd (own_upd (own_upd own_zero (0 : Int32) u0) (1 : Int32) u1) (2 : Int32) u2) (own_upd (own_upd (own_upd own_zero (0 : Int32) (0 : Int32)) (1 : Int32) (1 : Int32)) (2 : Int32) (1 : Int32)) (0 : Int32)) := by
  subst hv1 hv2; rcases c_u0 with rfl | rfl <;> rcases c_u1 with rfl | rfl <;> rcases c_u2 with rfl | rfl <;> rcases c_s with rfl | rfl | rfl <;> decide +kernel
theorem own_k20 (u0 u1 u2 ss v1 v2 : Int32) (c_u0 : u0 = (0 : Int32) ∨ u0 = (1 : Int32)) (c_u1 : u1 = (0 : Int32) ∨ u1 = (1 : Int32)) (c_u2 : u2 = (0 : Int32) ∨ u2 = (1 : Int32)) (c_s : ss = (0 : Int32) ∨ ss = (1 : Int32) ∨ ss = (2 : Int32)) (hv1 : v1 = (((1 : Int32) + ss) % (3 : Int32))) (hv2 : v2 = (((2 : Int32) + ss) % (3 : Int32))) : ((own_f13 u0 u1 u2 ss v1 v2) (1 : Int32)) = (own_cnt (own_upd (own_upd (own_upd own_zero (0 : Int32) u0) (1 : Int32) u1) (2 : Int32) u2) (own_upd (own_upd (own_upd own_zero (0 : Int32) (0 : Int32)) (1 : Int32) (1 : Int32)) (2 : Int32) (1 : Int32)) (1 : Int32)) := by
  subst hv1 hv2; rcases c_u0 with rfl | rfl <;> rcases c_u1 with rfl | rfl <;> rcases c_u2 with rfl | rfl <;> rcases c_s with rfl | rfl | rfl <;> decide +kernel
theorem own_k21 (u0 u1 u2 ss v1 v2 : Int32) (c_u0 : u0 = (0 : Int32) ∨ u0 = (1 : Int32)) (c_u1 : u1 = (0 : Int32) ∨ u1 = (1 : Int32)) (c_u2 : u2 = (0 : Int32) ∨ u2 = (1 : Int32)) (c_s : ss = (0 : Int32) ∨ ss = (1 : Int32) ∨ ss = (2 : Int32)) (hv1 : v1 = (((1 : Int32) + ss) % (3 : Int32))) (hv2 : v2 = (((2 : Int32) + ss) % (3 : Int32))) : ((own_f14 u0 u1 u2 ss v1 v2) v1) = (own_el (own_upd (own_upd (own_upd own_zero (0 : Int32) ss) (1 : Int32) v1) (2 : Int32) v2) (own_last (own_upd (own_upd (own_upd own_zero (0 : Int32) u0) (1 : Int32) u1) (2 : Int32) u2) (own_upd (own_upd (own_upd own_zero (0 : Int32) (0 : Int32)) (1 : Int32) (1 : Int32)) (2 : Int32) (1 : Int32)) u1 (1 : Int32))) := by
  subst hv1 hv2; rcases c_u0 with rfl | rfl <;> rcases c_u1 with rfl | rfl <;> rcases c_u2 with rfl | rfl <;> rcases c_s with rfl | rfl | rfl <;> decide +kernel
theorem own_k22 (u0 u1 u2 ss v1 v2 : Int32) (c_u0 : u0 = (0 : Int32) ∨ u0 = (1 : Int32)) (c_u1 : u1 = (0 : Int32) ∨ u1 = (1 : Int32)) (c_u2 : u2 = (0 : Int32) ∨ u2 = (1 : Int32)) (c_s : ss = (0 : Int32) ∨ ss = (1 : Int32) ∨ ss = (2 : Int32)) (hv1 : v1 = (((1 : Int32) + ss) % (3 : Int32))) (hv2 : v2 = (((2 : Int32) + ss) % (3 : Int32))) : ((own_f14 u0 u1 u2 ss v1 v2) v2) = (own_el (own_upd (own_upd (own_upd own_zero (0 : Int32) ss) (1 : Int32) v1) (2 : Int32) v2) (own_last (own_upd (own_upd (own_upd own_zero (0 : Int32) u0) (1 : Int32) u1) (2 : Int32) u2) (own_upd (own_upd (own_upd own_zero (0 : Int32) (0 : Int32)) (1 : Int32) (1 : Int32)) (2 : Int32) (1 : Int32)) u2 (2 : Int32))) := by
  subst hv1 hv2; rcases c_u0 with rfl | rfl <;> rcases c_u1 with rfl | rfl <;> rcases c_u2 with rfl | rfl <;> rcases c_s with rfl | rfl | rfl <;> decide +kernel
theorem own_k23 (u0 u1 u2 ss v1 v2 : Int32) (c_u0 : u0 = (0 : Int32) ∨ u0 = (1 : Int32)) (c_u1 : u1 = (0 : Int32) ∨ u1 = (1 : Int32)) (c_u2 : u2 = (0 : Int32) ∨ u2 = (1 : Int32)) (c_s : ss = (0 : Int32) ∨ ss = (1 : Int32) ∨ ss = (2 : Int32)) (hv1 : v1 = (((1 : Int32) + ss) % (3 : Int32))) (hv2 : v2 = (((2 : Int32) + ss) % (3 : Int32))) : own_in ((own_f11 u0 u1 u2 ss v1 v2) v1) := by
  unfold own_in; subst hv1 hv2; rcases c_u0 with rfl | rfl <;> rcases c_u1 with rfl | rfl <;> rcases c_u2 with rfl | rfl <;> rcases c_s with rfl | rfl | rfl <;> decide +kernel
theorem own_k24 (u0 u1 u2 ss v1 v2 : Int32) (c_u0 : u0 = (0 : Int32) ∨ u0 = (1 : Int32)) (c_u1 : u1 = (0 : Int32) ∨ u1 = (1 : Int32)) (c_u2 : u2 = (0 : Int32) ∨ u2 = (1 : Int32)) (c_s : ss = (0 : Int32) ∨ ss = (1 : Int32) ∨ ss = (2 : Int32)) (hv1 : v1 = (((1 : Int32) + ss) % (3 : Int32))) (hv2 : v2 = (((2 : Int32) + ss) % (3 : Int32))) : own_in (own_rN (own_f10 u0 u1 u2 ss v1 v2) (own_f11 u0 u1 u2 ss v1 v2) v1 v1) := by
  unfold own_in; subst hv1 hv2; rcases c_u0 with rfl | rfl <;> rcases c_u1 with rfl | rfl <;> rcases c_u2 with rfl | rfl <;> rcases c_s with rfl | rfl | rfl <;> decide +kernel
theorem own_k25 (u0 u1 u2 ss v1 v2 : Int32) (c_u0 : u0 = (0 : Int32) ∨ u0 = (1 : Int32)) (c_u1 : u1 = (0 : Int32) ∨ u1 = (1 : Int32)) (c_u2 : u2 = (0 : Int32) ∨ u2 = (1 : Int32)) (c_s : ss = (0 : Int32) ∨ ss = (1 : Int32) ∨ ss = (2 : Int32)) (hv1 : v1 = (((1 : Int32) + ss) % (3 : Int32))) (hv2 : v2 = (((2 : Int32) + ss) % (3 : Int32))) : ((own_f16 u0 u1 u2 ss v1 v2) (0 : Int32)) = (own_el (own_upd (own_upd (own_upd own_zero (0 : Int32) ss) (1 : Int32) v1) (2 : Int32) v2) (own_last (own_upd (own_upd (own_upd own_zero (0 : Int32) u0) (1 : Int32) u1) (2 : Int32) u2) (own_upd (own_upd (own_upd own_zero (0 : Int32) (1 : Int32)) (1 : Int32) (0 : Int32)) (2 : Int32) (1 : Int32)) (0 : Int32) (3 : Int32))) := by
  subst hv1 hv2; rcases c_u0 with rfl | rfl <;> rcases c_u1 with rfl | rfl <;> rcases c_u2 with rfl | rfl <;> rcases c_s with rfl | rfl | rfl <;> decide +kernel
theorem own_k26 (u0 u1 u2 ss v1 v2 : Int32) (c_u0 : u0 = (0 : Int32) ∨ u0 = (1 : Int32)) (c_u1 : u1 = (0 : Int32) ∨ u1 = (1 : Int32)) (c_u2 : u2 = (0 : Int32) ∨ u2 = (1 : Int32)) (c_s : ss = (0 : Int32) ∨ ss = (1 : Int32) ∨ ss = (2 : Int32)) (hv1 : v1 = (((1 : Int32) + ss) % (3 : Int32))) (hv2 : v2 = (((2 : Int32) + ss) % (3 : Int32))) : ((own_f16 u0 u1 u2 ss v1 v2) (1 : Int32)) = (own_el (own_upd (own_upd (own_upd own_zero (0 : Int32) ss) (1 : Int32) v1) (2 : Int32) v2) (own_last (own_upd (own_upd (own_upd own_zero (0 : Int32) u0) (1 : Int32) u1) (2 : Int32) u2) (own_upd (own_upd (own_upd own_zero (0 : Int32) (1 : Int32)) (1 : Int32) (0 : Int32)) (2 : Int32) (1 : Int32)) (1 : Int32) (3 : Int32))) := by
  subst hv1 hv2; rcases c_u0 with rfl | rfl <;> rcases c_u1 with rfl | rfl <;> rcases c_u2 with rfl | rfl <;> rcases c_s with rfl | rfl | rfl <;> decide +kernel
theorem own_k27 (u0 u1 u2 ss v1 v2 : Int32) (c_u0 : u0 = (0 : Int32) ∨ u0 = (1 : Int32)) (c_u1 : u1 = (0 : Int32) ∨ u1 = (1 : Int32)) (c_u2 : u2 = (0 : Int32) ∨ u2 = (1 : Int32)) (c_s : ss = (0 : Int32) ∨ ss = (1 : Int32) ∨ ss = (2 : Int32)) (hv1 : v1 = (((1 : Int32) + ss) % (3 : Int32))) (hv2 : v2 = (((2 : Int32) + ss) % (3 : Int32))) : ((own_f17 u0 u1 u2 ss v1 v2) (0 : Int32)) = (own_cnt (own_upd (own_upd (own_upd own_zero (0 : Int32) u0) (1 : Int32) u1) (2 : Int32) u2) (own_upd (own_upd (own_upd own_zero (0 : Int32) (1 : Int32)) (1 : Int32) (0 : Int32)) (2 : Int32) (1 : Int32)) (0 : Int32)) := by
  subst hv1 hv2; rcases c_u0 with rfl | rfl <;> rcases c_u1 with rfl | rfl <;> rcases c_u2 with rfl | rfl <;> rcases c_s with rfl | rfl | rfl <;> decide +kernel
theorem own_k28 (u0 u1 u2 ss v1 v2 : Int32) (c_u0 : u0 = (0 : Int32) ∨ u0 = (1 : Int32)) (c_u1 : u1 = (0 : Int32) ∨ u1 = (1 : Int32)) (c_u2 : u2 = (0 : Int32) ∨ u2 = (1 : Int32)) (c_s : ss = (0 : Int32) ∨ ss = (1 : Int32) ∨ ss = (2 : Int32)) (hv1 : v1 = (((1 : Int32) + ss) % (3 : Int32))) (hv2 : v2 = (((2 : Int32) + ss) % (3 : Int32))) : ((own_f17 u0 u1 u2 ss v1 v2) (1 : Int32)) = (own_cnt (own_upd (own_upd (own_upd own_zero (0 : Int32) u0) (1 : Int32) u1) (2 : Int32) u2) (own_upd (own_upd (own_upd own_zero (0 : Int32) (1 : Int32)) (1 : Int32) (0 : Int32)) (2 : Int32) (1 : Int32)) (1 : Int32)) := by
  subst hv1 hv2; rcases c_u0 with rfl | rfl <;> rcases c_u1 with rfl | rfl <;> rcases c_u2 with rfl | rfl <;> rcases c_s with rfl | rfl | rfl <;> decide +kernel
theorem own_k29 (u0 u1 u2 ss v1 v2 : Int32) (c_u0 : u0 = (0 : Int32) ∨ u0 = (1 : Int32)) (c_u1 : u1 = (0 : Int32) ∨ u1 = (1 : Int32)) (c_u2 : u2 = (0 : Int32) ∨ u2 = (1 : Int32)) (c_s : ss = (0 : Int32) ∨ ss = (1 : Int32) ∨ ss = (2 : Int32)) (hv1 : v1 = (((1 : Int32) + ss) % (3 : Int32))) (hv2 : v2 = (((2 : Int32) + ss) % (3 : Int32))) : ((own_f18 u0 u1 u2 ss v1 v2) ss) = (own_el (own_upd (own_upd (own_upd own_zero (0 : Int32) ss) (1 : Int32) v1) (2 : Int32) v2) (own_last (own_upd (own_upd (own_upd own_zero (0 : Int32) u0) (1 : Int32) u1) (2 : Int32) u2) (own_upd (own_upd (own_upd own_zero (0 : Int32) (1 : Int32)) (1 : Int32) (0 : Int32)) (2 : Int32) (1 : Int32)) u0 (0 : Int32))) := by
  subst hv1 hv2; rcases c_u0 with rfl | rfl <;> rcases c_u1 with rfl | rfl <;> rcases c_u2 with rfl | rfl <;> rcases c_s with rfl | rfl | rfl <;> decide +kernel
theorem own_k30 (u0 u1 u2 ss v1 v2 : Int32) (c_u0 : u0 = (0 : Int32) ∨ u0 = (1 : Int32)) (c_u1 : u1 = (0 : Int32) ∨ u1 = (1 : Int32)) (c_u2 : u2 = (0 : Int32) ∨ u2 = (1 : Int32)) (c_s : ss = (0 : Int32) ∨ ss = (1 : Int32) ∨ ss = (2 : Int32)) (hv1 : v1 = (((1 : Int32) + ss) % (3 : Int32))) (hv2 : v2 = (((2 : Int32) + ss) % (3 : Int32))) : ((own_f18 u0 u1 u2 ss v1 v2) v2) = (own_el (own_upd (own_upd (own_upd own_zero (0 : Int32) ss) (1 : Int32) v1) (2 : Int32) v2) (own_last (own_upd (own_upd (own_upd own_zero (0 : Int32) u0) (1 : Int32) u1) (2 : Int32) u2) (own_upd (own_upd (own_upd own_zero (0 : Int32) (1 : Int32)) (1 : Int32) (0 : Int32)) (2 : Int32) (1 : Int32)) u2 (2 : Int32))) := by
  subst hv1 hv2; rcases c_u0 with rfl | rfl <;> rcases c_u1 with rfl | rfl <;> rcases c_u2 with rfl | rfl <;> rcases c_s with rfl | rfl | rfl <;> decide +kernel
theorem own_k31 (u0 u1 u2 ss v1 v2 : Int32) (c_u0 : u0 = (0 : Int32) ∨ u0 = (1 : Int32)) (c_u1 : u1 = (0 : Int32) ∨ u1 = (1 : Int32)) (c_u2 : u2 = (0 : Int32) ∨ u2 = (1 : Int32)) (c_s : ss = (0 : Int32) ∨ ss = (1 : Int32) ∨ ss = (2 : Int32)) (hv1 : v1 = (((1 : Int32) + ss) % (3 : Int32))) (hv2 : v2 = (((2 : Int32) + ss) % (3 : Int32))) : own_in ((own_f11 u0 u1 u2 ss v1 v2) v2) := by
  unfold own_in; subst hv1 hv2; rcases c_u0 with rfl | rfl <;> rcases c_u1 with rfl | rfl <;> rcases c_u2 with rfl | rfl <;> rcases c_s with rfl | rfl | rfl <;> decide +kernel
theorem own_k32 (u0 u1 u2 ss v1 v2 : Int32) (c_u0 : u0 = (0 : Int32) ∨ u0 = (1 : Int32)) (c_u1 : u1 = (0 : Int32) ∨ u1 = (1 : Int32)) (c_u2 : u2 = (0 : Int32) ∨ u2 = (1 : Int32)) (c_s : ss = (0 : Int32) ∨ ss = (1 : Int32) ∨ ss = (2 : Int32)) (hv1 : v1 = (((1 : Int32) + ss) % (3 : Int32))) (hv2 : v2 = (((2 : Int32) + ss) % (3 : Int32))) : own_in (own_rN (own_f10 u0 u1 u2 ss v1 v2) (own_f11 u0 u1 u2 ss v1 v2) v2 v2) := by
  unfold own_in; subst hv1 hv2; rcases c_u0 with rfl | rfl <;> rcases c_u1 with rfl | rfl <;> rcases c_u2 with rfl | rfl <;> rcases c_s with rfl | rfl | rfl <;> decide +kernel
theorem own_k33 (u0 u1 u2 ss v1 v2 : Int32) (c_u0 : u0 = (0 : Int32) ∨ u0 = (1 : Int32)) (c_u1 : u1 = (0 : Int32) ∨ u1 = (1 : Int32)) (c_u2 : u2 = (0 : Int32) ∨ u2 = (1 : Int32)) (c_s : ss = (0 : Int32) ∨ ss = (1 : Int32) ∨ ss = (2 : Int32)) (hv1 : v1 = (((1 : Int32) + ss) % (3 : Int32))) (hv2 : v2 = (((2 : Int32) + ss) % (3 : Int32))) : ((own_f20 u0 u1 u2 ss v1 v2) (0 : Int32)) = (own_el (own_upd (own_upd (own_upd own_zero (0 : Int32) ss) (1 : Int32) v1) (2 : Int32) v2) (own_last (own_upd (own_upd (own_upd own_zero (0 : Int32) u0) (1 : Int32) u1) (2 : Int32) u2) (own_upd (own_upd (own_upd own_zero (0 : Int32) (1 : Int32)) (1 : Int32) (1 : Int32)) (2 : Int32) (0 : Int32)) (0 : Int32) (3 : Int32))) := by
  subst hv1 hv2; rcases c_u0 with rfl | rfl <;> rcases c_u1 with rfl | rfl <;> rcases c_u2 with rfl | rfl <;> rcases c_s with rfl | rfl | rfl <;> decide +kernel
theorem own_k34 (u0 u1 u2 ss v1 v2 : Int32) (c_u0 : u0 = (0 : Int32) ∨ u0 = (1 : Int32)) (c_u1 : u1 = (0 : Int32) ∨ u1 = (1 : Int32)) (c_u2 : u2 = (0 : Int32) ∨ u2 = (1 : Int32)) (c_s : ss = (0 : Int32) ∨ ss = (1 : Int32) ∨ ss = (2 : Int32)) (hv1 : v1 = (((1 : Int32) + ss) % (3 : Int32))) (hv2 : v2 = (((2 : Int32) + ss) % (3 : Int32))) : ((own_f20 u0 u1 u2 ss v1 v2) (1 : Int32)) = (own_el (own_upd (own_upd (own_upd own_zero (0 : Int32) ss) (1 : Int32) v1) (2 : Int32) v2) (own_last (own_upd (own_upd (own_upd own_zero (0 : Int32) u0) (1 : Int32) u1) (2 : Int32) u2) (own_upd (own_upd (own_upd own_zero (0 : Int32) (1 : Int32)) (1 : Int32) (1 : Int32)) (2 : Int32) (0 : Int32)) (1 : Int32) (3 : Int32))) := by
  subst hv1 hv2; rcases c_u0 with rfl | rfl <;> rcases c_u1 with rfl | rfl <;> rcases c_u2 with rfl | rfl <;> rcases c_s with rfl | rfl | rfl <;> decide +kernel
theorem own_k35 (u0 u1 u2 ss v1 v2 : Int32) (c_u0 : u0 = (0 : Int32) ∨ u0 = (1 : Int32)) (c_u1 : u1 = (0 : Int32) ∨ u1 = (1 : Int32)) (c_u2 : u2 = (0 : Int32) ∨ u2 = (1 : Int32)) (c_s : ss = (0 : Int32) ∨ ss = (1 : Int32) ∨ ss = (2 : Int32)) (hv1 : v1 = (((1 : Int32) + ss) % (3 : Int32))) (hv2 : v2 = (((2 : Int32) + ss) % (3 : Int32))) : ((own_f21 u0 u1 u2 ss v1 v2) (0 : Int32)) = (own_cnt (own_upd (own_upd (own_upd own_zero (0 : Int32) u0) (1 : Int32) u1) (2 : Int32) u2) (own_upd (own_upd (own_upd own_zero (0 : Int32) (1 : Int32)) (1 : Int32) (1 : Int32)) (2 : Int32) (0 : Int32)) (0 : Int32)) := by
  subst hv1 hv2; rcases c_u0 with rfl | rfl <;> rcases c_u1 with rfl | rfl <;> rcases c_u2 with rfl | rfl <;> rcases c_s with rfl | rfl | rfl <;> decide +kernel
theorem own_k36 (u0 u1 u2 ss v1 v2 : Int32) (c_u0 : u0 = (0 : Int32) ∨ u0 = (1 : Int32)) (c_u1 : u1 = (0 : Int32) ∨ u1 = (1 : Int32)) (c_u2 : u2 = (0 : Int32) ∨ u2 = (1 : Int32)) (c_s : ss = (0 : Int32) ∨ ss = (1 : Int32) ∨ ss = (2 : Int32)) (hv1 : v1 = (((1 : Int32) + ss) % (3 : Int32))) (hv2 : v2 = (((2 : Int32) + ss) % (3 : Int32))) : ((own_f21 u0 u1 u2 ss v1 v2) (1 : Int32)) = (own_cnt (own_upd (own_upd (own_upd own_zero (0 : Int32) u0) (1 : Int32) u1) (2 : Int32) u2) (own_upd (own_upd (own_upd own_zero (0 : Int32) (1 : Int32)) (1 : Int32) (1 : Int32)) (2 : Int32) (0 : Int32)) (1 : Int32)) := by
  subst hv1 hv2; rcases c_u0 with rfl | rfl <;> rcases c_u1 with rfl | rfl <;> rcases c_u2 with rfl | rfl <;> rcases c_s with rfl | rfl | rfl <;> decide +kernel
theorem own_k37 (u0 u1 u2 ss v1 v2 : Int32) (c_u0 : u0 = (0 : Int32) ∨ u0 = (1 : Int32)) (c_u1 : u1 = (0 : Int32) ∨ u1 = (1 : Int32)) (c_u2 : u2 = (0 : Int32) ∨ u2 = (1 : Int32)) (c_s : ss = (0 : Int32) ∨ ss = (1 : Int32) ∨ ss = (2 : Int32)) (hv1 : v1 = (((1 : Int32) + ss) % (3 : Int32))) (hv2 : v2 = (((2 : Int32) + ss) % (3 : Int32))) : ((own_f22 u0 u1 u2 ss v1 v2) ss) = (own_el (own_upd (own_upd (own_upd own_zero (0 : Int32) ss) (1 : Int32) v1) (2 : Int32) v2) (own_last (own_upd (own_upd (own_upd own_zero (0 : Int32) u0) (1 : Int32) u1) (2 : Int32) u2) (own_upd (own_upd (own_upd own_zero (0 : Int32) (1 : Int32)) (1 : Int32) (1 : Int32)) (2 : Int32) (0 : Int32)) u0 (0 : Int32))) := by
  subst hv1 hv2; rcases c_u0 with rfl | rfl <;> rcases c_u1 with rfl | rfl <;> rcases c_u2 with rfl | rfl <;> rcases c_s with rfl | rfl | rfl <;> decide +kernel
theorem own_k38 (u0 u1 u2 ss v1 v2 : Int32) (c_u0 : u0 = (0 : Int32) ∨ u0 = (1 : Int32)) (c_u1 : u1 = (0 : Int32) ∨ u1 = (1 : Int32)) (c_u2 : u2 = (0 : Int32) ∨ u2 = (1 : Int32)) (c_s : ss = (0 : Int32) ∨ ss = (1 : Int32) ∨ ss = (2 : Int32)) (hv1 : v1 = (((1 : Int32) + ss) % (3 : Int32))) (hv2 : v2 = (((2 : Int32) + ss) % (3 : Int32))) : ((own_f22 u0 u1 u2 ss v1 v2) v1) = (own_el (own_upd (own_upd (own_upd own_zero (0 : Int32) ss) (1 : Int32) v1) (2 : Int32) v2) (own_last (own_upd (own_upd (own_upd own_zero (0 : Int32) u0) (1 : Int32) u1) (2 : Int32) u2) (own_upd (own_upd (own_upd own_zero (0 : Int32) (1 : Int32)) (1 : Int32) (1 : Int32)) (2 : Int32) (0 : Int32)) u1 (1 : Int32))) := by
  subst hv1 hv2; rcases c_u0 with rfl | rfl <;> rcases c_u1 with rfl | rfl <;> rcases c_u2 with rfl | rfl <;> rcases c_s with rfl | rfl | rfl <;> decide +kernel
theorem own_k39 (u0 u1 u2 ss v1 v2 : Int32) (c_u0 : u0 = (0 : Int32) ∨ u0 = (1 : Int32)) (c_u1 : u1 = (0 : Int32) ∨ u1 = (1 : Int32)) (c_u2 : u2 = (0 : Int32) ∨ u2 = (1 : Int32)) (c_s : ss = (0 : Int32) ∨ ss = (1 : Int32) ∨ ss = (2 : Int32)) (hv1 : v1 = (((1 : Int32) + ss) % (3 : Int32))) (hv2 : v2 = (((2 : Int32) + ss) % (3 : Int32))) : ((own_f8 u0 u1 u2 ss v1 v2) (0 : Int32)) = (own_el (own_upd (own_upd (own_upd own_zero (0 : Int32) ss) (1 : Int32) v1) (2 : Int32) v2) (own_last (own_upd (own_upd (own_upd own_zero (0 : Int32) u0) (1 : Int32) u1) (2 : Int32) u2) (own_upd (own_upd (own_upd own_zero (0 : Int32) (1 : Int32)) (1 : Int32) (1 : Int32)) (2 : Int32) (1 : Int32)) (0 : Int32) (3 : Int32))) := by
  subst hv1 hv2; rcases c_u0 with rfl | rfl <;> rcases c_u1 with rfl | rfl <;> rcases c_u2 with rfl | rfl <;> rcases c_s with rfl | rfl | rfl <;> decide +kernel
theorem own_k40 (u0 u1 u2 ss v1 v2 : Int32) (c_u0 : u0 = (0 : Int32) ∨ u0 = (1 : Int32)) (c_u1 : u1 = (0 : Int32) ∨ u1 = (1 : Int32)) (c_u2 : u2 = (0 : Int32) ∨ u2 = (1 : Int32)) (c_s : ss = (0 : Int32) ∨ ss = (1 : Int32) ∨ ss = (2 : Int32)) (hv1 : v1 = (((1 : Int32) + ss) % (3 : Int32))) (hv2 : v2 = (((2 : Int32) + ss) % (3 : Int32))) : ((own_f8 u0 u1 u2 ss v1 v2) (1 : Int32)) = (own_el (own_upd (own_upd (own_upd own_zero (0 : Int32) ss) (1 : Int32) v1) (2 : Int32) v2) (own_last (own_upd (own_upd (own_upd own_zero (0 : Int32) u0) (1 : Int32) u1) (2 : Int32) u2) (own_upd (own_upd (own_upd own_zero (0 : Int32) (1 : Int32)) (1 : Int32) (1 : Int32)) (2 : Int32) (1 : Int32)) (1 : Int32) (3 : Int32))) := by
  subst hv1 hv2; rcases c_u0 with rfl | rfl <;> rcases c_u1 with rfl | rfl <;> rcases c_u2 with rfl | rfl <;> rcases c_s with rfl | rfl | rfl <;> decide +kernel
theorem own_k41 (u0 u1 u2 ss v1 v2 : Int32) (c_u0 : u0 = (0 : Int32) ∨ u0 = (1 : Int32)) (c_u1 : u1 = (0 : Int32) ∨ u1 = (1 : Int32)) (c_u2 : u2 = (0 : Int32) ∨ u2 = (1 : Int32)) (c_s : ss = (0 : Int32) ∨ ss = (1 : Int32) ∨ ss = (2 : Int32)) (hv1 : v1 = (((1 : Int32) + ss) % (3 : Int32))) (hv2 : v2 = (((2 : Int32) + ss) % (3 : Int32))) : ((own_f9 u0 u1 u2 ss v1 v2) (0 : Int32)) = (own_cnt (own_upd (own_upd (own_upd own_zero (0 : Int32) u0) (1 : Int32) u1) (2 : Int32) u2) (own_upd (own_upd (own_upd own_zero (0 : Int32) (1 : Int32)) (1 : Int32) (1 : Int32)) (2 : Int32) (1 : Int32)) (0 : Int32)) := by
  subst hv1 hv2; rcases c_u0 with rfl | rfl <;> rcases c_u1 with rfl | rfl <;> rcases c_u2 with rfl | rfl <;> rcases c_s with rfl | rfl | rfl <;> decide +kernel
theorem own_k42 (u0 u1 u2 ss v1 v2 : Int32) (c_u0 : u0 = (0 : Int32) ∨ u0 = (1 : Int32)) (c_u1 : u1 = (0 : Int32) ∨ u1 = (1 : Int32)) (c_u2 : u2 = (0 : Int32) ∨ u2 = (1 : Int32)) (c_s : ss = (0 : Int32) ∨ ss = (1 : Int32) ∨ ss = (2 : Int32)) (hv1 : v1 = (((1 : Int32) + ss) % (3 : Int32))) (hv2 : v2 = (((2 : Int32) + ss) % (3 : Int32))) : ((own_f9 u0 u1 u2 ss v1 v2) (1 : Int32)) = (own_cnt (own_upd (own_upd (own_upd own_zero (0 : Int32) u0) (1 : Int32) u1) (2 : Int32) u2) (own_upd (own_upd (own_upd own_zero (0 : Int32) (1 : Int32)) (1 : Int32) (1 : Int32)) (2 : Int32) (1 : Int32)) (1 : Int32)) := by
  subst hv1 hv2; rcases c_u0 with rfl | rfl <;> rcases c_u1 with rfl | rfl <;> rcases c_u2 with rfl | rfl <;> rcases c_s with rfl | rfl | rfl <;> decide +kernel
theorem own_k43 (u0 u1 u2 ss v1 v2 : Int32) (c_u0 : u0 = (0 : Int32) ∨ u0 = (1 : Int32)) (c_u1 : u1 = (0 : Int32) ∨ u1 = (1 : Int32)) (c_u2 : u2 = (0 : Int32) ∨ u2 = (1 : Int32)) (c_s : ss = (0 : Int32) ∨ ss = (1 : Int32) ∨ ss = (2 : Int32)) (hv1 : v1 = (((1 : Int32) + ss) % (3 : Int32))) (hv2 : v2 = (((2 : Int32) + ss) % (3 : Int32))) : ((own_f10 u0 u1 u2 ss v1 v2) ss) = (own_el (own_upd (own_upd (own_upd own_zero (0 : Int32) ss) (1 : Int32) v1) (2 : Int32) v2) (own_last (own_upd (own_upd (own_upd own_zero (0 : Int32) u0) (1 : Int32) u1) (2 : Int32) u2) (own_upd (own_upd (own_upd own_zero (0 : Int32) (1 : Int32)) (1 : Int32) (1 : Int32)) (2 : Int32) (1 : Int32)) u0 (0 : Int32))) := by
  subst hv1 hv2; rcases c_u0 with rfl | rfl <;> rcases c_u1 with rfl | rfl <;> rcases c_u2 with rfl | rfl <;> rcases c_s with rfl | rfl | rfl <;> decide +kernel
theorem own_k44 (u0 u1 u2 ss v1 v2 : Int32) (c_u0 : u0 = (0 : Int32) ∨ u0 = (1 : Int32)) (c_u1 : u1 = (0 : Int32) ∨ u1 = (1 : Int32)) (c_u2 : u2 = (0 : Int32) ∨ u2 = (1 : Int32)) (c_s : ss = (0 : Int32) ∨ ss = (1 : Int32) ∨ ss = (2 : Int32)) (hv1 : v1 = (((1 : Int32) + ss) % (3 : Int32))) (hv2 : v2 = (((2 : Int32) + ss) % (3 : Int32))) : ((own_f10 u0 u1 u2 ss v1 v2) v1) = (own_el (own_upd (own_upd (own_upd own_zero (0 : Int32) ss) (1 : Int32) v1) (2 : Int32) v2) (own_last (own_upd (own_upd (own_upd own_zero (0 : Int32) u0) (1 : Int32) u1) (2 : Int32) u2) (own_upd (own_upd (own_upd own_zero (0 : Int32) (1 : Int32)) (1 : Int32) (1 : Int32)) (2 : Int32) (1 : Int32)) u1 (1 : Int32))) := by
  subst hv1 hv2; rcases c_u0 with rfl | rfl <;> rcases c_u1 with rfl | rfl <;> rcases c_u2 with rfl | rfl <;> rcases c_s with rfl | rfl | rfl <;> decide +kernel
theorem own_k45 (u0 u1 u2 ss v1 v2 : Int32) (c_u0 : u0 = (0 : Int32) ∨ u0 = (1 : Int32)) (c_u1 : u1 = (0 : Int32) ∨ u1 = (1 : Int32)) (c_u2 : u2 = (0 : Int32) ∨ u2 = (1 : Int32)) (c_s : ss = (0 : Int32) ∨ ss = (1 : Int32) ∨ ss = (2 : Int32)) (hv1 : v1 = (((1 : Int32) + ss) % (3 : Int32))) (hv2 : v2 = (((2 : Int32) + ss) % (3 : Int32))) : ((own_f10 u0 u1 u2 ss v1 v2) v2) = (own_el (own_upd (own_upd (own_upd own_zero (0 : Int32) ss) (1 : Int32) v1) (2 : Int32) v2) (own_last (own_upd (own_upd (own_upd own_zero (0 : Int32) u0) (1 : Int32) u1) (2 : Int32) u2) (own_upd (own_upd (own_upd own_zero (0 : Int32) (1 : Int32)) (1 : Int32) (1 : Int32)) (2 : Int32) (1 : Int32)) u2 (2 : Int32))) := by
  subst hv1 hv2; rcases c_u0 with rfl | rfl <;> rcases c_u1 with rfl | rfl <;> rcases c_u2 with rfl | rfl <;> rcases c_s with rfl | rfl | rfl <;> decide +kernel
theorem pn_0 : plainName "com/example/process_stepper/processstepper/equivalence/IntListsPushPinLaw" = true := by first | (simp [plainName, overriddenIn]; done) | decide +kernel
theorem pd__II_V : parseMethodDescriptor "(II)V" = some ⟨[.int, .int], none⟩ := by decide +kernel
theorem pd__I_I : parseMethodDescriptor "(I)I" = some ⟨[.int], some .int⟩ := by decide +kernel
theorem pd___I_ZII_I : parseMethodDescriptor "([I[ZII)I" = some ⟨[(.array .int), (.array .boolean), .int, .int], some .int⟩ := by decide +kernel
theorem pd___II_I : parseMethodDescriptor "([II)I" = some ⟨[(.array .int), .int], some .int⟩ := by decide +kernel
theorem pd___I_ZI_I : parseMethodDescriptor "([I[ZI)I" = some ⟨[(.array .int), (.array .boolean), .int], some .int⟩ := by decide +kernel
abbrev own_m2 : MethodName := ⟨"com/example/process_stepper/processstepper/equivalence/IntLists", "<init>", "(II)V"⟩
abbrev own_m3 : MethodName := ⟨"com/example/process_stepper/processstepper/equivalence/IntLists", "push", "(II)V"⟩
abbrev own_m4 : MethodName := ⟨"com/example/process_stepper/processstepper/equivalence/IntLists", "remove", "(II)V"⟩
abbrev own_m5 : MethodName := ⟨"com/example/process_stepper/processstepper/equivalence/IntLists", "first", "(I)I"⟩
abbrev own_m6 : MethodName := ⟨"com/example/process_stepper/processstepper/equivalence/IntListsPushPinLaw", "last", "([I[ZII)I"⟩
abbrev own_m7 : MethodName := ⟨"com/example/process_stepper/processstepper/equivalence/IntListsPushPinLaw", "elementAt", "([II)I"⟩
abbrev own_m8 : MethodName := ⟨"com/example/process_stepper/processstepper/equivalence/IntLists", "size", "(I)I"⟩
abbrev own_m9 : MethodName := ⟨"com/example/process_stepper/processstepper/equivalence/IntListsPushPinLaw", "count", "([I[ZI)I"⟩
abbrev own_m10 : MethodName := ⟨"com/example/process_stepper/processstepper/equivalence/IntLists", "next", "(I)I"⟩
theorem ef_0 (m : MethodId) (p1 : Int32) (p2 : Int32) (p3 : Int32) : entryFrame m #[(.int p1), (.int p2), (.int p3)] maxLocals = mkF m 0 #[.val (.int p1), .val (.int p2), .val (.int p3), .unset, .unset, .unset, .unset, .unset, .unset, .unset] [] := by first | (simp [entryFrame, mkF, argsToLocals, Value.category, maxLocals]; done) | rfl
def Q0_0 (Z : State) (p1 p2 p3 : Int32) (h0 : Heap) (n0 : Nat) (v : Option Value) (h : Heap) (L : List Loc) : Prop := v = some (.int (1 : Int32)) ∧ Fr n0 L
set_option maxRecDepth 65536 in
set_option maxHeartbeats 40000000 in
theorem rm0_0 (l : Launch) (Z : State) (a0 : Array Value) (hw : ∀ d ∈ tables_1, d.before a0 Z = true) (ws : List Jvm.Cond) (p1 p2 p3 : Int32) (h0 : Heap) (n0 : Nat) (Z0 : n0 ≤ h0.size) (hR : ((p2 &&& (2147483647 : Int32)) % (4 : Int32)) = (0 : Int32)) :
    MetFree l x (head1 (Jvm.Cond.code x code maxLocals ret :: ws) room_1) (fun a U => a = #[(.int p1), (.int p2), (.int p3)] ∧ Z.Warmed39 U.vm ∧ U.heap = h0) (fun _ _ _ _ _ => True) (fun _ U o U' => ∃ v L, o = .returned v ∧ Q0_0 Z p1 p2 p3 h0 n0 v U'.heap L ∧ FrameEnd U o U' L room_1.cells room_1.slots) := by
  refine MetFree.of_bodySF (plainFor_of_name pn_0) hisR ?_
  intro p e s m args below meth c s₁ Bd hml0 hP hK
  obtain ⟨rfl, hZ, hh⟩ := hP
  have hx := Bd.exec
  have hby := Bd.bytes
  have hml : c.maxLocals = 10 := hml0
  have hown : s.vm.findClass "com/example/process_stepper/processstepper/equivalence/IntListsPushPinLaw" = some m.cls := findClass_of_methodNamed Bd.named
  have hnm := (name_of_methodNamed Bd.named Bd.method).1
  have X0 : Stand p l e room_1 s m #[(.int p1), (.int p2), (.int p3)] below meth c s₁ [] 0 0 := Stand.of_body Bd
  have e0 : s₁.heap = h0 := by rw [← hh, Bd.state]; rfl
  have N0 := Fr.nil n0
  have pre0 : ∀ t, Steps p.tables e below (s₁.setTop (mkF m 0 #[.val (.int p1), .val (.int p2), .val (.int p3), .unset, .unset, .unset, .unset, .unset, .unset, .unset] [])) t → Steps p.tables e below (s₁.setTop (entryFrame m #[(.int p1), (.int p2), (.int p3)] maxLocals)) t := fun t k => castTop (ef_0 m p1 p2 p3) k
  obtain ⟨ss, hss⟩ : ∃ z : Int32, z = ((p3 &&& (2147483647 : Int32)) % (3 : Int32)) := ⟨_, rfl⟩
  have c_s := own_three p3 ss hss
  obtain ⟨T1, h1, k1, X1, e1, E1, A1, st1⟩ := newP X0 hx hZ (own_w hw 1 rfl) e0 (g := (mkF m 16 #[.val (.int p1), .val (.int p2), .val (.int p3), .val (.int ss), .val (.int (0 : Int32)), .unset, .unset, .unset, .unset, .unset] [(.int (3 : Int32))])) rfl (hb hby at_16) rfl (by decide) (cap := 3) (by decide) (by decide) (by decide) (by decide)
  obtain ⟨ad1, g1⟩ : ∃ z, z = h0.size := ⟨_, rfl⟩
  rw [← g1] at A1 st1
  have gn_ad1 : n0 ≤ ad1 := Nat.le_trans Z0 (Nat.le_of_eq g1.symm)
  have sz_ad1 : h0.size ≤ ad1 := Nat.le_trans (Keep.refl h0 []).1 (Nat.le_of_eq g1.symm)
  have A_ad1_1 : own_arr Z h1 ad1 (3 : Int32) own_zero := own_arr_new A1 (by decide)
  have K1 : Keep h0 h1 [] := (Keep.refl h0 []).ext E1
  have Zs1 : n0 ≤ h1.size := Nat.le_trans Z0 E1.1
  obtain ⟨T2, h2, k2, X2, e2, E2, A2, st2⟩ := newP X1 hx hZ (own_w hw 1 rfl) e1 (g := (mkF m 21 #[.val (.int p1), .val (.int p2), .val (.int p3), .val (.int ss), .val (.int (0 : Int32)), .val (.ref ad1), .unset, .unset, .unset, .unset] [(.int (3 : Int32))])) rfl (hb hby at_21) rfl (by decide) (cap := 3) (by decide) (by decide) (by decide) (by decide)
  obtain ⟨ad2, g2⟩ : ∃ z, z = h1.size := ⟨_, rfl⟩
  rw [← g2] at A2 st2
  have lt_ad1_ad2 : ad1 < ad2 := Nat.lt_of_lt_of_eq (own_arr_lt A_ad1_1) g2.symm
  have gn_ad2 : n0 ≤ ad2 := Nat.le_trans Zs1 (Nat.le_of_eq g2.symm)
  have sz_ad2 : h0.size ≤ ad2 := Nat.le_trans K1.1 (Nat.le_of_eq g2.symm)
  have A_ad1_2 : own_arr Z h2 ad1 (3 : Int32) own_zero := own_arr_ext A_ad1_1 E2
  have A_ad2_2 : own_arr Z h2 ad2 (3 : Int32) own_zero := own_arr_new A2 (by decide)
  have K2 : Keep h0 h2 [] := K1.ext E2
  have Zs2 : n0 ≤ h2.size := Nat.le_trans Zs1 E2.1
  obtain ⟨T3, h3, k3, X3, e3, E3, A3, st3⟩ := newP X2 hx hZ (own_w hw 2 rfl) e2 (g := (mkF m 26 #[.val (.int p1), .val (.int p2), .val (.int p3), .val (.int ss), .val (.int (0 : Int32)), .val (.ref ad1), .val (.ref ad2), .unset, .unset, .unset] [(.int (3 : Int32))])) rfl (hb hby at_26) rfl (by decide) (cap := 3) (by decide) (by decide) (by decide) (by decide)
  obtain ⟨ad3, g3⟩ : ∃ z, z = h2.size := ⟨_, rfl⟩
  rw [← g3] at A3 st3
  have lt_ad1_ad3 : ad1 < ad3 := Nat.lt_of_lt_of_eq (own_arr_lt A_ad1_2) g3.symm
  have lt_ad2_ad3 : ad2 < ad3 := Nat.lt_of_lt_of_eq (own_arr_lt A_ad2_2) g3.symm
  have gn_ad3 : n0 ≤ ad3 := Nat.le_trans Zs2 (Nat.le_of_eq g3.symm)
  have sz_ad3 : h0.size ≤ ad3 := Nat.le_trans K2.1 (Nat.le_of_eq g3.symm)
  have A_ad1_3 : own_arr Z h3 ad1 (3 : Int32) own_zero := own_arr_ext A_ad1_2 E3
  have A_ad2_3 : own_arr Z h3 ad2 (3 : Int32) own_zero := own_arr_ext A_ad2_2 E3
  have A_ad3_3 : own_arz Z h3 ad3 (3 : Int32) own_zero := own_arr_newz A3 (by decide)
  have K3 : Keep h0 h3 [] := K2.ext E3
  have Zs3 : n0 ≤ h3.size := Nat.le_trans Zs2 E3.1
  obtain ⟨u0, hu0⟩ : ∃ z : Int32, z = (p1 &&& (1 : Int32)) := ⟨_, rfl⟩
  have c_u0 : u0 = (0 : Int32) ∨ u0 = (1 : Int32) := by rw [hu0]; exact own_bit _
  obtain ⟨T4, h4, X4, e4, W4, st4⟩ := own_st X3 hx hZ e3 A_ad1_3 (by decide) (by decide) (g := (mkF m 36 #[.val (.int p1), .val (.int p2), .val (.int p3), .val (.int ss), .val (.int (0 : Int32)), .val (.ref ad1), .val (.ref ad2), .val (.ref ad3), .unset, .unset] [(.int u0), (.int (0 : Int32)), (.ref ad1)])) rfl rfl (hb hby at_36)
  have A_ad1_4 : own_arr Z h4 ad1 (3 : Int32) (own_upd own_zero (0 : Int32) u0) := own_arr_same A_ad1_3 W4 (by decide) (by decide)
  have A_ad2_4 : own_arr Z h4 ad2 (3 : Int32) own_zero := own_arr_other A_ad2_3 W4 (Nat.ne_of_gt lt_ad1_ad2)
  have A_ad3_4 : own_arz Z h4 ad3 (3 : Int32) own_zero := own_arz_other A_ad3_3 W4 (Nat.ne_of_gt lt_ad1_ad3)
  have K4 : Keep h0 h4 [] := K3.wr W4 (Or.inr sz_ad1)
  have N4 := Fr.snoc X4 N0 gn_ad1
  have Zs4 : n0 ≤ h4.size := by rw [W4.size]; exact Zs3
  obtain ⟨u1, hu1⟩ : ∃ z : Int32, z = (((p1.toUInt32 >>> ((1 : Int32) &&& 31).toUInt32).toInt32) &&& (1 : Int32)) := ⟨_, rfl⟩
  have c_u1 : u1 = (0 : Int32) ∨ u1 = (1 : Int32) := by rw [hu1]; exact own_bit _
  obtain ⟨T5, h5, X5, e5, W5, st5⟩ := own_st X4 hx hZ e4 A_ad1_4 (by decide) (by decide) (g := (mkF m 45 #[.val (.int p1), .val (.int p2), .val (.int p3), .val (.int ss), .val (.int (0 : Int32)), .val (.ref ad1), .val (.ref ad2), .val (.ref ad3), .unset, .unset] [(.int u1), (.int (1 : Int32)), (.ref ad1)])) rfl rfl (hb hby at_45)
  have A_ad1_5 : own_arr Z h5 ad1 (3 : Int32) (own_upd (own_upd own_zero (0 : Int32) u0) (1 : Int32) u1) := own_arr_same A_ad1_4 W5 (by decide) (by decide)
  have A_ad2_5 : own_arr Z h5 ad2 (3 : Int32) own_zero := own_arr_other A_ad2_4 W5 (Nat.ne_of_gt lt_ad1_ad2)
  have A_ad3_5 : own_arz Z h5 ad3 (3 : Int32) own_zero := own_arz_other A_ad3_4 W5 (Nat.ne_of_gt lt_ad1_ad3)
  have K5 : Keep h0 h5 [] := K4.wr W5 (Or.inr sz_ad1)
  have N5 := Fr.snoc X5 N4 gn_ad1
  have Zs5 : n0 ≤ h5.size := by rw [W5.size]; exact Zs4
  obtain ⟨u2, hu2⟩ : ∃ z : Int32, z = (((p1.toUInt32 >>> ((2 : Int32) &&& 31).toUInt32).toInt32) &&& (1 : Int32)) := ⟨_, rfl⟩
  have c_u2 : u2 = (0 : Int32) ∨ u2 = (1 : Int32) := by rw [hu2]; exact own_bit _
  obtain ⟨T6, h6, X6, e6, W6, st6⟩ := own_st X5 hx hZ e5 A_ad1_5 (by decide) (by decide) (g := (mkF m 54 #[.val (.int p1), .val (.int p2), .val (.int p3), .val (.int ss), .val (.int (0 : Int32)), .val (.ref ad1), .val (.ref ad2), .val (.ref ad3), .unset, .unset] [(.int u2), (.int (2 : Int32)), (.ref ad1)])) rfl rfl (hb hby at_54)
  have A_ad1_6 : own_arr Z h6 ad1 (3 : Int32) (own_upd (own_upd (own_upd own_zero (0 : Int32) u0) (1 : Int32) u1) (2 : Int32) u2) := own_arr_same A_ad1_5 W6 (by decide) (by decide)
  have A_ad2_6 : own_arr Z h6 ad2 (3 : Int32) own_zero := own_arr_other A_ad2_5 W6 (Nat.ne_of_gt lt_ad1_ad2)
  have A_ad3_6 : own_arz Z h6 ad3 (3 : Int32) own_zero := own_arz_other A_ad3_5 W6 (Nat.ne_of_gt lt_ad1_ad3)
  have K6 : Keep h0 h6 [] := K5.wr W6 (Or.inr sz_ad1)
  have N6 := Fr.snoc X6 N5 gn_ad1
  have Zs6 : n0 ≤ h6.size := by rw [W6.size]; exact Zs5
  obtain ⟨T7, h7, X7, e7, W7, st7⟩ := own_st X6 hx hZ e6 A_ad2_6 (by decide) (by decide) (g := (mkF m 59 #[.val (.int p1), .val (.int p2), .val (.int p3), .val (.int ss), .val (.int (0 : Int32)), .val (.ref ad1), .val (.ref ad2), .val (.ref ad3), .unset, .unset] [(.int ss), (.int (0 : Int32)), (.ref ad2)])) rfl rfl (hb hby at_59)
  have A_ad1_7 : own_arr Z h7 ad1 (3 : Int32) (own_upd (own_upd (own_upd own_zero (0 : Int32) u0) (1 : Int32) u1) (2 : Int32) u2) := own_arr_other A_ad1_6 W7 (Nat.ne_of_lt lt_ad1_ad2)
  have A_ad2_7 : own_arr Z h7 ad2 (3 : Int32) (own_upd own_zero (0 : Int32) ss) := own_arr_same A_ad2_6 W7 (by decide) (by decide)
  have A_ad3_7 : own_arz Z h7 ad3 (3 : Int32) own_zero := own_arz_other A_ad3_6 W7 (Nat.ne_of_gt lt_ad2_ad3)
  have K7 : Keep h0 h7 [] := K6.wr W7 (Or.inr sz_ad2)
  have N7 := Fr.snoc X7 N6 gn_ad2
  have Zs7 : n0 ≤ h7.size := by rw [W7.size]; exact Zs6
  obtain ⟨v1, hv1⟩ : ∃ z : Int32, z = (((1 : Int32) + ss) % (3 : Int32)) := ⟨_, rfl⟩
  obtain ⟨T8, h8, X8, e8, W8, st8⟩ := own_st X7 hx hZ e7 A_ad2_7 (by decide) (by decide) (g := (mkF m 68 #[.val (.int p1), .val (.int p2), .val (.int p3), .val (.int ss), .val (.int (0 : Int32)), .val (.ref ad1), .val (.ref ad2), .val (.ref ad3), .unset, .unset] [(.int v1), (.int (1 : Int32)), (.ref ad2)])) rfl rfl (hb hby at_68)
  have A_ad1_8 : own_arr Z h8 ad1 (3 : Int32) (own_upd (own_upd (own_upd own_zero (0 : Int32) u0) (1 : Int32) u1) (2 : Int32) u2) := own_arr_other A_ad1_7 W8 (Nat.ne_of_lt lt_ad1_ad2)
  have A_ad2_8 : own_arr Z h8 ad2 (3 : Int32) (own_upd (own_upd own_zero (0 : Int32) ss) (1 : Int32) v1) := own_arr_same A_ad2_7 W8 (by decide) (by decide)
  have A_ad3_8 : own_arz Z h8 ad3 (3 : Int32) own_zero := own_arz_other A_ad3_7 W8 (Nat.ne_of_gt lt_ad2_ad3)
  have K8 : Keep h0 h8 [] := K7.wr W8 (Or.inr sz_ad2)
  have N8 := Fr.snoc X8 N7 gn_ad2
  have Zs8 : n0 ≤ h8.size := by rw [W8.size]; exact Zs7
  obtain ⟨v2, hv2⟩ : ∃ z : Int32, z = (((2 : Int32) + ss) % (3 : Int32)) := ⟨_, rfl⟩
  obtain ⟨T9, h9, X9, e9, W9, st9⟩ := own_st X8 hx hZ e8 A_ad2_8 (by decide) (by decide) (g := (mkF m 77 #[.val (.int p1), .val (.int p2), .val (.int p3), .val (.int ss), .val (.int (0 : Int32)), .val (.ref ad1), .val (.ref ad2), .val (.ref ad3), .unset, .unset] [(.int v2), (.int (2 : Int32)), (.ref ad2)])) rfl rfl (hb hby at_77)
  have A_ad1_9 : own_arr Z h9 ad1 (3 : Int32) (own_upd (own_upd (own_upd own_zero (0 : Int32) u0) (1 : Int32) u1) (2 : Int32) u2) := own_arr_other A_ad1_8 W9 (Nat.ne_of_lt lt_ad1_ad2)
  have A_ad2_9 : own_arr Z h9 ad2 (3 : Int32) (own_upd (own_upd (own_upd own_zero (0 : Int32) ss) (1 : Int32) v1) (2 : Int32) v2) := own_arr_same A_ad2_8 W9 (by decide) (by decide)
  have A_ad3_9 : own_arz Z h9 ad3 (3 : Int32) own_zero := own_arz_other A_ad3_8 W9 (Nat.ne_of_gt lt_ad2_ad3)
  have K9 : Keep h0 h9 [] := K8.wr W9 (Or.inr sz_ad2)
  have N9 := Fr.snoc X9 N8 gn_ad2
  have Zs9 : n0 ≤ h9.size := by rw [W9.size]; exact Zs8
  obtain ⟨T10, h10, X10, e10, W10, st10⟩ := own_stz X9 hx hZ e9 A_ad3_9 (by decide) (by decide) (by decide) (g := (mkF m 91 #[.val (.int p1), .val (.int p2), .val (.int p3), .val (.int ss), .val (.int (0 : Int32)), .val (.ref ad1), .val (.ref ad2), .val (.ref ad3), .unset, .unset] [(.int (0 : Int32)), (.int (0 : Int32)), (.ref ad3)])) rfl rfl (hb hby at_91)
  have A_ad1_10 : own_arr Z h10 ad1 (3 : Int32) (own_upd (own_upd (own_upd own_zero (0 : Int32) u0) (1 : Int32) u1) (2 : Int32) u2) := own_arr_other A_ad1_9 W10 (Nat.ne_of_lt lt_ad1_ad3)
  have A_ad2_10 : own_arr Z h10 ad2 (3 : Int32) (own_upd (own_upd (own_upd own_zero (0 : Int32) ss) (1 : Int32) v1) (2 : Int32) v2) := own_arr_other A_ad2_9 W10 (Nat.ne_of_lt lt_ad2_ad3)
  have A_ad3_10 : own_arz Z h10 ad3 (3 : Int32) (own_upd own_zero (0 : Int32) (0 : Int32)) := own_arz_same A_ad3_9 W10 (by decide) (by decide)
  have K10 : Keep h0 h10 [] := K9.wr W10 (Or.inr sz_ad3)
  have N10 := Fr.snoc X10 N9 gn_ad3
  have Zs10 : n0 ≤ h10.size := by rw [W10.size]; exact Zs9
  obtain ⟨T11, h11, X11, e11, W11, st11⟩ := own_stz X10 hx hZ e10 A_ad3_10 (by decide) (by decide) (by decide) (g := (mkF m 106 #[.val (.int p1), .val (.int p2), .val (.int p3), .val (.int ss), .val (.int (0 : Int32)), .val (.ref ad1), .val (.ref ad2), .val (.ref ad3), .unset, .unset] [(.int (1 : Int32)), (.int (1 : Int32)), (.ref ad3)])) rfl rfl (hb hby at_106)
  have A_ad1_11 : own_arr Z h11 ad1 (3 : Int32) (own_upd (own_upd (own_upd own_zero (0 : Int32) u0) (1 : Int32) u1) (2 : Int32) u2) := own_arr_other A_ad1_10 W11 (Nat.ne_of_lt lt_ad1_ad3)
  have A_ad2_11 : own_arr Z h11 ad2 (3 : Int32) (own_upd (own_upd (own_upd own_zero (0 : Int32) ss) (1 : Int32) v1) (2 : Int32) v2) := own_arr_other A_ad2_10 W11 (Nat.ne_of_lt lt_ad2_ad3)
  have A_ad3_11 : own_arz Z h11 ad3 (3 : Int32) (own_upd (own_upd own_zero (0 : Int32) (0 : Int32)) (1 : Int32) (1 : Int32)) := own_arz_same A_ad3_10 W11 (by decide) (by decide)
  have K11 : Keep h0 h11 [] := K10.wr W11 (Or.inr sz_ad3)
  have N11 := Fr.snoc X11 N10 gn_ad3
  have Zs11 : n0 ≤ h11.size := by rw [W11.size]; exact Zs10
  obtain ⟨T12, h12, X12, e12, W12, st12⟩ := own_stz X11 hx hZ e11 A_ad3_11 (by decide) (by decide) (by decide) (g := (mkF m 121 #[.val (.int p1), .val (.int p2), .val (.int p3), .val (.int ss), .val (.int (0 : Int32)), .val (.ref ad1), .val (.ref ad2), .val (.ref ad3), .unset, .unset] [(.int (1 : Int32)), (.int (2 : Int32)), (.ref ad3)])) rfl rfl (hb hby at_121)
  have A_ad1_12 : own_arr Z h12 ad1 (3 : Int32) (own_upd (own_upd (own_upd own_zero (0 : Int32) u0) (1 : Int32) u1) (2 : Int32) u2) := own_arr_other A_ad1_11 W12 (Nat.ne_of_lt lt_ad1_ad3)
  have A_ad2_12 : own_arr Z h12 ad2 (3 : Int32) (own_upd (own_upd (own_upd own_zero (0 : Int32) ss) (1 : Int32) v1) (2 : Int32) v2) := own_arr_other A_ad2_11 W12 (Nat.ne_of_lt lt_ad2_ad3)
  have A_ad3_12 : own_arz Z h12 ad3 (3 : Int32) (own_upd (own_upd (own_upd own_zero (0 : Int32) (0 : Int32)) (1 : Int32) (1 : Int32)) (2 : Int32) (1 : Int32)) := own_arz_same A_ad3_11 W12 (by decide) (by decide)
  have K12 : Keep h0 h12 [] := K11.wr W12 (Or.inr sz_ad3)
  have N12 := Fr.snoc X12 N11 gn_ad3
  have Zs12 : n0 ≤ h12.size := by rw [W12.size]; exact Zs11
  obtain ⟨T13, h13, X13, e13, E13, A13, D13, -, st13⟩ := newO X12 hx hZ hown (own_w hw 3 rfl) (own_w hw 4 rfl) (own_w hw 5 rfl) e12 (g := (mkF m 122 #[.val (.int p1), .val (.int p2), .val (.int p3), .val (.int ss), .val (.int (0 : Int32)), .val (.ref ad1), .val (.ref ad2), .val (.ref ad3), .unset, .unset] [])) rfl (hb hby at_122) (by decide) (by decide)
  obtain ⟨ad13, g13⟩ : ∃ z, z = h12.size := ⟨_, rfl⟩
  rw [← g13] at A13 D13 st13
  have lt_ad1_ad13 : ad1 < ad13 := Nat.lt_of_lt_of_eq (own_arr_lt A_ad1_12) g13.symm
  have lt_ad2_ad13 : ad2 < ad13 := Nat.lt_of_lt_of_eq (own_arr_lt A_ad2_12) g13.symm
  have lt_ad3_ad13 : ad3 < ad13 := Nat.lt_of_lt_of_eq (own_arz_lt A_ad3_12) g13.symm
  have gn_ad13 : n0 ≤ ad13 := Nat.le_trans Zs12 (Nat.le_of_eq g13.symm)
  have sz_ad13 : h0.size ≤ ad13 := Nat.le_trans K12.1 (Nat.le_of_eq g13.symm)
  have A_ad1_13 : own_arr Z h13 ad1 (3 : Int32) (own_upd (own_upd (own_upd own_zero (0 : Int32) u0) (1 : Int32) u1) (2 : Int32) u2) := own_arr_ext A_ad1_12 E13
  have A_ad2_13 : own_arr Z h13 ad2 (3 : Int32) (own_upd (own_upd (own_upd own_zero (0 : Int32) ss) (1 : Int32) v1) (2 : Int32) v2) := own_arr_ext A_ad2_12 E13
  have A_ad3_13 : own_arz Z h13 ad3 (3 : Int32) (own_upd (own_upd (own_upd own_zero (0 : Int32) (0 : Int32)) (1 : Int32) (1 : Int32)) (2 : Int32) (1 : Int32)) := own_arz_ext A_ad3_12 E13
  have E_ad13_13 : Exa Z h13 ad13 "com/example/process_stepper/processstepper/equivalence/IntLists" := A13
  have F_heads_ad13_13 : Fld Z h13 ad13 "com/example/process_stepper/processstepper/equivalence/IntLists" "heads" "[I" .null := D13 (Or.inl (own_w hw 13 rfl)) (ty := (.array .int)) (by decide)
  have F_sizes_ad13_13 : Fld Z h13 ad13 "com/example/process_stepper/processstepper/equivalence/IntLists" "sizes" "[I" .null := D13 (Or.inl (own_w hw 19 rfl)) (ty := (.array .int)) (by decide)
  have F_next_ad13_13 : Fld Z h13 ad13 "com/example/process_stepper/processstepper/equivalence/IntLists" "next" "[I" .null := D13 (Or.inl (own_w hw 21 rfl)) (ty := (.array .int)) (by decide)
  have F_previous_ad13_13 : Fld Z h13 ad13 "com/example/process_stepper/processstepper/equivalence/IntLists" "previous" "[I" .null := D13 (Or.inl (own_w hw 23 rfl)) (ty := (.array .int)) (by decide)
  have K13 : Keep h0 h13 [] := K12.ext E13
  have Zs13 : n0 ≤ h13.size := Nat.le_trans Zs12 E13.1
  obtain ⟨_, _, ⟨T14, L14, k14, n14⟩, -, X14, ⟨Lc14, hQ14, l14, y14, z14⟩, st14⟩ := X13.specialBack hx (y := own_m2) rfl hown (mvT hZ (own_w hw 6 rfl)) (mvT hZ (own_w hw 7 rfl)) (mvT hZ (own_w hw 8 rfl)) (by decide) (backOf (W := 1) (rm1 l Z a0 hw [] ad13 h13 n0 Zs13 E_ad13_13 F_heads_ad13_13 F_sizes_ad13_13 F_next_ad13_13 F_previous_ad13_13 gn_ad13) hZ (own_w hw 8 rfl) (own_w hw 5 rfl) (by decide) (by decide)) (g := (mkF m 128 #[.val (.int p1), .val (.int p2), .val (.int p3), .val (.int ss), .val (.int (0 : Int32)), .val (.ref ad1), .val (.ref ad2), .val (.ref ad3), .unset, .unset] [(.int (3 : Int32)), (.int (2 : Int32)), (.ref ad13), (.ref ad13)])) rfl (by rw [hml]; rfl) (Steps.refl _) (a := ad13) (argsL := [(.int (2 : Int32)), (.int (3 : Int32))]) (rest := [(.ref ad13)]) (lenOf pd__II_V rfl) rfl (by show 2 * 0 + _ ≤ _; exact Nat.le_of_eq rfl) (hb hby at_128) (fun _ _ => ⟨rfl, e13, (by decide : 4 + 4 ≤ _), (by decide : 13 + 10 ≤ _)⟩)
  dsimp only [Pt.U, Pt.locs, Pt.cells, Pt.slots] at X14 l14 y14 z14 st14 hQ14
  rw [l14, y14, z14] at X14
  obtain ⟨rfl, N14q, b1, b2, b3, b4, K14q, z14q, V14⟩ := hQ14
  have N14 := Fr.app N12 N14q
  have lb_ad1 : ad1 < b1 := Nat.lt_of_lt_of_le (own_arr_lt A_ad1_13) z14q
  have lb_ad2 : ad2 < b1 := Nat.lt_of_lt_of_le (own_arr_lt A_ad2_13) z14q
  have lb_ad3 : ad3 < b1 := Nat.lt_of_lt_of_le (own_arz_lt A_ad3_13) z14q
  have A_ad1_14 : own_arr Z T14.heap ad1 (3 : Int32) (own_upd (own_upd (own_upd own_zero (0 : Int32) u0) (1 : Int32) u1) (2 : Int32) u2) := own_arr_keep A_ad1_13 K14q (ninS (Nat.ne_of_lt lt_ad1_ad13) nin0)
  have A_ad2_14 : own_arr Z T14.heap ad2 (3 : Int32) (own_upd (own_upd (own_upd own_zero (0 : Int32) ss) (1 : Int32) v1) (2 : Int32) v2) := own_arr_keep A_ad2_13 K14q (ninS (Nat.ne_of_lt lt_ad2_ad13) nin0)
  have A_ad3_14 : own_arz Z T14.heap ad3 (3 : Int32) (own_upd (own_upd (own_upd own_zero (0 : Int32) (0 : Int32)) (1 : Int32) (1 : Int32)) (2 : Int32) (1 : Int32)) := own_arz_keep A_ad3_13 K14q (ninS (Nat.ne_of_lt lt_ad3_ad13) nin0)
  have Zs14 : n0 ≤ T14.heap.size := Nat.le_trans Zs13 K14q.1
  obtain ⟨cq15, kq15, q15a, q15b, q15c⟩ := isOf hZ rfl (V14.1)
  obtain ⟨_, _, ⟨T15, L15, k15, n15⟩, -, X15, ⟨Lc15, hQ15, l15, y15, z15⟩, st15⟩ := X14.virtualBack hx (y := own_m3) (z := own_m3) hown (mvT hZ (own_w hw 24 rfl)) (mvT hZ (own_w hw 25 rfl)) (notFace_of_selects (args := #[]) (mvT hZ (own_w hw 27 rfl))) (mvT hZ (own_w hw 27 rfl)) (mvT hZ (own_w hw 26 rfl)) (by decide) (backOf (W := 0) (rm4 l Z a0 hw [] ad13 u0 ss b1 b2 b3 b4 own_H0 own_zero own_zero own_zero T14.heap n0 Zs14 V14 (own_k0 u0 u1 u2 ss v1 v2 c_u0 c_u1 c_u2 c_s hv1 hv2) (own_k1 u0 u1 u2 ss v1 v2 c_u0 c_u1 c_u2 c_s hv1 hv2) (own_k2 u0 u1 u2 ss v1 v2 c_u0 c_u1 c_u2 c_s hv1 hv2) (own_k3 u0 u1 u2 ss v1 v2 c_u0 c_u1 c_u2 c_s hv1 hv2) (own_k4 u0 u1 u2 ss v1 v2 c_u0 c_u1 c_u2 c_s hv1 hv2)) hZ (own_w hw 28 rfl) (own_w hw 5 rfl) (by decide) (by decide)) q15a q15c (g := (mkF m 143 #[.val (.int p1), .val (.int p2), .val (.int p3), .val (.int ss), .val (.int (0 : Int32)), .val (.ref ad1), .val (.ref ad2), .val (.ref ad3), .val (.ref ad13), .unset] [(.int ss), (.int u0), (.ref ad13)])) rfl (by rw [hml]; rfl) (Steps.refl _) (argsL := [(.int u0), (.int ss)]) (rest := []) (lenOf pd__II_V rfl) rfl (by show 2 * 0 + _ ≤ _; exact Nat.le_of_eq rfl) (hb hby at_143) (fun _ _ => ⟨rfl, rfl, (by decide : 8 + 0 ≤ _), (by decide : 23 + 0 ≤ _)⟩)
  dsimp only [Pt.U, Pt.locs, Pt.cells, Pt.slots] at X15 l15 y15 z15 st15 hQ15
  rw [l15, y15, z15] at X15
  obtain ⟨rfl, N15q, K15q, V15q⟩ := hQ15
  have N15 := Fr.app N14 N15q
  have A_ad1_15 : own_arr Z T15.heap ad1 (3 : Int32) (own_upd (own_upd (own_upd own_zero (0 : Int32) u0) (1 : Int32) u1) (2 : Int32) u2) := own_arr_keep A_ad1_14 K15q (own_nin4 lb_ad1 V14.2.2.2.1)
  have A_ad2_15 : own_arr Z T15.heap ad2 (3 : Int32) (own_upd (own_upd (own_upd own_zero (0 : Int32) ss) (1 : Int32) v1) (2 : Int32) v2) := own_arr_keep A_ad2_14 K15q (own_nin4 lb_ad2 V14.2.2.2.1)
  have A_ad3_15 : own_arz Z T15.heap ad3 (3 : Int32) (own_upd (own_upd (own_upd own_zero (0 : Int32) (0 : Int32)) (1 : Int32) (1 : Int32)) (2 : Int32) (1 : Int32)) := own_arz_keep A_ad3_14 K15q (own_nin4 lb_ad3 V14.2.2.2.1)
  have V15 : own_L Z n0 T15.heap ad13 b1 b2 b3 b4 (own_f0 u0 u1 u2 ss v1 v2) (own_f1 u0 u1 u2 ss v1 v2) (own_f2 u0 u1 u2 ss v1 v2) (own_f3 u0 u1 u2 ss v1 v2) := V15q
  have Zs15 : n0 ≤ T15.heap.size := Nat.le_trans Zs14 K15q.1
  obtain ⟨cq16, kq16, q16a, q16b, q16c⟩ := isOf hZ rfl (V15.1)
  obtain ⟨_, _, ⟨T16, L16, k16, n16⟩, -, X16, ⟨Lc16, hQ16, l16, y16, z16⟩, st16⟩ := X15.virtualBack hx (y := own_m3) (z := own_m3) hown (mvT hZ (own_w hw 24 rfl)) (mvT hZ (own_w hw 25 rfl)) (notFace_of_selects (args := #[]) (mvT hZ (own_w hw 27 rfl))) (mvT hZ (own_w hw 27 rfl)) (mvT hZ (own_w hw 26 rfl)) (by decide) (backOf (W := 0) (rm4 l Z a0 hw [] ad13 u1 v1 b1 b2 b3 b4 (own_f0 u0 u1 u2 ss v1 v2) (own_f1 u0 u1 u2 ss v1 v2) (own_f2 u0 u1 u2 ss v1 v2) (own_f3 u0 u1 u2 ss v1 v2) T15.heap n0 Zs15 V15 (own_k5 u0 u1 u2 ss v1 v2 c_u0 c_u1 c_u2 c_s hv1 hv2) (own_k6 u0 u1 u2 ss v1 v2 c_u0 c_u1 c_u2 c_s hv1 hv2) (own_k7 u0 u1 u2 ss v1 v2 c_u0 c_u1 c_u2 c_s hv1 hv2) (own_k8 u0 u1 u2 ss v1 v2 c_u0 c_u1 c_u2 c_s hv1 hv2) (own_k9 u0 u1 u2 ss v1 v2 c_u0 c_u1 c_u2 c_s hv1 hv2)) hZ (own_w hw 28 rfl) (own_w hw 5 rfl) (by decide) (by decide)) q16a q16c (g := (mkF m 156 #[.val (.int p1), .val (.int p2), .val (.int p3), .val (.int ss), .val (.int (0 : Int32)), .val (.ref ad1), .val (.ref ad2), .val (.ref ad3), .val (.ref ad13), .unset] [(.int v1), (.int u1), (.ref ad13)])) rfl (by rw [hml]; rfl) (Steps.refl _) (argsL := [(.int u1), (.int v1)]) (rest := []) (lenOf pd__II_V rfl) rfl (by show 2 * 0 + _ ≤ _; exact Nat.le_of_eq rfl) (hb hby at_156) (fun _ _ => ⟨rfl, rfl, (by decide : 8 + 0 ≤ _), (by decide : 23 + 0 ≤ _)⟩)
  dsimp only [Pt.U, Pt.locs, Pt.cells, Pt.slots] at X16 l16 y16 z16 st16 hQ16
  rw [l16, y16, z16] at X16
  obtain ⟨rfl, N16q, K16q, V16q⟩ := hQ16
  have N16 := Fr.app N15 N16q
  have A_ad1_16 : own_arr Z T16.heap ad1 (3 : Int32) (own_upd (own_upd (own_upd own_zero (0 : Int32) u0) (1 : Int32) u1) (2 : Int32) u2) := own_arr_keep A_ad1_15 K16q (own_nin4 lb_ad1 V15.2.2.2.1)
  have A_ad2_16 : own_arr Z T16.heap ad2 (3 : Int32) (own_upd (own_upd (own_upd own_zero (0 : Int32) ss) (1 : Int32) v1) (2 : Int32) v2) := own_arr_keep A_ad2_15 K16q (own_nin4 lb_ad2 V15.2.2.2.1)
  have A_ad3_16 : own_arz Z T16.heap ad3 (3 : Int32) (own_upd (own_upd (own_upd own_zero (0 : Int32) (0 : Int32)) (1 : Int32) (1 : Int32)) (2 : Int32) (1 : Int32)) := own_arz_keep A_ad3_15 K16q (own_nin4 lb_ad3 V15.2.2.2.1)
  have V16 : own_L Z n0 T16.heap ad13 b1 b2 b3 b4 (own_f4 u0 u1 u2 ss v1 v2) (own_f5 u0 u1 u2 ss v1 v2) (own_f6 u0 u1 u2 ss v1 v2) (own_f7 u0 u1 u2 ss v1 v2) := V16q
  have Zs16 : n0 ≤ T16.heap.size := Nat.le_trans Zs15 K16q.1
  obtain ⟨cq17, kq17, q17a, q17b, q17c⟩ := isOf hZ rfl (V16.1)
  obtain ⟨_, _, ⟨T17, L17, k17, n17⟩, -, X17, ⟨Lc17, hQ17, l17, y17, z17⟩, st17⟩ := X16.virtualBack hx (y := own_m3) (z := own_m3) hown (mvT hZ (own_w hw 24 rfl)) (mvT hZ (own_w hw 25 rfl)) (notFace_of_selects (args := #[]) (mvT hZ (own_w hw 27 rfl))) (mvT hZ (own_w hw 27 rfl)) (mvT hZ (own_w hw 26 rfl)) (by decide) (backOf (W := 0) (rm4 l Z a0 hw [] ad13 u2 v2 b1 b2 b3 b4 (own_f4 u0 u1 u2 ss v1 v2) (own_f5 u0 u1 u2 ss v1 v2) (own_f6 u0 u1 u2 ss v1 v2) (own_f7 u0 u1 u2 ss v1 v2) T16.heap n0 Zs16 V16 (own_k10 u0 u1 u2 ss v1 v2 c_u0 c_u1 c_u2 c_s hv1 hv2) (own_k11 u0 u1 u2 ss v1 v2 c_u0 c_u1 c_u2 c_s hv1 hv2) (own_k12 u0 u1 u2 ss v1 v2 c_u0 c_u1 c_u2 c_s hv1 hv2) (own_k13 u0 u1 u2 ss v1 v2 c_u0 c_u1 c_u2 c_s hv1 hv2) (own_k14 u0 u1 u2 ss v1 v2 c_u0 c_u1 c_u2 c_s hv1 hv2)) hZ (own_w hw 28 rfl) (own_w hw 5 rfl) (by decide) (by decide)) q17a q17c (g := (mkF m 169 #[.val (.int p1), .val (.int p2), .val (.int p3), .val (.int ss), .val (.int (0 : Int32)), .val (.ref ad1), .val (.ref ad2), .val (.ref ad3), .val (.ref ad13), .unset] [(.int v2), (.int u2), (.ref ad13)])) rfl (by rw [hml]; rfl) (Steps.refl _) (argsL := [(.int u2), (.int v2)]) (rest := []) (lenOf pd__II_V rfl) rfl (by show 2 * 0 + _ ≤ _; exact Nat.le_of_eq rfl) (hb hby at_169) (fun _ _ => ⟨rfl, rfl, (by decide : 8 + 0 ≤ _), (by decide : 23 + 0 ≤ _)⟩)
  dsimp only [Pt.U, Pt.locs, Pt.cells, Pt.slots] at X17 l17 y17 z17 st17 hQ17
  rw [l17, y17, z17] at X17
  obtain ⟨rfl, N17q, K17q, V17q⟩ := hQ17
  have N17 := Fr.app N16 N17q
  have A_ad1_17 : own_arr Z T17.heap ad1 (3 : Int32) (own_upd (own_upd (own_upd own_zero (0 : Int32) u0) (1 : Int32) u1) (2 : Int32) u2) := own_arr_keep A_ad1_16 K17q (own_nin4 lb_ad1 V16.2.2.2.1)
  have A_ad2_17 : own_arr Z T17.heap ad2 (3 : Int32) (own_upd (own_upd (own_upd own_zero (0 : Int32) ss) (1 : Int32) v1) (2 : Int32) v2) := own_arr_keep A_ad2_16 K17q (own_nin4 lb_ad2 V16.2.2.2.1)
  have A_ad3_17 : own_arz Z T17.heap ad3 (3 : Int32) (own_upd (own_upd (own_upd own_zero (0 : Int32) (0 : Int32)) (1 : Int32) (1 : Int32)) (2 : Int32) (1 : Int32)) := own_arz_keep A_ad3_16 K17q (own_nin4 lb_ad3 V16.2.2.2.1)
  have V17 : own_L Z n0 T17.heap ad13 b1 b2 b3 b4 (own_f8 u0 u1 u2 ss v1 v2) (own_f9 u0 u1 u2 ss v1 v2) (own_f10 u0 u1 u2 ss v1 v2) (own_f11 u0 u1 u2 ss v1 v2) := V17q
  have Zs17 : n0 ≤ T17.heap.size := Nat.le_trans Zs16 K17q.1
  obtain ⟨cq18, kq18, q18a, q18b, q18c⟩ := isOf hZ rfl (V17.1)
  obtain ⟨_, _, ⟨T18, L18, k18, n18⟩, -, X18, ⟨Lc18, hQ18, l18, y18, z18⟩, st18⟩ := X17.virtualBack hx (y := own_m4) (z := own_m4) hown (mvT hZ (own_w hw 54 rfl)) (mvT hZ (own_w hw 55 rfl)) (notFace_of_selects (args := #[]) (mvT hZ (own_w hw 57 rfl))) (mvT hZ (own_w hw 57 rfl)) (mvT hZ (own_w hw 56 rfl)) (by decide) (backOf (W := 0) (rm5 l Z a0 hw [] ad13 u0 ss b1 b2 b3 b4 (own_f8 u0 u1 u2 ss v1 v2) (own_f9 u0 u1 u2 ss v1 v2) (own_f10 u0 u1 u2 ss v1 v2) (own_f11 u0 u1 u2 ss v1 v2) T17.heap n0 Zs17 V17 (own_k0 u0 u1 u2 ss v1 v2 c_u0 c_u1 c_u2 c_s hv1 hv2) (own_k1 u0 u1 u2 ss v1 v2 c_u0 c_u1 c_u2 c_s hv1 hv2) (own_k2 u0 u1 u2 ss v1 v2 c_u0 c_u1 c_u2 c_s hv1 hv2) (own_k3 u0 u1 u2 ss v1 v2 c_u0 c_u1 c_u2 c_s hv1 hv2) (own_k15 u0 u1 u2 ss v1 v2 c_u0 c_u1 c_u2 c_s hv1 hv2) (own_k16 u0 u1 u2 ss v1 v2 c_u0 c_u1 c_u2 c_s hv1 hv2)) hZ (own_w hw 58 rfl) (own_w hw 5 rfl) (by decide) (by decide)) q18a q18c (g := (mkF m 190 #[.val (.int p1), .val (.int p2), .val (.int p3), .val (.int ss), .val (.int (0 : Int32)), .val (.ref ad1), .val (.ref ad2), .val (.ref ad3), .val (.ref ad13), .unset] [(.int ss), (.int u0), (.ref ad13)])) rfl (by rw [hml]; rfl) (Steps.refl _) (argsL := [(.int u0), (.int ss)]) (rest := []) (lenOf pd__II_V rfl) rfl (by show 2 * 0 + _ ≤ _; exact Nat.le_of_eq rfl) (hb hby at_190) (fun _ _ => ⟨rfl, rfl, (by decide : 8 + 0 ≤ _), (by decide : 23 + 0 ≤ _)⟩)
  dsimp only [Pt.U, Pt.locs, Pt.cells, Pt.slots] at X18 l18 y18 z18 st18 hQ18
  rw [l18, y18, z18] at X18
  obtain ⟨rfl, N18q, K18q, V18q⟩ := hQ18
  have N18 := Fr.app N17 N18q
  have A_ad1_18 : own_arr Z T18.heap ad1 (3 : Int32) (own_upd (own_upd (own_upd own_zero (0 : Int32) u0) (1 : Int32) u1) (2 : Int32) u2) := own_arr_keep A_ad1_17 K18q (own_nin4 lb_ad1 V17.2.2.2.1)
  have A_ad2_18 : own_arr Z T18.heap ad2 (3 : Int32) (own_upd (own_upd (own_upd own_zero (0 : Int32) ss) (1 : Int32) v1) (2 : Int32) v2) := own_arr_keep A_ad2_17 K18q (own_nin4 lb_ad2 V17.2.2.2.1)
  have A_ad3_18 : own_arz Z T18.heap ad3 (3 : Int32) (own_upd (own_upd (own_upd own_zero (0 : Int32) (0 : Int32)) (1 : Int32) (1 : Int32)) (2 : Int32) (1 : Int32)) := own_arz_keep A_ad3_17 K18q (own_nin4 lb_ad3 V17.2.2.2.1)
  have V18 : own_L Z n0 T18.heap ad13 b1 b2 b3 b4 (own_f12 u0 u1 u2 ss v1 v2) (own_f13 u0 u1 u2 ss v1 v2) (own_f14 u0 u1 u2 ss v1 v2) (own_f15 u0 u1 u2 ss v1 v2) := V18q
  have Zs18 : n0 ≤ T18.heap.size := Nat.le_trans Zs17 K18q.1
  obtain ⟨cq19, kq19, q19a, q19b, q19c⟩ := isOf hZ rfl (V18.1)
  obtain ⟨_, _, ⟨T19, L19, k19, n19⟩, -, X19, ⟨Lc19, hQ19, l19, y19, z19⟩, st19⟩ := X18.virtualBack hx (y := own_m5) (z := own_m5) hown (mvT hZ (own_w hw 29 rfl)) (mvT hZ (own_w hw 30 rfl)) (notFace_of_selects (args := #[]) (mvT hZ (own_w hw 32 rfl))) (mvT hZ (own_w hw 32 rfl)) (mvT hZ (own_w hw 31 rfl)) (by decide) (backOf (W := 0) (rm8 l Z a0 hw [] ad13 (0 : Int32) b1 b2 b3 b4 (own_f12 u0 u1 u2 ss v1 v2) (own_f13 u0 u1 u2 ss v1 v2) (own_f14 u0 u1 u2 ss v1 v2) (own_f15 u0 u1 u2 ss v1 v2) T18.heap n0 Zs18 V18 (by decide) (by decide)) hZ (own_w hw 33 rfl) (own_w hw 5 rfl) (by decide) (by decide)) q19a q19c (g := (mkF m 204 #[.val (.int p1), .val (.int p2), .val (.int p3), .val (.int ss), .val (.int (0 : Int32)), .val (.ref ad1), .val (.ref ad2), .val (.ref ad3), .val (.ref ad13), .val (.int (1 : Int32))] [(.int (0 : Int32)), (.ref ad13)])) rfl (by rw [hml]; rfl) (Steps.refl _) (argsL := [(.int (0 : Int32))]) (rest := []) (lenOf pd__I_I rfl) rfl (by show 2 * 0 + _ ≤ _; exact Nat.le_of_eq rfl) (hb hby at_204) (fun _ _ => ⟨rfl, rfl, (by decide : 8 + 0 ≤ _), (by decide : 23 + 0 ≤ _)⟩)
  dsimp only [Pt.U, Pt.locs, Pt.cells, Pt.slots] at X19 l19 y19 z19 st19 hQ19
  rw [l19, y19, z19] at X19
  obtain ⟨rfl, N19q, q19⟩ := hQ19
  have N19 := Fr.app N18 N19q
  have e19' : T19.heap = T18.heap := q19
  obtain ⟨_, _, ⟨T20, L20, k20, n20⟩, -, X20, ⟨Lc20, hQ20, l20, y20, z20⟩, st20⟩ := Jvm.LawKit.callS X19 hx (y := own_m6) hown (mvT hZ (own_w hw 34 rfl)) (mvT hZ (own_w hw 35 rfl)) (mvT hZ (own_w hw 36 rfl)) (mvT hZ (own_w hw 37 rfl)) (by decide) (backOf (W := 2) (rmL l Z a0 hw [] ad1 ad3 (0 : Int32) (3 : Int32) (own_upd (own_upd (own_upd own_zero (0 : Int32) u0) (1 : Int32) u1) (2 : Int32) u2) (own_upd (own_upd (own_upd own_zero (0 : Int32) (0 : Int32)) (1 : Int32) (1 : Int32)) (2 : Int32) (1 : Int32)) T18.heap n0 Zs18 A_ad1_18 A_ad3_18) hZ (own_w hw 37 rfl) (own_w hw 36 rfl) (by decide) (by decide)) (g := (mkF m 215 #[.val (.int p1), .val (.int p2), .val (.int p3), .val (.int ss), .val (.int (0 : Int32)), .val (.ref ad1), .val (.ref ad2), .val (.ref ad3), .val (.ref ad13), .val (.int (1 : Int32))] [(.int (3 : Int32)), (.int (0 : Int32)), (.ref ad3), (.ref ad1), (.ref ad2), (.int ((own_f12 u0 u1 u2 ss v1 v2) (0 : Int32)))])) rfl (by rw [hml]; rfl) (argsL := [(.ref ad1), (.ref ad3), (.int (0 : Int32)), (.int (3 : Int32))]) (rest := [(.ref ad2), (.int ((own_f12 u0 u1 u2 ss v1 v2) (0 : Int32)))]) (lenOf pd___I_ZII_I rfl) rfl (by show 2 * 0 + _ ≤ _; exact Nat.le_of_eq rfl) (hb hby at_215) (fun _ _ => ⟨rfl, e19', (by decide : 8 + 0 ≤ _), (by decide : 23 + 0 ≤ _)⟩)
  dsimp only [Pt.U, Pt.locs, Pt.cells, Pt.slots] at X20 l20 y20 z20 st20 hQ20
  rw [l20, y20, z20] at X20
  obtain ⟨rfl, N20q, q20⟩ := hQ20
  have N20 := Fr.app N19 N20q
  have e20' : T20.heap = T18.heap := q20
  obtain ⟨_, _, ⟨T21, L21, k21, n21⟩, -, X21, ⟨Lc21, hQ21, l21, y21, z21⟩, st21⟩ := Jvm.LawKit.callS X20 hx (y := own_m7) hown (mvT hZ (own_w hw 38 rfl)) (mvT hZ (own_w hw 39 rfl)) (mvT hZ (own_w hw 36 rfl)) (mvT hZ (own_w hw 40 rfl)) (by decide) (backOf (W := 1) (rmE l Z a0 hw [] ad2 (own_last (own_upd (own_upd (own_upd own_zero (0 : Int32) u0) (1 : Int32) u1) (2 : Int32) u2) (own_upd (own_upd (own_upd own_zero (0 : Int32) (0 : Int32)) (1 : Int32) (1 : Int32)) (2 : Int32) (1 : Int32)) (0 : Int32) (3 : Int32)) (own_upd (own_upd (own_upd own_zero (0 : Int32) ss) (1 : Int32) v1) (2 : Int32) v2) T18.heap n0 Zs18 A_ad2_18 (own_last_lt _ _ _ _)) hZ (own_w hw 40 rfl) (own_w hw 36 rfl) (by decide) (by decide)) (g := (mkF m 218 #[.val (.int p1), .val (.int p2), .val (.int p3), .val (.int ss), .val (.int (0 : Int32)), .val (.ref ad1), .val (.ref ad2), .val (.ref ad3), .val (.ref ad13), .val (.int (1 : Int32))] [(.int (own_last (own_upd (own_upd (own_upd own_zero (0 : Int32) u0) (1 : Int32) u1) (2 : Int32) u2) (own_upd (own_upd (own_upd own_zero (0 : Int32) (0 : Int32)) (1 : Int32) (1 : Int32)) (2 : Int32) (1 : Int32)) (0 : Int32) (3 : Int32))), (.ref ad2), (.int ((own_f12 u0 u1 u2 ss v1 v2) (0 : Int32)))])) rfl (by rw [hml]; rfl) (argsL := [(.ref ad2), (.int (own_last (own_upd (own_upd (own_upd own_zero (0 : Int32) u0) (1 : Int32) u1) (2 : Int32) u2) (own_upd (own_upd (own_upd own_zero (0 : Int32) (0 : Int32)) (1 : Int32) (1 : Int32)) (2 : Int32) (1 : Int32)) (0 : Int32) (3 : Int32)))]) (rest := [(.int ((own_f12 u0 u1 u2 ss v1 v2) (0 : Int32)))]) (lenOf pd___II_I rfl) rfl (by show 2 * 0 + _ ≤ _; exact Nat.le_of_eq rfl) (hb hby at_218) (fun _ _ => ⟨rfl, e20', (by decide : 8 + 0 ≤ _), (by decide : 23 + 0 ≤ _)⟩)
  dsimp only [Pt.U, Pt.locs, Pt.cells, Pt.slots] at X21 l21 y21 z21 st21 hQ21
  rw [l21, y21, z21] at X21
  obtain ⟨rfl, N21q, q21⟩ := hQ21
  have N21 := Fr.app N20 N21q
  have e21' : T21.heap = T18.heap := q21
  obtain ⟨cq22, kq22, q22a, q22b, q22c⟩ := isOf hZ e21' (V18.1)
  obtain ⟨_, _, ⟨T22, L22, k22, n22⟩, -, X22, ⟨Lc22, hQ22, l22, y22, z22⟩, st22⟩ := X21.virtualBack hx (y := own_m5) (z := own_m5) hown (mvT hZ (own_w hw 29 rfl)) (mvT hZ (own_w hw 30 rfl)) (notFace_of_selects (args := #[]) (mvT hZ (own_w hw 32 rfl))) (mvT hZ (own_w hw 32 rfl)) (mvT hZ (own_w hw 31 rfl)) (by decide) (backOf (W := 0) (rm8 l Z a0 hw [] ad13 (1 : Int32) b1 b2 b3 b4 (own_f12 u0 u1 u2 ss v1 v2) (own_f13 u0 u1 u2 ss v1 v2) (own_f14 u0 u1 u2 ss v1 v2) (own_f15 u0 u1 u2 ss v1 v2) T18.heap n0 Zs18 V18 (by decide) (by decide)) hZ (own_w hw 33 rfl) (own_w hw 5 rfl) (by decide) (by decide)) q22a q22c (g := (mkF m 239 #[.val (.int p1), .val (.int p2), .val (.int p3), .val (.int ss), .val (.int (0 : Int32)), .val (.ref ad1), .val (.ref ad2), .val (.ref ad3), .val (.ref ad13), .val (.int (1 : Int32))] [(.int (1 : Int32)), (.ref ad13)])) rfl (by rw [hml]; rfl) (Steps.refl _) (argsL := [(.int (1 : Int32))]) (rest := []) (lenOf pd__I_I rfl) rfl (by show 2 * 0 + _ ≤ _; exact Nat.le_of_eq rfl) (hb hby at_239) (fun _ _ => ⟨rfl, e21', (by decide : 8 + 0 ≤ _), (by decide : 23 + 0 ≤ _)⟩)
  dsimp only [Pt.U, Pt.locs, Pt.cells, Pt.slots] at X22 l22 y22 z22 st22 hQ22
  rw [l22, y22, z22] at X22
  obtain ⟨rfl, N22q, q22⟩ := hQ22
  have N22 := Fr.app N21 N22q
  have e22' : T22.heap = T18.heap := q22
  obtain ⟨_, _, ⟨T23, L23, k23, n23⟩, -, X23, ⟨Lc23, hQ23, l23, y23, z23⟩, st23⟩ := Jvm.LawKit.callS X22 hx (y := own_m6) hown (mvT hZ (own_w hw 34 rfl)) (mvT hZ (own_w hw 35 rfl)) (mvT hZ (own_w hw 36 rfl)) (mvT hZ (own_w hw 37 rfl)) (by decide) (backOf (W := 2) (rmL l Z a0 hw [] ad1 ad3 (1 : Int32) (3 : Int32) (own_upd (own_upd (own_upd own_zero (0 : Int32) u0) (1 : Int32) u1) (2 : Int32) u2) (own_upd (own_upd (own_upd own_zero (0 : Int32) (0 : Int32)) (1 : Int32) (1 : Int32)) (2 : Int32) (1 : Int32)) T18.heap n0 Zs18 A_ad1_18 A_ad3_18) hZ (own_w hw 37 rfl) (own_w hw 36 rfl) (by decide) (by decide)) (g := (mkF m 250 #[.val (.int p1), .val (.int p2), .val (.int p3), .val (.int ss), .val (.int (0 : Int32)), .val (.ref ad1), .val (.ref ad2), .val (.ref ad3), .val (.ref ad13), .val (.int (1 : Int32))] [(.int (3 : Int32)), (.int (1 : Int32)), (.ref ad3), (.ref ad1), (.ref ad2), (.int ((own_f12 u0 u1 u2 ss v1 v2) (1 : Int32)))])) rfl (by rw [hml]; rfl) (argsL := [(.ref ad1), (.ref ad3), (.int (1 : Int32)), (.int (3 : Int32))]) (rest := [(.ref ad2), (.int ((own_f12 u0 u1 u2 ss v1 v2) (1 : Int32)))]) (lenOf pd___I_ZII_I rfl) rfl (by show 2 * 0 + _ ≤ _; exact Nat.le_of_eq rfl) (hb hby at_250) (fun _ _ => ⟨rfl, e22', (by decide : 8 + 0 ≤ _), (by decide : 23 + 0 ≤ _)⟩)
  dsimp only [Pt.U, Pt.locs, Pt.cells, Pt.slots] at X23 l23 y23 z23 st23 hQ23
  rw [l23, y23, z23] at X23
  obtain ⟨rfl, N23q, q23⟩ := hQ23
  have N23 := Fr.app N22 N23q
  have e23' : T23.heap = T18.heap := q23
  obtain ⟨_, _, ⟨T24, L24, k24, n24⟩, -, X24, ⟨Lc24, hQ24, l24, y24, z24⟩, st24⟩ := Jvm.LawKit.callS X23 hx (y := own_m7) hown (mvT hZ (own_w hw 38 rfl)) (mvT hZ (own_w hw 39 rfl)) (mvT hZ (own_w hw 36 rfl)) (mvT hZ (own_w hw 40 rfl)) (by decide) (backOf (W := 1) (rmE l Z a0 hw [] ad2 (own_last (own_upd (own_upd (own_upd own_zero (0 : Int32) u0) (1 : Int32) u1) (2 : Int32) u2) (own_upd (own_upd (own_upd own_zero (0 : Int32) (0 : Int32)) (1 : Int32) (1 : Int32)) (2 : Int32) (1 : Int32)) (1 : Int32) (3 : Int32)) (own_upd (own_upd (own_upd own_zero (0 : Int32) ss) (1 : Int32) v1) (2 : Int32) v2) T18.heap n0 Zs18 A_ad2_18 (own_last_lt _ _ _ _)) hZ (own_w hw 40 rfl) (own_w hw 36 rfl) (by decide) (by decide)) (g := (mkF m 253 #[.val (.int p1), .val (.int p2), .val (.int p3), .val (.int ss), .val (.int (0 : Int32)), .val (.ref ad1), .val (.ref ad2), .val (.ref ad3), .val (.ref ad13), .val (.int (1 : Int32))] [(.int (own_last (own_upd (own_upd (own_upd own_zero (0 : Int32) u0) (1 : Int32) u1) (2 : Int32) u2) (own_upd (own_upd (own_upd own_zero (0 : Int32) (0 : Int32)) (1 : Int32) (1 : Int32)) (2 : Int32) (1 : Int32)) (1 : Int32) (3 : Int32))), (.ref ad2), (.int ((own_f12 u0 u1 u2 ss v1 v2) (1 : Int32)))])) rfl (by rw [hml]; rfl) (argsL := [(.ref ad2), (.int (own_last (own_upd (own_upd (own_upd own_zero (0 : Int32) u0) (1 : Int32) u1) (2 : Int32) u2) (own_upd (own_upd (own_upd own_zero (0 : Int32) (0 : Int32)) (1 : Int32) (1 : Int32)) (2 : Int32) (1 : Int32)) (1 : Int32) (3 : Int32)))]) (rest := [(.int ((own_f12 u0 u1 u2 ss v1 v2) (1 : Int32)))]) (lenOf pd___II_I rfl) rfl (by show 2 * 0 + _ ≤ _; exact Nat.le_of_eq rfl) (hb hby at_253) (fun _ _ => ⟨rfl, e23', (by decide : 8 + 0 ≤ _), (by decide : 23 + 0 ≤ _)⟩)
  dsimp only [Pt.U, Pt.locs, Pt.cells, Pt.slots] at X24 l24 y24 z24 st24 hQ24
  rw [l24, y24, z24] at X24
  obtain ⟨rfl, N24q, q24⟩ := hQ24
  have N24 := Fr.app N23 N24q
  have e24' : T24.heap = T18.heap := q24
  obtain ⟨cq25, kq25, q25a, q25b, q25c⟩ := isOf hZ e24' (V18.1)
  obtain ⟨_, _, ⟨T25, L25, k25, n25⟩, -, X25, ⟨Lc25, hQ25, l25, y25, z25⟩, st25⟩ := X24.virtualBack hx (y := own_m8) (z := own_m8) hown (mvT hZ (own_w hw 41 rfl)) (mvT hZ (own_w hw 42 rfl)) (notFace_of_selects (args := #[]) (mvT hZ (own_w hw 44 rfl))) (mvT hZ (own_w hw 44 rfl)) (mvT hZ (own_w hw 43 rfl)) (by decide) (backOf (W := 0) (rm7 l Z a0 hw [] ad13 (0 : Int32) b1 b2 b3 b4 (own_f12 u0 u1 u2 ss v1 v2) (own_f13 u0 u1 u2 ss v1 v2) (own_f14 u0 u1 u2 ss v1 v2) (own_f15 u0 u1 u2 ss v1 v2) T18.heap n0 Zs18 V18 (by decide) (by decide)) hZ (own_w hw 45 rfl) (own_w hw 5 rfl) (by decide) (by decide)) q25a q25c (g := (mkF m 274 #[.val (.int p1), .val (.int p2), .val (.int p3), .val (.int ss), .val (.int (0 : Int32)), .val (.ref ad1), .val (.ref ad2), .val (.ref ad3), .val (.ref ad13), .val (.int (1 : Int32))] [(.int (0 : Int32)), (.ref ad13)])) rfl (by rw [hml]; rfl) (Steps.refl _) (argsL := [(.int (0 : Int32))]) (rest := []) (lenOf pd__I_I rfl) rfl (by show 2 * 0 + _ ≤ _; exact Nat.le_of_eq rfl) (hb hby at_274) (fun _ _ => ⟨rfl, e24', (by decide : 8 + 0 ≤ _), (by decide : 23 + 0 ≤ _)⟩)
  dsimp only [Pt.U, Pt.locs, Pt.cells, Pt.slots] at X25 l25 y25 z25 st25 hQ25
  rw [l25, y25, z25] at X25
  obtain ⟨rfl, N25q, q25⟩ := hQ25
  have N25 := Fr.app N24 N25q
  have e25' : T25.heap = T18.heap := q25
  obtain ⟨_, _, ⟨T26, L26, k26, n26⟩, -, X26, ⟨Lc26, hQ26, l26, y26, z26⟩, st26⟩ := Jvm.LawKit.callS X25 hx (y := own_m9) hown (mvT hZ (own_w hw 46 rfl)) (mvT hZ (own_w hw 47 rfl)) (mvT hZ (own_w hw 36 rfl)) (mvT hZ (own_w hw 48 rfl)) (by decide) (backOf (W := 1) (rmC l Z a0 hw [] ad1 ad3 (0 : Int32) (own_upd (own_upd (own_upd own_zero (0 : Int32) u0) (1 : Int32) u1) (2 : Int32) u2) (own_upd (own_upd (own_upd own_zero (0 : Int32) (0 : Int32)) (1 : Int32) (1 : Int32)) (2 : Int32) (1 : Int32)) T18.heap n0 Zs18 A_ad1_18 A_ad3_18) hZ (own_w hw 48 rfl) (own_w hw 36 rfl) (by decide) (by decide)) (g := (mkF m 282 #[.val (.int p1), .val (.int p2), .val (.int p3), .val (.int ss), .val (.int (0 : Int32)), .val (.ref ad1), .val (.ref ad2), .val (.ref ad3), .val (.ref ad13), .val (.int (1 : Int32))] [(.int (0 : Int32)), (.ref ad3), (.ref ad1), (.int ((own_f13 u0 u1 u2 ss v1 v2) (0 : Int32)))])) rfl (by rw [hml]; rfl) (argsL := [(.ref ad1), (.ref ad3), (.int (0 : Int32))]) (rest := [(.int ((own_f13 u0 u1 u2 ss v1 v2) (0 : Int32)))]) (lenOf pd___I_ZI_I rfl) rfl (by show 2 * 0 + _ ≤ _; exact Nat.le_of_eq rfl) (hb hby at_282) (fun _ _ => ⟨rfl, e25', (by decide : 8 + 0 ≤ _), (by decide : 23 + 0 ≤ _)⟩)
  dsimp only [Pt.U, Pt.locs, Pt.cells, Pt.slots] at X26 l26 y26 z26 st26 hQ26
  rw [l26, y26, z26] at X26
  obtain ⟨rfl, N26q, q26⟩ := hQ26
  have N26 := Fr.app N25 N26q
  have e26' : T26.heap = T18.heap := q26
  obtain ⟨cq27, kq27, q27a, q27b, q27c⟩ := isOf hZ e26' (V18.1)
  obtain ⟨_, _, ⟨T27, L27, k27, n27⟩, -, X27, ⟨Lc27, hQ27, l27, y27, z27⟩, st27⟩ := X26.virtualBack hx (y := own_m8) (z := own_m8) hown (mvT hZ (own_w hw 41 rfl)) (mvT hZ (own_w hw 42 rfl)) (notFace_of_selects (args := #[]) (mvT hZ (own_w hw 44 rfl))) (mvT hZ (own_w hw 44 rfl)) (mvT hZ (own_w hw 43 rfl)) (by decide) (backOf (W := 0) (rm7 l Z a0 hw [] ad13 (1 : Int32) b1 b2 b3 b4 (own_f12 u0 u1 u2 ss v1 v2) (own_f13 u0 u1 u2 ss v1 v2) (own_f14 u0 u1 u2 ss v1 v2) (own_f15 u0 u1 u2 ss v1 v2) T18.heap n0 Zs18 V18 (by decide) (by decide)) hZ (own_w hw 45 rfl) (own_w hw 5 rfl) (by decide) (by decide)) q27a q27c (g := (mkF m 303 #[.val (.int p1), .val (.int p2), .val (.int p3), .val (.int ss), .val (.int (0 : Int32)), .val (.ref ad1), .val (.ref ad2), .val (.ref ad3), .val (.ref ad13), .val (.int (1 : Int32))] [(.int (1 : Int32)), (.ref ad13)])) rfl (by rw [hml]; rfl) (Steps.refl _) (argsL := [(.int (1 : Int32))]) (rest := []) (lenOf pd__I_I rfl) rfl (by show 2 * 0 + _ ≤ _; exact Nat.le_of_eq rfl) (hb hby at_303) (fun _ _ => ⟨rfl, e26', (by decide : 8 + 0 ≤ _), (by decide : 23 + 0 ≤ _)⟩)
  dsimp only [Pt.U, Pt.locs, Pt.cells, Pt.slots] at X27 l27 y27 z27 st27 hQ27
  rw [l27, y27, z27] at X27
  obtain ⟨rfl, N27q, q27⟩ := hQ27
  have N27 := Fr.app N26 N27q
  have e27' : T27.heap = T18.heap := q27
  obtain ⟨_, _, ⟨T28, L28, k28, n28⟩, -, X28, ⟨Lc28, hQ28, l28, y28, z28⟩, st28⟩ := Jvm.LawKit.callS X27 hx (y := own_m9) hown (mvT hZ (own_w hw 46 rfl)) (mvT hZ (own_w hw 47 rfl)) (mvT hZ (own_w hw 36 rfl)) (mvT hZ (own_w hw 48 rfl)) (by decide) (backOf (W := 1) (rmC l Z a0 hw [] ad1 ad3 (1 : Int32) (own_upd (own_upd (own_upd own_zero (0 : Int32) u0) (1 : Int32) u1) (2 : Int32) u2) (own_upd (own_upd (own_upd own_zero (0 : Int32) (0 : Int32)) (1 : Int32) (1 : Int32)) (2 : Int32) (1 : Int32)) T18.heap n0 Zs18 A_ad1_18 A_ad3_18) hZ (own_w hw 48 rfl) (own_w hw 36 rfl) (by decide) (by decide)) (g := (mkF m 311 #[.val (.int p1), .val (.int p2), .val (.int p3), .val (.int ss), .val (.int (0 : Int32)), .val (.ref ad1), .val (.ref ad2), .val (.ref ad3), .val (.ref ad13), .val (.int (1 : Int32))] [(.int (1 : Int32)), (.ref ad3), (.ref ad1), (.int ((own_f13 u0 u1 u2 ss v1 v2) (1 : Int32)))])) rfl (by rw [hml]; rfl) (argsL := [(.ref ad1), (.ref ad3), (.int (1 : Int32))]) (rest := [(.int ((own_f13 u0 u1 u2 ss v1 v2) (1 : Int32)))]) (lenOf pd___I_ZI_I rfl) rfl (by show 2 * 0 + _ ≤ _; exact Nat.le_of_eq rfl) (hb hby at_311) (fun _ _ => ⟨rfl, e27', (by decide : 8 + 0 ≤ _), (by decide : 23 + 0 ≤ _)⟩)
  dsimp only [Pt.U, Pt.locs, Pt.cells, Pt.slots] at X28 l28 y28 z28 st28 hQ28
  rw [l28, y28, z28] at X28
  obtain ⟨rfl, N28q, q28⟩ := hQ28
  have N28 := Fr.app N27 N28q
  have e28' : T28.heap = T18.heap := q28
  obtain ⟨cq29, kq29, q29a, q29b, q29c⟩ := isOf hZ e28' (V18.1)
  obtain ⟨_, _, ⟨T29, L29, k29, n29⟩, -, X29, ⟨Lc29, hQ29, l29, y29, z29⟩, st29⟩ := X28.virtualBack hx (y := own_m10) (z := own_m10) hown (mvT hZ (own_w hw 49 rfl)) (mvT hZ (own_w hw 50 rfl)) (notFace_of_selects (args := #[]) (mvT hZ (own_w hw 52 rfl))) (mvT hZ (own_w hw 52 rfl)) (mvT hZ (own_w hw 51 rfl)) (by decide) (backOf (W := 0) (rm9 l Z a0 hw [] ad13 v1 b1 b2 b3 b4 (own_f12 u0 u1 u2 ss v1 v2) (own_f13 u0 u1 u2 ss v1 v2) (own_f14 u0 u1 u2 ss v1 v2) (own_f15 u0 u1 u2 ss v1 v2) T18.heap n0 Zs18 V18 (own_k7 u0 u1 u2 ss v1 v2 c_u0 c_u1 c_u2 c_s hv1 hv2) (own_k8 u0 u1 u2 ss v1 v2 c_u0 c_u1 c_u2 c_s hv1 hv2)) hZ (own_w hw 53 rfl) (own_w hw 5 rfl) (by decide) (by decide)) q29a q29c (g := (mkF m 390 #[.val (.int p1), .val (.int p2), .val (.int p3), .val (.int ss), .val (.int (0 : Int32)), .val (.ref ad1), .val (.ref ad2), .val (.ref ad3), .val (.ref ad13), .val (.int (1 : Int32))] [(.int v1), (.ref ad13)])) rfl (by rw [hml]; rfl) (Steps.refl _) (argsL := [(.int v1)]) (rest := []) (lenOf pd__I_I rfl) rfl (by show 2 * 0 + _ ≤ _; exact Nat.le_of_eq rfl) (hb hby at_390) (fun _ _ => ⟨rfl, e28', (by decide : 8 + 0 ≤ _), (by decide : 23 + 0 ≤ _)⟩)
  dsimp only [Pt.U, Pt.locs, Pt.cells, Pt.slots] at X29 l29 y29 z29 st29 hQ29
  rw [l29, y29, z29] at X29
  obtain ⟨rfl, N29q, q29⟩ := hQ29
  have N29 := Fr.app N28 N29q
  have e29' : T29.heap = T18.heap := q29
  obtain ⟨_, _, ⟨T30, L30, k30, n30⟩, -, X30, ⟨Lc30, hQ30, l30, y30, z30⟩, st30⟩ := Jvm.LawKit.callS X29 hx (y := own_m6) hown (mvT hZ (own_w hw 34 rfl)) (mvT hZ (own_w hw 35 rfl)) (mvT hZ (own_w hw 36 rfl)) (mvT hZ (own_w hw 37 rfl)) (by decide) (backOf (W := 2) (rmL l Z a0 hw [] ad1 ad3 u1 (1 : Int32) (own_upd (own_upd (own_upd own_zero (0 : Int32) u0) (1 : Int32) u1) (2 : Int32) u2) (own_upd (own_upd (own_upd own_zero (0 : Int32) (0 : Int32)) (1 : Int32) (1 : Int32)) (2 : Int32) (1 : Int32)) T18.heap n0 Zs18 A_ad1_18 A_ad3_18) hZ (own_w hw 37 rfl) (own_w hw 36 rfl) (by decide) (by decide)) (g := (mkF m 404 #[.val (.int p1), .val (.int p2), .val (.int p3), .val (.int ss), .val (.int (0 : Int32)), .val (.ref ad1), .val (.ref ad2), .val (.ref ad3), .val (.ref ad13), .val (.int (1 : Int32))] [(.int (1 : Int32)), (.int u1), (.ref ad3), (.ref ad1), (.ref ad2), (.int ((own_f14 u0 u1 u2 ss v1 v2) v1))])) rfl (by rw [hml]; rfl) (argsL := [(.ref ad1), (.ref ad3), (.int u1), (.int (1 : Int32))]) (rest := [(.ref ad2), (.int ((own_f14 u0 u1 u2 ss v1 v2) v1))]) (lenOf pd___I_ZII_I rfl) rfl (by show 2 * 0 + _ ≤ _; exact Nat.le_of_eq rfl) (hb hby at_404) (fun _ _ => ⟨rfl, e29', (by decide : 8 + 0 ≤ _), (by decide : 23 + 0 ≤ _)⟩)
  dsimp only [Pt.U, Pt.locs, Pt.cells, Pt.slots] at X30 l30 y30 z30 st30 hQ30
  rw [l30, y30, z30] at X30
  obtain ⟨rfl, N30q, q30⟩ := hQ30
  have N30 := Fr.app N29 N30q
  have e30' : T30.heap = T18.heap := q30
  obtain ⟨_, _, ⟨T31, L31, k31, n31⟩, -, X31, ⟨Lc31, hQ31, l31, y31, z31⟩, st31⟩ := Jvm.LawKit.callS X30 hx (y := own_m7) hown (mvT hZ (own_w hw 38 rfl)) (mvT hZ (own_w hw 39 rfl)) (mvT hZ (own_w hw 36 rfl)) (mvT hZ (own_w hw 40 rfl)) (by decide) (backOf (W := 1) (rmE l Z a0 hw [] ad2 (own_last (own_upd (own_upd (own_upd own_zero (0 : Int32) u0) (1 : Int32) u1) (2 : Int32) u2) (own_upd (own_upd (own_upd own_zero (0 : Int32) (0 : Int32)) (1 : Int32) (1 : Int32)) (2 : Int32) (1 : Int32)) u1 (1 : Int32)) (own_upd (own_upd (own_upd own_zero (0 : Int32) ss) (1 : Int32) v1) (2 : Int32) v2) T18.heap n0 Zs18 A_ad2_18 (own_last_lt _ _ _ _)) hZ (own_w hw 40 rfl) (own_w hw 36 rfl) (by decide) (by decide)) (g := (mkF m 407 #[.val (.int p1), .val (.int p2), .val (.int p3), .val (.int ss), .val (.int (0 : Int32)), .val (.ref ad1), .val (.ref ad2), .val (.ref ad3), .val (.ref ad13), .val (.int (1 : Int32))] [(.int (own_last (own_upd (own_upd (own_upd own_zero (0 : Int32) u0) (1 : Int32) u1) (2 : Int32) u2) (own_upd (own_upd (own_upd own_zero (0 : Int32) (0 : Int32)) (1 : Int32) (1 : Int32)) (2 : Int32) (1 : Int32)) u1 (1 : Int32))), (.ref ad2), (.int ((own_f14 u0 u1 u2 ss v1 v2) v1))])) rfl (by rw [hml]; rfl) (argsL := [(.ref ad2), (.int (own_last (own_upd (own_upd (own_upd own_zero (0 : Int32) u0) (1 : Int32) u1) (2 : Int32) u2) (own_upd (own_upd (own_upd own_zero (0 : Int32) (0 : Int32)) (1 : Int32) (1 : Int32)) (2 : Int32) (1 : Int32)) u1 (1 : Int32)))]) (rest := [(.int ((own_f14 u0 u1 u2 ss v1 v2) v1))]) (lenOf pd___II_I rfl) rfl (by show 2 * 0 + _ ≤ _; exact Nat.le_of_eq rfl) (hb hby at_407) (fun _ _ => ⟨rfl, e30', (by decide : 8 + 0 ≤ _), (by decide : 23 + 0 ≤ _)⟩)
  dsimp only [Pt.U, Pt.locs, Pt.cells, Pt.slots] at X31 l31 y31 z31 st31 hQ31
  rw [l31, y31, z31] at X31
  obtain ⟨rfl, N31q, q31⟩ := hQ31
  have N31 := Fr.app N30 N31q
  have e31' : T31.heap = T18.heap := q31
  obtain ⟨cq32, kq32, q32a, q32b, q32c⟩ := isOf hZ e31' (V18.1)
  obtain ⟨_, _, ⟨T32, L32, k32, n32⟩, -, X32, ⟨Lc32, hQ32, l32, y32, z32⟩, st32⟩ := X31.virtualBack hx (y := own_m10) (z := own_m10) hown (mvT hZ (own_w hw 49 rfl)) (mvT hZ (own_w hw 50 rfl)) (notFace_of_selects (args := #[]) (mvT hZ (own_w hw 52 rfl))) (mvT hZ (own_w hw 52 rfl)) (mvT hZ (own_w hw 51 rfl)) (by decide) (backOf (W := 0) (rm9 l Z a0 hw [] ad13 v2 b1 b2 b3 b4 (own_f12 u0 u1 u2 ss v1 v2) (own_f13 u0 u1 u2 ss v1 v2) (own_f14 u0 u1 u2 ss v1 v2) (own_f15 u0 u1 u2 ss v1 v2) T18.heap n0 Zs18 V18 (own_k12 u0 u1 u2 ss v1 v2 c_u0 c_u1 c_u2 c_s hv1 hv2) (own_k13 u0 u1 u2 ss v1 v2 c_u0 c_u1 c_u2 c_s hv1 hv2)) hZ (own_w hw 53 rfl) (own_w hw 5 rfl) (by decide) (by decide)) q32a q32c (g := (mkF m 438 #[.val (.int p1), .val (.int p2), .val (.int p3), .val (.int ss), .val (.int (0 : Int32)), .val (.ref ad1), .val (.ref ad2), .val (.ref ad3), .val (.ref ad13), .val (.int (1 : Int32))] [(.int v2), (.ref ad13)])) rfl (by rw [hml]; rfl) (Steps.refl _) (argsL := [(.int v2)]) (rest := []) (lenOf pd__I_I rfl) rfl (by show 2 * 0 + _ ≤ _; exact Nat.le_of_eq rfl) (hb hby at_438) (fun _ _ => ⟨rfl, e31', (by decide : 8 + 0 ≤ _), (by decide : 23 + 0 ≤ _)⟩)
  dsimp only [Pt.U, Pt.locs, Pt.cells, Pt.slots] at X32 l32 y32 z32 st32 hQ32
  rw [l32, y32, z32] at X32
  obtain ⟨rfl, N32q, q32⟩ := hQ32
  have N32 := Fr.app N31 N32q
  have e32' : T32.heap = T18.heap := q32
  obtain ⟨_, _, ⟨T33, L33, k33, n33⟩, -, X33, ⟨Lc33, hQ33, l33, y33, z33⟩, st33⟩ := Jvm.LawKit.callS X32 hx (y := own_m6) hown (mvT hZ (own_w hw 34 rfl)) (mvT hZ (own_w hw 35 rfl)) (mvT hZ (own_w hw 36 rfl)) (mvT hZ (own_w hw 37 rfl)) (by decide) (backOf (W := 2) (rmL l Z a0 hw [] ad1 ad3 u2 (2 : Int32) (own_upd (own_upd (own_upd own_zero (0 : Int32) u0) (1 : Int32) u1) (2 : Int32) u2) (own_upd (own_upd (own_upd own_zero (0 : Int32) (0 : Int32)) (1 : Int32) (1 : Int32)) (2 : Int32) (1 : Int32)) T18.heap n0 Zs18 A_ad1_18 A_ad3_18) hZ (own_w hw 37 rfl) (own_w hw 36 rfl) (by decide) (by decide)) (g := (mkF m 452 #[.val (.int p1), .val (.int p2), .val (.int p3), .val (.int ss), .val (.int (0 : Int32)), .val (.ref ad1), .val (.ref ad2), .val (.ref ad3), .val (.ref ad13), .val (.int (1 : Int32))] [(.int (2 : Int32)), (.int u2), (.ref ad3), (.ref ad1), (.ref ad2), (.int ((own_f14 u0 u1 u2 ss v1 v2) v2))])) rfl (by rw [hml]; rfl) (argsL := [(.ref ad1), (.ref ad3), (.int u2), (.int (2 : Int32))]) (rest := [(.ref ad2), (.int ((own_f14 u0 u1 u2 ss v1 v2) v2))]) (lenOf pd___I_ZII_I rfl) rfl (by show 2 * 0 + _ ≤ _; exact Nat.le_of_eq rfl) (hb hby at_452) (fun _ _ => ⟨rfl, e32', (by decide : 8 + 0 ≤ _), (by decide : 23 + 0 ≤ _)⟩)
  dsimp only [Pt.U, Pt.locs, Pt.cells, Pt.slots] at X33 l33 y33 z33 st33 hQ33
  rw [l33, y33, z33] at X33
  obtain ⟨rfl, N33q, q33⟩ := hQ33
  have N33 := Fr.app N32 N33q
  have e33' : T33.heap = T18.heap := q33
  obtain ⟨_, _, ⟨T34, L34, k34, n34⟩, -, X34, ⟨Lc34, hQ34, l34, y34, z34⟩, st34⟩ := Jvm.LawKit.callS X33 hx (y := own_m7) hown (mvT hZ (own_w hw 38 rfl)) (mvT hZ (own_w hw 39 rfl)) (mvT hZ (own_w hw 36 rfl)) (mvT hZ (own_w hw 40 rfl)) (by decide) (backOf (W := 1) (rmE l Z a0 hw [] ad2 (own_last (own_upd (own_upd (own_upd own_zero (0 : Int32) u0) (1 : Int32) u1) (2 : Int32) u2) (own_upd (own_upd (own_upd own_zero (0 : Int32) (0 : Int32)) (1 : Int32) (1 : Int32)) (2 : Int32) (1 : Int32)) u2 (2 : Int32)) (own_upd (own_upd (own_upd own_zero (0 : Int32) ss) (1 : Int32) v1) (2 : Int32) v2) T18.heap n0 Zs18 A_ad2_18 (own_last_lt _ _ _ _)) hZ (own_w hw 40 rfl) (own_w hw 36 rfl) (by decide) (by decide)) (g := (mkF m 455 #[.val (.int p1), .val (.int p2), .val (.int p3), .val (.int ss), .val (.int (0 : Int32)), .val (.ref ad1), .val (.ref ad2), .val (.ref ad3), .val (.ref ad13), .val (.int (1 : Int32))] [(.int (own_last (own_upd (own_upd (own_upd own_zero (0 : Int32) u0) (1 : Int32) u1) (2 : Int32) u2) (own_upd (own_upd (own_upd own_zero (0 : Int32) (0 : Int32)) (1 : Int32) (1 : Int32)) (2 : Int32) (1 : Int32)) u2 (2 : Int32))), (.ref ad2), (.int ((own_f14 u0 u1 u2 ss v1 v2) v2))])) rfl (by rw [hml]; rfl) (argsL := [(.ref ad2), (.int (own_last (own_upd (own_upd (own_upd own_zero (0 : Int32) u0) (1 : Int32) u1) (2 : Int32) u2) (own_upd (own_upd (own_upd own_zero (0 : Int32) (0 : Int32)) (1 : Int32) (1 : Int32)) (2 : Int32) (1 : Int32)) u2 (2 : Int32)))]) (rest := [(.int ((own_f14 u0 u1 u2 ss v1 v2) v2))]) (lenOf pd___II_I rfl) rfl (by show 2 * 0 + _ ≤ _; exact Nat.le_of_eq rfl) (hb hby at_455) (fun _ _ => ⟨rfl, e33', (by decide : 8 + 0 ≤ _), (by decide : 23 + 0 ≤ _)⟩)
  dsimp only [Pt.U, Pt.locs, Pt.cells, Pt.slots] at X34 l34 y34 z34 st34 hQ34
  rw [l34, y34, z34] at X34
  obtain ⟨rfl, N34q, q34⟩ := hQ34
  have N34 := Fr.app N33 N34q
  have e34' : T34.heap = T18.heap := q34
  obtain ⟨fs, hr, hrun, hended, hW, hsame⟩ := X34.leave (v := some (.int (1 : Int32))) (fun h => by rw [Bd.returns] at h; cases h)
  refine ⟨_, _, pre0 _ ?_, hrun, hended, _, _, rfl, ?_, ⟨_, rfl⟩, hW, hsame.mono (by decide) (by decide)⟩
  · show Steps p.tables e below (s₁.setTop (mkF m 0 #[.val (.int p1), .val (.int p2), .val (.int p3), .unset, .unset, .unset, .unset, .unset, .unset, .unset] [])) _
    refine XS.iloadN X0.here hx rfl (hb hby at_0) rfl ?_
    show Steps p.tables e below (s₁.setTop (mkF m 1 #[.val (.int p1), .val (.int p2), .val (.int p3), .unset, .unset, .unset, .unset, .unset, .unset, .unset] [(.int p3)])) _
    refine X0.ldcInt hx hown (mvT hZ (own_w hw 0 rfl)) (g := (mkF m 1 #[.val (.int p1), .val (.int p2), .val (.int p3), .unset, .unset, .unset, .unset, .unset, .unset, .unset] [(.int p3)])) rfl (hb hby at_1) _ ?_
    show Steps p.tables e below (s₁.setTop (mkF m 3 #[.val (.int p1), .val (.int p2), .val (.int p3), .unset, .unset, .unset, .unset, .unset, .unset, .unset] [(.int (2147483647 : Int32)), (.int p3)])) _
    refine XS.iand X0.here hx rfl (hb hby at_3) rfl ?_
    show Steps p.tables e below (s₁.setTop (mkF m 4 #[.val (.int p1), .val (.int p2), .val (.int p3), .unset, .unset, .unset, .unset, .unset, .unset, .unset] [(.int (p3 &&& (2147483647 : Int32)))])) _
    refine XS.iconst X0.here hx rfl (hb hby at_4) ?_
    show Steps p.tables e below (s₁.setTop (mkF m 5 #[.val (.int p1), .val (.int p2), .val (.int p3), .unset, .unset, .unset, .unset, .unset, .unset, .unset] [(.int (3 : Int32)), (.int (p3 &&& (2147483647 : Int32)))])) _
    refine iremM X0 hx rfl (hb hby at_5) rfl (by decide) ?_
    rw [← hss]
    show Steps p.tables e below (s₁.setTop (mkF m 6 #[.val (.int p1), .val (.int p2), .val (.int p3), .unset, .unset, .unset, .unset, .unset, .unset, .unset] [(.int ss)])) _
    refine XS.istoreN X0.here hx rfl (hb hby at_6) rfl (l' := #[.val (.int p1), .val (.int p2), .val (.int p3), .val (.int ss), .unset, .unset, .unset, .unset, .unset, .unset]) rfl ?_
    refine XS.iloadN X0.here hx rfl (hb hby at_7) rfl ?_
    show Steps p.tables e below (s₁.setTop (mkF m 8 #[.val (.int p1), .val (.int p2), .val (.int p3), .val (.int ss), .unset, .unset, .unset, .unset, .unset, .unset] [(.int p2)])) _
    refine X0.ldcInt hx hown (mvT hZ (own_w hw 0 rfl)) (g := (mkF m 8 #[.val (.int p1), .val (.int p2), .val (.int p3), .val (.int ss), .unset, .unset, .unset, .unset, .unset, .unset] [(.int p2)])) rfl (hb hby at_8) _ ?_
    show Steps p.tables e below (s₁.setTop (mkF m 10 #[.val (.int p1), .val (.int p2), .val (.int p3), .val (.int ss), .unset, .unset, .unset, .unset, .unset, .unset] [(.int (2147483647 : Int32)), (.int p2)])) _
    refine XS.iand X0.here hx rfl (hb hby at_10) rfl ?_
    show Steps p.tables e below (s₁.setTop (mkF m 11 #[.val (.int p1), .val (.int p2), .val (.int p3), .val (.int ss), .unset, .unset, .unset, .unset, .unset, .unset] [(.int (p2 &&& (2147483647 : Int32)))])) _
    refine XS.iconst X0.here hx rfl (hb hby at_11) ?_
    show Steps p.tables e below (s₁.setTop (mkF m 12 #[.val (.int p1), .val (.int p2), .val (.int p3), .val (.int ss), .unset, .unset, .unset, .unset, .unset, .unset] [(.int (4 : Int32)), (.int (p2 &&& (2147483647 : Int32)))])) _
    refine iremM X0 hx rfl (hb hby at_12) rfl (by decide) ?_
    rw [hR]
    show Steps p.tables e below (s₁.setTop (mkF m 13 #[.val (.int p1), .val (.int p2), .val (.int p3), .val (.int ss), .unset, .unset, .unset, .unset, .unset, .unset] [(.int (0 : Int32))])) _
    refine XS.istore X0.here hx rfl (hb hby at_13) rfl (l' := #[.val (.int p1), .val (.int p2), .val (.int p3), .val (.int ss), .val (.int (0 : Int32)), .unset, .unset, .unset, .unset, .unset]) rfl ?_
    refine XS.iconst X0.here hx rfl (hb hby at_15) ?_
    show Steps p.tables e below (s₁.setTop (mkF m 16 #[.val (.int p1), .val (.int p2), .val (.int p3), .val (.int ss), .val (.int (0 : Int32)), .unset, .unset, .unset, .unset, .unset] [(.int (3 : Int32))])) _
    refine st1 _ ?_
    show Steps p.tables e below (T1.setTop (mkF m 18 #[.val (.int p1), .val (.int p2), .val (.int p3), .val (.int ss), .val (.int (0 : Int32)), .unset, .unset, .unset, .unset, .unset] [(.ref ad1)])) _
    refine XS.astore X1.here hx rfl (hb hby at_18) rfl rfl (l' := #[.val (.int p1), .val (.int p2), .val (.int p3), .val (.int ss), .val (.int (0 : Int32)), .val (.ref ad1), .unset, .unset, .unset, .unset]) rfl ?_
    refine XS.iconst X1.here hx rfl (hb hby at_20) ?_
    show Steps p.tables e below (T1.setTop (mkF m 21 #[.val (.int p1), .val (.int p2), .val (.int p3), .val (.int ss), .val (.int (0 : Int32)), .val (.ref ad1), .unset, .unset, .unset, .unset] [(.int (3 : Int32))])) _
    refine st2 _ ?_
    show Steps p.tables e below (T2.setTop (mkF m 23 #[.val (.int p1), .val (.int p2), .val (.int p3), .val (.int ss), .val (.int (0 : Int32)), .val (.ref ad1), .unset, .unset, .unset, .unset] [(.ref ad2)])) _
    refine XS.astore X2.here hx rfl (hb hby at_23) rfl rfl (l' := #[.val (.int p1), .val (.int p2), .val (.int p3), .val (.int ss), .val (.int (0 : Int32)), .val (.ref ad1), .val (.ref ad2), .unset, .unset, .unset]) rfl ?_
    refine XS.iconst X2.here hx rfl (hb hby at_25) ?_
    show Steps p.tables e below (T2.setTop (mkF m 26 #[.val (.int p1), .val (.int p2), .val (.int p3), .val (.int ss), .val (.int (0 : Int32)), .val (.ref ad1), .val (.ref ad2), .unset, .unset, .unset] [(.int (3 : Int32))])) _
    refine st3 _ ?_
    show Steps p.tables e below (T3.setTop (mkF m 28 #[.val (.int p1), .val (.int p2), .val (.int p3), .val (.int ss), .val (.int (0 : Int32)), .val (.ref ad1), .val (.ref ad2), .unset, .unset, .unset] [(.ref ad3)])) _
    refine XS.astore X3.here hx rfl (hb hby at_28) rfl rfl (l' := #[.val (.int p1), .val (.int p2), .val (.int p3), .val (.int ss), .val (.int (0 : Int32)), .val (.ref ad1), .val (.ref ad2), .val (.ref ad3), .unset, .unset]) rfl ?_
    refine XS.aload X3.here hx rfl (hb hby at_30) rfl rfl ?_
    refine XS.iconst X3.here hx rfl (hb hby at_32) ?_
    refine XS.iloadN X3.here hx rfl (hb hby at_33) rfl ?_
    refine XS.iconst X3.here hx rfl (hb hby at_34) ?_
    show Steps p.tables e below (T3.setTop (mkF m 35 #[.val (.int p1), .val (.int p2), .val (.int p3), .val (.int ss), .val (.int (0 : Int32)), .val (.ref ad1), .val (.ref ad2), .val (.ref ad3), .unset, .unset] [(.int (1 : Int32)), (.int p1), (.int (0 : Int32)), (.ref ad1)])) _
    refine XS.iand X3.here hx rfl (hb hby at_35) rfl ?_
    rw [← hu0]
    show Steps p.tables e below (T3.setTop (mkF m 36 #[.val (.int p1), .val (.int p2), .val (.int p3), .val (.int ss), .val (.int (0 : Int32)), .val (.ref ad1), .val (.ref ad2), .val (.ref ad3), .unset, .unset] [(.int u0), (.int (0 : Int32)), (.ref ad1)])) _
    refine st4 _ ?_
    show Steps p.tables e below (T4.setTop (mkF m 37 #[.val (.int p1), .val (.int p2), .val (.int p3), .val (.int ss), .val (.int (0 : Int32)), .val (.ref ad1), .val (.ref ad2), .val (.ref ad3), .unset, .unset] [])) _
    refine XS.aload X4.here hx rfl (hb hby at_37) rfl rfl ?_
    refine XS.iconst X4.here hx rfl (hb hby at_39) ?_
    refine XS.iloadN X4.here hx rfl (hb hby at_40) rfl ?_
    refine XS.iconst X4.here hx rfl (hb hby at_41) ?_
    show Steps p.tables e below (T4.setTop (mkF m 42 #[.val (.int p1), .val (.int p2), .val (.int p3), .val (.int ss), .val (.int (0 : Int32)), .val (.ref ad1), .val (.ref ad2), .val (.ref ad3), .unset, .unset] [(.int (1 : Int32)), (.int p1), (.int (1 : Int32)), (.ref ad1)])) _
    refine XS.iushr X4.here hx rfl (hb hby at_42) rfl ?_
    show Steps p.tables e below (T4.setTop (mkF m 43 #[.val (.int p1), .val (.int p2), .val (.int p3), .val (.int ss), .val (.int (0 : Int32)), .val (.ref ad1), .val (.ref ad2), .val (.ref ad3), .unset, .unset] [(.int ((p1.toUInt32 >>> ((1 : Int32) &&& 31).toUInt32).toInt32)), (.int (1 : Int32)), (.ref ad1)])) _
    refine XS.iconst X4.here hx rfl (hb hby at_43) ?_
    show Steps p.tables e below (T4.setTop (mkF m 44 #[.val (.int p1), .val (.int p2), .val (.int p3), .val (.int ss), .val (.int (0 : Int32)), .val (.ref ad1), .val (.ref ad2), .val (.ref ad3), .unset, .unset] [(.int (1 : Int32)), (.int ((p1.toUInt32 >>> ((1 : Int32) &&& 31).toUInt32).toInt32)), (.int (1 : Int32)), (.ref ad1)])) _
    refine XS.iand X4.here hx rfl (hb hby at_44) rfl ?_
    rw [← hu1]
    show Steps p.tables e below (T4.setTop (mkF m 45 #[.val (.int p1), .val (.int p2), .val (.int p3), .val (.int ss), .val (.int (0 : Int32)), .val (.ref ad1), .val (.ref ad2), .val (.ref ad3), .unset, .unset] [(.int u1), (.int (1 : Int32)), (.ref ad1)])) _
    refine st5 _ ?_
    show Steps p.tables e below (T5.setTop (mkF m 46 #[.val (.int p1), .val (.int p2), .val (.int p3), .val (.int ss), .val (.int (0 : Int32)), .val (.ref ad1), .val (.ref ad2), .val (.ref ad3), .unset, .unset] [])) _
    refine XS.aload X5.here hx rfl (hb hby at_46) rfl rfl ?_
    refine XS.iconst X5.here hx rfl (hb hby at_48) ?_
    refine XS.iloadN X5.here hx rfl (hb hby at_49) rfl ?_
    refine XS.iconst X5.here hx rfl (hb hby at_50) ?_
    show Steps p.tables e below (T5.setTop (mkF m 51 #[.val (.int p1), .val (.int p2), .val (.int p3), .val (.int ss), .val (.int (0 : Int32)), .val (.ref ad1), .val (.ref ad2), .val (.ref ad3), .unset, .unset] [(.int (2 : Int32)), (.int p1), (.int (2 : Int32)), (.ref ad1)])) _
    refine XS.iushr X5.here hx rfl (hb hby at_51) rfl ?_
    show Steps p.tables e below (T5.setTop (mkF m 52 #[.val (.int p1), .val (.int p2), .val (.int p3), .val (.int ss), .val (.int (0 : Int32)), .val (.ref ad1), .val (.ref ad2), .val (.ref ad3), .unset, .unset] [(.int ((p1.toUInt32 >>> ((2 : Int32) &&& 31).toUInt32).toInt32)), (.int (2 : Int32)), (.ref ad1)])) _
    refine XS.iconst X5.here hx rfl (hb hby at_52) ?_
    show Steps p.tables e below (T5.setTop (mkF m 53 #[.val (.int p1), .val (.int p2), .val (.int p3), .val (.int ss), .val (.int (0 : Int32)), .val (.ref ad1), .val (.ref ad2), .val (.ref ad3), .unset, .unset] [(.int (1 : Int32)), (.int ((p1.toUInt32 >>> ((2 : Int32) &&& 31).toUInt32).toInt32)), (.int (2 : Int32)), (.ref ad1)])) _
    refine XS.iand X5.here hx rfl (hb hby at_53) rfl ?_
    rw [← hu2]
    show Steps p.tables e below (T5.setTop (mkF m 54 #[.val (.int p1), .val (.int p2), .val (.int p3), .val (.int ss), .val (.int (0 : Int32)), .val (.ref ad1), .val (.ref ad2), .val (.ref ad3), .unset, .unset] [(.int u2), (.int (2 : Int32)), (.ref ad1)])) _
    refine st6 _ ?_
    show Steps p.tables e below (T6.setTop (mkF m 55 #[.val (.int p1), .val (.int p2), .val (.int p3), .val (.int ss), .val (.int (0 : Int32)), .val (.ref ad1), .val (.ref ad2), .val (.ref ad3), .unset, .unset] [])) _
    refine XS.aload X6.here hx rfl (hb hby at_55) rfl rfl ?_
    refine XS.iconst X6.here hx rfl (hb hby at_57) ?_
    refine XS.iloadN X6.here hx rfl (hb hby at_58) rfl ?_
    show Steps p.tables e below (T6.setTop (mkF m 59 #[.val (.int p1), .val (.int p2), .val (.int p3), .val (.int ss), .val (.int (0 : Int32)), .val (.ref ad1), .val (.ref ad2), .val (.ref ad3), .unset, .unset] [(.int ss), (.int (0 : Int32)), (.ref ad2)])) _
    refine st7 _ ?_
    show Steps p.tables e below (T7.setTop (mkF m 60 #[.val (.int p1), .val (.int p2), .val (.int p3), .val (.int ss), .val (.int (0 : Int32)), .val (.ref ad1), .val (.ref ad2), .val (.ref ad3), .unset, .unset] [])) _
    refine XS.aload X7.here hx rfl (hb hby at_60) rfl rfl ?_
    refine XS.iconst X7.here hx rfl (hb hby at_62) ?_
    refine XS.iconst X7.here hx rfl (hb hby at_63) ?_
    refine XS.iloadN X7.here hx rfl (hb hby at_64) rfl ?_
    show Steps p.tables e below (T7.setTop (mkF m 65 #[.val (.int p1), .val (.int p2), .val (.int p3), .val (.int ss), .val (.int (0 : Int32)), .val (.ref ad1), .val (.ref ad2), .val (.ref ad3), .unset, .unset] [(.int ss), (.int (1 : Int32)), (.int (1 : Int32)), (.ref ad2)])) _
    refine XS.iadd X7.here hx rfl (hb hby at_65) rfl ?_
    show Steps p.tables e below (T7.setTop (mkF m 66 #[.val (.int p1), .val (.int p2), .val (.int p3), .val (.int ss), .val (.int (0 : Int32)), .val (.ref ad1), .val (.ref ad2), .val (.ref ad3), .unset, .unset] [(.int ((1 : Int32) + ss)), (.int (1 : Int32)), (.ref ad2)])) _
    refine XS.iconst X7.here hx rfl (hb hby at_66) ?_
    show Steps p.tables e below (T7.setTop (mkF m 67 #[.val (.int p1), .val (.int p2), .val (.int p3), .val (.int ss), .val (.int (0 : Int32)), .val (.ref ad1), .val (.ref ad2), .val (.ref ad3), .unset, .unset] [(.int (3 : Int32)), (.int ((1 : Int32) + ss)), (.int (1 : Int32)), (.ref ad2)])) _
    refine iremM X7 hx rfl (hb hby at_67) rfl (by decide) ?_
    rw [← hv1]
    show Steps p.tables e below (T7.setTop (mkF m 68 #[.val (.int p1), .val (.int p2), .val (.int p3), .val (.int ss), .val (.int (0 : Int32)), .val (.ref ad1), .val (.ref ad2), .val (.ref ad3), .unset, .unset] [(.int v1), (.int (1 : Int32)), (.ref ad2)])) _
    refine st8 _ ?_
    show Steps p.tables e below (T8.setTop (mkF m 69 #[.val (.int p1), .val (.int p2), .val (.int p3), .val (.int ss), .val (.int (0 : Int32)), .val (.ref ad1), .val (.ref ad2), .val (.ref ad3), .unset, .unset] [])) _
    refine XS.aload X8.here hx rfl (hb hby at_69) rfl rfl ?_
    refine XS.iconst X8.here hx rfl (hb hby at_71) ?_
    refine XS.iconst X8.here hx rfl (hb hby at_72) ?_
    refine XS.iloadN X8.here hx rfl (hb hby at_73) rfl ?_
    show Steps p.tables e below (T8.setTop (mkF m 74 #[.val (.int p1), .val (.int p2), .val (.int p3), .val (.int ss), .val (.int (0 : Int32)), .val (.ref ad1), .val (.ref ad2), .val (.ref ad3), .unset, .unset] [(.int ss), (.int (2 : Int32)), (.int (2 : Int32)), (.ref ad2)])) _
    refine XS.iadd X8.here hx rfl (hb hby at_74) rfl ?_
    show Steps p.tables e below (T8.setTop (mkF m 75 #[.val (.int p1), .val (.int p2), .val (.int p3), .val (.int ss), .val (.int (0 : Int32)), .val (.ref ad1), .val (.ref ad2), .val (.ref ad3), .unset, .unset] [(.int ((2 : Int32) + ss)), (.int (2 : Int32)), (.ref ad2)])) _
    refine XS.iconst X8.here hx rfl (hb hby at_75) ?_
    show Steps p.tables e below (T8.setTop (mkF m 76 #[.val (.int p1), .val (.int p2), .val (.int p3), .val (.int ss), .val (.int (0 : Int32)), .val (.ref ad1), .val (.ref ad2), .val (.ref ad3), .unset, .unset] [(.int (3 : Int32)), (.int ((2 : Int32) + ss)), (.int (2 : Int32)), (.ref ad2)])) _
    refine iremM X8 hx rfl (hb hby at_76) rfl (by decide) ?_
    rw [← hv2]
    show Steps p.tables e below (T8.setTop (mkF m 77 #[.val (.int p1), .val (.int p2), .val (.int p3), .val (.int ss), .val (.int (0 : Int32)), .val (.ref ad1), .val (.ref ad2), .val (.ref ad3), .unset, .unset] [(.int v2), (.int (2 : Int32)), (.ref ad2)])) _
    refine st9 _ ?_
    show Steps p.tables e below (T9.setTop (mkF m 78 #[.val (.int p1), .val (.int p2), .val (.int p3), .val (.int ss), .val (.int (0 : Int32)), .val (.ref ad1), .val (.ref ad2), .val (.ref ad3), .unset, .unset] [])) _
    refine XS.aload X9.here hx rfl (hb hby at_78) rfl rfl ?_
    refine XS.iconst X9.here hx rfl (hb hby at_80) ?_
    refine XS.iload X9.here hx rfl (hb hby at_81) rfl ?_
    show Steps p.tables e below (T9.setTop (mkF m 83 #[.val (.int p1), .val (.int p2), .val (.int p3), .val (.int ss), .val (.int (0 : Int32)), .val (.ref ad1), .val (.ref ad2), .val (.ref ad3), .unset, .unset] [(.int (0 : Int32)), (.int (0 : Int32)), (.ref ad3)])) _
    refine XS.ifYes X9.here hx rfl (pc0 := 83) (pc' := 90) rfl (hb hby at_83) rfl ((if0 _ _).trans (teq (by decide : (0 : Int32) = (0 : Int32))).1) (by decide) (by decide) ?_
    show Steps p.tables e below (T9.setTop (mkF m 90 #[.val (.int p1), .val (.int p2), .val (.int p3), .val (.int ss), .val (.int (0 : Int32)), .val (.ref ad1), .val (.ref ad2), .val (.ref ad3), .unset, .unset] [(.int (0 : Int32)), (.ref ad3)])) _
    refine XS.iconst X9.here hx rfl (hb hby at_90) ?_
    show Steps p.tables e below (T9.setTop (mkF m 91 #[.val (.int p1), .val (.int p2), .val (.int p3), .val (.int ss), .val (.int (0 : Int32)), .val (.ref ad1), .val (.ref ad2), .val (.ref ad3), .unset, .unset] [(.int (0 : Int32)), (.int (0 : Int32)), (.ref ad3)])) _
    refine st10 _ ?_
    show Steps p.tables e below (T10.setTop (mkF m 92 #[.val (.int p1), .val (.int p2), .val (.int p3), .val (.int ss), .val (.int (0 : Int32)), .val (.ref ad1), .val (.ref ad2), .val (.ref ad3), .unset, .unset] [])) _
    refine XS.aload X10.here hx rfl (hb hby at_92) rfl rfl ?_
    refine XS.iconst X10.here hx rfl (hb hby at_94) ?_
    refine XS.iload X10.here hx rfl (hb hby at_95) rfl ?_
    refine XS.iconst X10.here hx rfl (hb hby at_97) ?_
    show Steps p.tables e below (T10.setTop (mkF m 98 #[.val (.int p1), .val (.int p2), .val (.int p3), .val (.int ss), .val (.int (0 : Int32)), .val (.ref ad1), .val (.ref ad2), .val (.ref ad3), .unset, .unset] [(.int (1 : Int32)), (.int (0 : Int32)), (.int (1 : Int32)), (.ref ad3)])) _
    refine XS.icmpNo X10.here hx rfl (hb hby at_98) rfl (feq (by decide : ¬ ((0 : Int32) = (1 : Int32)))).1 ?_
    show Steps p.tables e below (T10.setTop (mkF m 101 #[.val (.int p1), .val (.int p2), .val (.int p3), .val (.int ss), .val (.int (0 : Int32)), .val (.ref ad1), .val (.ref ad2), .val (.ref ad3), .unset, .unset] [(.int (1 : Int32)), (.ref ad3)])) _
    refine XS.iconst X10.here hx rfl (hb hby at_101) ?_
    refine XS.goto X10.here hx rfl (pc0 := 102) (pc' := 106) rfl (hb hby at_102) (by decide) (by decide) ?_
    show Steps p.tables e below (T10.setTop (mkF m 106 #[.val (.int p1), .val (.int p2), .val (.int p3), .val (.int ss), .val (.int (0 : Int32)), .val (.ref ad1), .val (.ref ad2), .val (.ref ad3), .unset, .unset] [(.int (1 : Int32)), (.int (1 : Int32)), (.ref ad3)])) _
    refine st11 _ ?_
    show Steps p.tables e below (T11.setTop (mkF m 107 #[.val (.int p1), .val (.int p2), .val (.int p3), .val (.int ss), .val (.int (0 : Int32)), .val (.ref ad1), .val (.ref ad2), .val (.ref ad3), .unset, .unset] [])) _
    refine XS.aload X11.here hx rfl (hb hby at_107) rfl rfl ?_
    refine XS.iconst X11.here hx rfl (hb hby at_109) ?_
    refine XS.iload X11.here hx rfl (hb hby at_110) rfl ?_
    refine XS.iconst X11.here hx rfl (hb hby at_112) ?_
    show Steps p.tables e below (T11.setTop (mkF m 113 #[.val (.int p1), .val (.int p2), .val (.int p3), .val (.int ss), .val (.int (0 : Int32)), .val (.ref ad1), .val (.ref ad2), .val (.ref ad3), .unset, .unset] [(.int (2 : Int32)), (.int (0 : Int32)), (.int (2 : Int32)), (.ref ad3)])) _
    refine XS.icmpNo X11.here hx rfl (hb hby at_113) rfl (feq (by decide : ¬ ((0 : Int32) = (2 : Int32)))).1 ?_
    show Steps p.tables e below (T11.setTop (mkF m 116 #[.val (.int p1), .val (.int p2), .val (.int p3), .val (.int ss), .val (.int (0 : Int32)), .val (.ref ad1), .val (.ref ad2), .val (.ref ad3), .unset, .unset] [(.int (2 : Int32)), (.ref ad3)])) _
    refine XS.iconst X11.here hx rfl (hb hby at_116) ?_
    refine XS.goto X11.here hx rfl (pc0 := 117) (pc' := 121) rfl (hb hby at_117) (by decide) (by decide) ?_
    show Steps p.tables e below (T11.setTop (mkF m 121 #[.val (.int p1), .val (.int p2), .val (.int p3), .val (.int ss), .val (.int (0 : Int32)), .val (.ref ad1), .val (.ref ad2), .val (.ref ad3), .unset, .unset] [(.int (1 : Int32)), (.int (2 : Int32)), (.ref ad3)])) _
    refine st12 _ ?_
    show Steps p.tables e below (T12.setTop (mkF m 122 #[.val (.int p1), .val (.int p2), .val (.int p3), .val (.int ss), .val (.int (0 : Int32)), .val (.ref ad1), .val (.ref ad2), .val (.ref ad3), .unset, .unset] [])) _
    refine st13 _ ?_
    show Steps p.tables e below (T13.setTop (mkF m 125 #[.val (.int p1), .val (.int p2), .val (.int p3), .val (.int ss), .val (.int (0 : Int32)), .val (.ref ad1), .val (.ref ad2), .val (.ref ad3), .unset, .unset] [(.ref ad13)])) _
    refine XS.dup X13.here hx rfl (hb hby at_125) rfl rfl ?_
    refine XS.iconst X13.here hx rfl (hb hby at_126) ?_
    refine XS.iconst X13.here hx rfl (hb hby at_127) ?_
    show Steps p.tables e below (T13.setTop (mkF m 128 #[.val (.int p1), .val (.int p2), .val (.int p3), .val (.int ss), .val (.int (0 : Int32)), .val (.ref ad1), .val (.ref ad2), .val (.ref ad3), .unset, .unset] [(.int (3 : Int32)), (.int (2 : Int32)), (.ref ad13), (.ref ad13)])) _
    refine st14.trans ?_
    show Steps p.tables e below (T14.setTop (mkF m 131 #[.val (.int p1), .val (.int p2), .val (.int p3), .val (.int ss), .val (.int (0 : Int32)), .val (.ref ad1), .val (.ref ad2), .val (.ref ad3), .unset, .unset] [(.ref ad13)])) _
    refine XS.astore X14.here hx rfl (hb hby at_131) rfl rfl (l' := #[.val (.int p1), .val (.int p2), .val (.int p3), .val (.int ss), .val (.int (0 : Int32)), .val (.ref ad1), .val (.ref ad2), .val (.ref ad3), .val (.ref ad13), .unset]) rfl ?_
    refine XS.aload X14.here hx rfl (hb hby at_133) rfl rfl ?_
    refine XS.aload X14.here hx rfl (hb hby at_135) rfl rfl ?_
    refine XS.iconst X14.here hx rfl (hb hby at_137) ?_
    show Steps p.tables e below (T14.setTop (mkF m 138 #[.val (.int p1), .val (.int p2), .val (.int p3), .val (.int ss), .val (.int (0 : Int32)), .val (.ref ad1), .val (.ref ad2), .val (.ref ad3), .val (.ref ad13), .unset] [(.int (0 : Int32)), (.ref ad1), (.ref ad13)])) _
    refine own_ld X14 hx hZ rfl A_ad1_14 (by decide) (by decide) (g := (mkF m 138 #[.val (.int p1), .val (.int p2), .val (.int p3), .val (.int ss), .val (.int (0 : Int32)), .val (.ref ad1), .val (.ref ad2), .val (.ref ad3), .val (.ref ad13), .unset] [(.int (0 : Int32)), (.ref ad1), (.ref ad13)])) rfl rfl (hb hby at_138) _ ?_
    show Steps p.tables e below (T14.setTop (mkF m 139 #[.val (.int p1), .val (.int p2), .val (.int p3), .val (.int ss), .val (.int (0 : Int32)), .val (.ref ad1), .val (.ref ad2), .val (.ref ad3), .val (.ref ad13), .unset] [(.int u0), (.ref ad13)])) _
    refine XS.aload X14.here hx rfl (hb hby at_139) rfl rfl ?_
    refine XS.iconst X14.here hx rfl (hb hby at_141) ?_
    show Steps p.tables e below (T14.setTop (mkF m 142 #[.val (.int p1), .val (.int p2), .val (.int p3), .val (.int ss), .val (.int (0 : Int32)), .val (.ref ad1), .val (.ref ad2), .val (.ref ad3), .val (.ref ad13), .unset] [(.int (0 : Int32)), (.ref ad2), (.int u0), (.ref ad13)])) _
    refine own_ld X14 hx hZ rfl A_ad2_14 (by decide) (by decide) (g := (mkF m 142 #[.val (.int p1), .val (.int p2), .val (.int p3), .val (.int ss), .val (.int (0 : Int32)), .val (.ref ad1), .val (.ref ad2), .val (.ref ad3), .val (.ref ad13), .unset] [(.int (0 : Int32)), (.ref ad2), (.int u0), (.ref ad13)])) rfl rfl (hb hby at_142) _ ?_
    show Steps p.tables e below (T14.setTop (mkF m 143 #[.val (.int p1), .val (.int p2), .val (.int p3), .val (.int ss), .val (.int (0 : Int32)), .val (.ref ad1), .val (.ref ad2), .val (.ref ad3), .val (.ref ad13), .unset] [(.int ss), (.int u0), (.ref ad13)])) _
    refine st15.trans ?_
    show Steps p.tables e below (T15.setTop (mkF m 146 #[.val (.int p1), .val (.int p2), .val (.int p3), .val (.int ss), .val (.int (0 : Int32)), .val (.ref ad1), .val (.ref ad2), .val (.ref ad3), .val (.ref ad13), .unset] [])) _
    refine XS.aload X15.here hx rfl (hb hby at_146) rfl rfl ?_
    refine XS.aload X15.here hx rfl (hb hby at_148) rfl rfl ?_
    refine XS.iconst X15.here hx rfl (hb hby at_150) ?_
    show Steps p.tables e below (T15.setTop (mkF m 151 #[.val (.int p1), .val (.int p2), .val (.int p3), .val (.int ss), .val (.int (0 : Int32)), .val (.ref ad1), .val (.ref ad2), .val (.ref ad3), .val (.ref ad13), .unset] [(.int (1 : Int32)), (.ref ad1), (.ref ad13)])) _
    refine own_ld X15 hx hZ rfl A_ad1_15 (by decide) (by decide) (g := (mkF m 151 #[.val (.int p1), .val (.int p2), .val (.int p3), .val (.int ss), .val (.int (0 : Int32)), .val (.ref ad1), .val (.ref ad2), .val (.ref ad3), .val (.ref ad13), .unset] [(.int (1 : Int32)), (.ref ad1), (.ref ad13)])) rfl rfl (hb hby at_151) _ ?_
    show Steps p.tables e below (T15.setTop (mkF m 152 #[.val (.int p1), .val (.int p2), .val (.int p3), .val (.int ss), .val (.int (0 : Int32)), .val (.ref ad1), .val (.ref ad2), .val (.ref ad3), .val (.ref ad13), .unset] [(.int u1), (.ref ad13)])) _
    refine XS.aload X15.here hx rfl (hb hby at_152) rfl rfl ?_
    refine XS.iconst X15.here hx rfl (hb hby at_154) ?_
    show Steps p.tables e below (T15.setTop (mkF m 155 #[.val (.int p1), .val (.int p2), .val (.int p3), .val (.int ss), .val (.int (0 : Int32)), .val (.ref ad1), .val (.ref ad2), .val (.ref ad3), .val (.ref ad13), .unset] [(.int (1 : Int32)), (.ref ad2), (.int u1), (.ref ad13)])) _
    refine own_ld X15 hx hZ rfl A_ad2_15 (by decide) (by decide) (g := (mkF m 155 #[.val (.int p1), .val (.int p2), .val (.int p3), .val (.int ss), .val (.int (0 : Int32)), .val (.ref ad1), .val (.ref ad2), .val (.ref ad3), .val (.ref ad13), .unset] [(.int (1 : Int32)), (.ref ad2), (.int u1), (.ref ad13)])) rfl rfl (hb hby at_155) _ ?_
    show Steps p.tables e below (T15.setTop (mkF m 156 #[.val (.int p1), .val (.int p2), .val (.int p3), .val (.int ss), .val (.int (0 : Int32)), .val (.ref ad1), .val (.ref ad2), .val (.ref ad3), .val (.ref ad13), .unset] [(.int v1), (.int u1), (.ref ad13)])) _
    refine st16.trans ?_
    show Steps p.tables e below (T16.setTop (mkF m 159 #[.val (.int p1), .val (.int p2), .val (.int p3), .val (.int ss), .val (.int (0 : Int32)), .val (.ref ad1), .val (.ref ad2), .val (.ref ad3), .val (.ref ad13), .unset] [])) _
    refine XS.aload X16.here hx rfl (hb hby at_159) rfl rfl ?_
    refine XS.aload X16.here hx rfl (hb hby at_161) rfl rfl ?_
    refine XS.iconst X16.here hx rfl (hb hby at_163) ?_
    show Steps p.tables e below (T16.setTop (mkF m 164 #[.val (.int p1), .val (.int p2), .val (.int p3), .val (.int ss), .val (.int (0 : Int32)), .val (.ref ad1), .val (.ref ad2), .val (.ref ad3), .val (.ref ad13), .unset] [(.int (2 : Int32)), (.ref ad1), (.ref ad13)])) _
    refine own_ld X16 hx hZ rfl A_ad1_16 (by decide) (by decide) (g := (mkF m 164 #[.val (.int p1), .val (.int p2), .val (.int p3), .val (.int ss), .val (.int (0 : Int32)), .val (.ref ad1), .val (.ref ad2), .val (.ref ad3), .val (.ref ad13), .unset] [(.int (2 : Int32)), (.ref ad1), (.ref ad13)])) rfl rfl (hb hby at_164) _ ?_
    show Steps p.tables e below (T16.setTop (mkF m 165 #[.val (.int p1), .val (.int p2), .val (.int p3), .val (.int ss), .val (.int (0 : Int32)), .val (.ref ad1), .val (.ref ad2), .val (.ref ad3), .val (.ref ad13), .unset] [(.int u2), (.ref ad13)])) _
    refine XS.aload X16.here hx rfl (hb hby at_165) rfl rfl ?_
    refine XS.iconst X16.here hx rfl (hb hby at_167) ?_
    show Steps p.tables e below (T16.setTop (mkF m 168 #[.val (.int p1), .val (.int p2), .val (.int p3), .val (.int ss), .val (.int (0 : Int32)), .val (.ref ad1), .val (.ref ad2), .val (.ref ad3), .val (.ref ad13), .unset] [(.int (2 : Int32)), (.ref ad2), (.int u2), (.ref ad13)])) _
    refine own_ld X16 hx hZ rfl A_ad2_16 (by decide) (by decide) (g := (mkF m 168 #[.val (.int p1), .val (.int p2), .val (.int p3), .val (.int ss), .val (.int (0 : Int32)), .val (.ref ad1), .val (.ref ad2), .val (.ref ad3), .val (.ref ad13), .unset] [(.int (2 : Int32)), (.ref ad2), (.int u2), (.ref ad13)])) rfl rfl (hb hby at_168) _ ?_
    show Steps p.tables e below (T16.setTop (mkF m 169 #[.val (.int p1), .val (.int p2), .val (.int p3), .val (.int ss), .val (.int (0 : Int32)), .val (.ref ad1), .val (.ref ad2), .val (.ref ad3), .val (.ref ad13), .unset] [(.int v2), (.int u2), (.ref ad13)])) _
    refine st17.trans ?_
    show Steps p.tables e below (T17.setTop (mkF m 172 #[.val (.int p1), .val (.int p2), .val (.int p3), .val (.int ss), .val (.int (0 : Int32)), .val (.ref ad1), .val (.ref ad2), .val (.ref ad3), .val (.ref ad13), .unset] [])) _
    refine XS.iload X17.here hx rfl (hb hby at_172) rfl ?_
    refine XS.iconst X17.here hx rfl (hb hby at_174) ?_
    show Steps p.tables e below (T17.setTop (mkF m 175 #[.val (.int p1), .val (.int p2), .val (.int p3), .val (.int ss), .val (.int (0 : Int32)), .val (.ref ad1), .val (.ref ad2), .val (.ref ad3), .val (.ref ad13), .unset] [(.int (3 : Int32)), (.int (0 : Int32))])) _
    refine XS.icmpNo X17.here hx rfl (hb hby at_175) rfl (tlt (by decide : (0 : Int32) < (3 : Int32))).2.1 ?_
    show Steps p.tables e below (T17.setTop (mkF m 178 #[.val (.int p1), .val (.int p2), .val (.int p3), .val (.int ss), .val (.int (0 : Int32)), .val (.ref ad1), .val (.ref ad2), .val (.ref ad3), .val (.ref ad13), .unset] [])) _
    refine XS.aload X17.here hx rfl (hb hby at_178) rfl rfl ?_
    refine XS.aload X17.here hx rfl (hb hby at_180) rfl rfl ?_
    refine XS.iload X17.here hx rfl (hb hby at_182) rfl ?_
    show Steps p.tables e below (T17.setTop (mkF m 184 #[.val (.int p1), .val (.int p2), .val (.int p3), .val (.int ss), .val (.int (0 : Int32)), .val (.ref ad1), .val (.ref ad2), .val (.ref ad3), .val (.ref ad13), .unset] [(.int (0 : Int32)), (.ref ad1), (.ref ad13)])) _
    refine own_ld X17 hx hZ rfl A_ad1_17 (by decide) (by decide) (g := (mkF m 184 #[.val (.int p1), .val (.int p2), .val (.int p3), .val (.int ss), .val (.int (0 : Int32)), .val (.ref ad1), .val (.ref ad2), .val (.ref ad3), .val (.ref ad13), .unset] [(.int (0 : Int32)), (.ref ad1), (.ref ad13)])) rfl rfl (hb hby at_184) _ ?_
    show Steps p.tables e below (T17.setTop (mkF m 185 #[.val (.int p1), .val (.int p2), .val (.int p3), .val (.int ss), .val (.int (0 : Int32)), .val (.ref ad1), .val (.ref ad2), .val (.ref ad3), .val (.ref ad13), .unset] [(.int u0), (.ref ad13)])) _
    refine XS.aload X17.here hx rfl (hb hby at_185) rfl rfl ?_
    refine XS.iload X17.here hx rfl (hb hby at_187) rfl ?_
    show Steps p.tables e below (T17.setTop (mkF m 189 #[.val (.int p1), .val (.int p2), .val (.int p3), .val (.int ss), .val (.int (0 : Int32)), .val (.ref ad1), .val (.ref ad2), .val (.ref ad3), .val (.ref ad13), .unset] [(.int (0 : Int32)), (.ref ad2), (.int u0), (.ref ad13)])) _
    refine own_ld X17 hx hZ rfl A_ad2_17 (by decide) (by decide) (g := (mkF m 189 #[.val (.int p1), .val (.int p2), .val (.int p3), .val (.int ss), .val (.int (0 : Int32)), .val (.ref ad1), .val (.ref ad2), .val (.ref ad3), .val (.ref ad13), .unset] [(.int (0 : Int32)), (.ref ad2), (.int u0), (.ref ad13)])) rfl rfl (hb hby at_189) _ ?_
    show Steps p.tables e below (T17.setTop (mkF m 190 #[.val (.int p1), .val (.int p2), .val (.int p3), .val (.int ss), .val (.int (0 : Int32)), .val (.ref ad1), .val (.ref ad2), .val (.ref ad3), .val (.ref ad13), .unset] [(.int ss), (.int u0), (.ref ad13)])) _
    refine st18.trans ?_
    show Steps p.tables e below (T18.setTop (mkF m 193 #[.val (.int p1), .val (.int p2), .val (.int p3), .val (.int ss), .val (.int (0 : Int32)), .val (.ref ad1), .val (.ref ad2), .val (.ref ad3), .val (.ref ad13), .unset] [])) _
    refine XS.iconst X18.here hx rfl (hb hby at_193) ?_
    refine XS.istore X18.here hx rfl (hb hby at_194) rfl (l' := #[.val (.int p1), .val (.int p2), .val (.int p3), .val (.int ss), .val (.int (0 : Int32)), .val (.ref ad1), .val (.ref ad2), .val (.ref ad3), .val (.ref ad13), .val (.int (1 : Int32))]) rfl ?_
    refine XS.iload X18.here hx rfl (hb hby at_196) rfl ?_
    show Steps p.tables e below (T18.setTop (mkF m 198 #[.val (.int p1), .val (.int p2), .val (.int p3), .val (.int ss), .val (.int (0 : Int32)), .val (.ref ad1), .val (.ref ad2), .val (.ref ad3), .val (.ref ad13), .val (.int (1 : Int32))] [(.int (1 : Int32))])) _
    refine XS.ifNo X18.here hx rfl (hb hby at_198) rfl ((if0 _ _).trans (feq (by decide : ¬ ((1 : Int32) = (0 : Int32)))).1) ?_
    show Steps p.tables e below (T18.setTop (mkF m 201 #[.val (.int p1), .val (.int p2), .val (.int p3), .val (.int ss), .val (.int (0 : Int32)), .val (.ref ad1), .val (.ref ad2), .val (.ref ad3), .val (.ref ad13), .val (.int (1 : Int32))] [])) _
    refine XS.aload X18.here hx rfl (hb hby at_201) rfl rfl ?_
    refine XS.iconst X18.here hx rfl (hb hby at_203) ?_
    show Steps p.tables e below (T18.setTop (mkF m 204 #[.val (.int p1), .val (.int p2), .val (.int p3), .val (.int ss), .val (.int (0 : Int32)), .val (.ref ad1), .val (.ref ad2), .val (.ref ad3), .val (.ref ad13), .val (.int (1 : Int32))] [(.int (0 : Int32)), (.ref ad13)])) _
    refine st19.trans ?_
    show Steps p.tables e below (T19.setTop (mkF m 207 #[.val (.int p1), .val (.int p2), .val (.int p3), .val (.int ss), .val (.int (0 : Int32)), .val (.ref ad1), .val (.ref ad2), .val (.ref ad3), .val (.ref ad13), .val (.int (1 : Int32))] [(.int ((own_f12 u0 u1 u2 ss v1 v2) (0 : Int32)))])) _
    refine XS.aload X19.here hx rfl (hb hby at_207) rfl rfl ?_
    refine XS.aload X19.here hx rfl (hb hby at_209) rfl rfl ?_
    refine XS.aload X19.here hx rfl (hb hby at_211) rfl rfl ?_
    refine XS.iconst X19.here hx rfl (hb hby at_213) ?_
    refine XS.iconst X19.here hx rfl (hb hby at_214) ?_
    show Steps p.tables e below (T19.setTop (mkF m 215 #[.val (.int p1), .val (.int p2), .val (.int p3), .val (.int ss), .val (.int (0 : Int32)), .val (.ref ad1), .val (.ref ad2), .val (.ref ad3), .val (.ref ad13), .val (.int (1 : Int32))] [(.int (3 : Int32)), (.int (0 : Int32)), (.ref ad3), (.ref ad1), (.ref ad2), (.int ((own_f12 u0 u1 u2 ss v1 v2) (0 : Int32)))])) _
    refine st20 _ ?_
    show Steps p.tables e below (T20.setTop (mkF m 218 #[.val (.int p1), .val (.int p2), .val (.int p3), .val (.int ss), .val (.int (0 : Int32)), .val (.ref ad1), .val (.ref ad2), .val (.ref ad3), .val (.ref ad13), .val (.int (1 : Int32))] [(.int (own_last (own_upd (own_upd (own_upd own_zero (0 : Int32) u0) (1 : Int32) u1) (2 : Int32) u2) (own_upd (own_upd (own_upd own_zero (0 : Int32) (0 : Int32)) (1 : Int32) (1 : Int32)) (2 : Int32) (1 : Int32)) (0 : Int32) (3 : Int32))), (.ref ad2), (.int ((own_f12 u0 u1 u2 ss v1 v2) (0 : Int32)))])) _
    refine st21 _ ?_
    show Steps p.tables e below (T21.setTop (mkF m 221 #[.val (.int p1), .val (.int p2), .val (.int p3), .val (.int ss), .val (.int (0 : Int32)), .val (.ref ad1), .val (.ref ad2), .val (.ref ad3), .val (.ref ad13), .val (.int (1 : Int32))] [(.int (own_el (own_upd (own_upd (own_upd own_zero (0 : Int32) ss) (1 : Int32) v1) (2 : Int32) v2) (own_last (own_upd (own_upd (own_upd own_zero (0 : Int32) u0) (1 : Int32) u1) (2 : Int32) u2) (own_upd (own_upd (own_upd own_zero (0 : Int32) (0 : Int32)) (1 : Int32) (1 : Int32)) (2 : Int32) (1 : Int32)) (0 : Int32) (3 : Int32)))), (.int ((own_f12 u0 u1 u2 ss v1 v2) (0 : Int32)))])) _
    refine XS.icmpNo X21.here hx rfl (hb hby at_221) rfl (teq (show ((own_f12 u0 u1 u2 ss v1 v2) (0 : Int32)) = (own_el (own_upd (own_upd (own_upd own_zero (0 : Int32) ss) (1 : Int32) v1) (2 : Int32) v2) (own_last (own_upd (own_upd (own_upd own_zero (0 : Int32) u0) (1 : Int32) u1) (2 : Int32) u2) (own_upd (own_upd (own_upd own_zero (0 : Int32) (0 : Int32)) (1 : Int32) (1 : Int32)) (2 : Int32) (1 : Int32)) (0 : Int32) (3 : Int32))) from (own_k17 u0 u1 u2 ss v1 v2 c_u0 c_u1 c_u2 c_s hv1 hv2))).2 ?_
    show Steps p.tables e below (T21.setTop (mkF m 224 #[.val (.int p1), .val (.int p2), .val (.int p3), .val (.int ss), .val (.int (0 : Int32)), .val (.ref ad1), .val (.ref ad2), .val (.ref ad3), .val (.ref ad13), .val (.int (1 : Int32))] [])) _
    refine XS.iconst X21.here hx rfl (hb hby at_224) ?_
    refine XS.goto X21.here hx rfl (pc0 := 225) (pc' := 229) rfl (hb hby at_225) (by decide) (by decide) ?_
    refine XS.istore X21.here hx rfl (hb hby at_229) rfl (l' := #[.val (.int p1), .val (.int p2), .val (.int p3), .val (.int ss), .val (.int (0 : Int32)), .val (.ref ad1), .val (.ref ad2), .val (.ref ad3), .val (.ref ad13), .val (.int (1 : Int32))]) rfl ?_
    refine XS.iload X21.here hx rfl (hb hby at_231) rfl ?_
    show Steps p.tables e below (T21.setTop (mkF m 233 #[.val (.int p1), .val (.int p2), .val (.int p3), .val (.int ss), .val (.int (0 : Int32)), .val (.ref ad1), .val (.ref ad2), .val (.ref ad3), .val (.ref ad13), .val (.int (1 : Int32))] [(.int (1 : Int32))])) _
    refine XS.ifNo X21.here hx rfl (hb hby at_233) rfl ((if0 _ _).trans (feq (by decide : ¬ ((1 : Int32) = (0 : Int32)))).1) ?_
    show Steps p.tables e below (T21.setTop (mkF m 236 #[.val (.int p1), .val (.int p2), .val (.int p3), .val (.int ss), .val (.int (0 : Int32)), .val (.ref ad1), .val (.ref ad2), .val (.ref ad3), .val (.ref ad13), .val (.int (1 : Int32))] [])) _
    refine XS.aload X21.here hx rfl (hb hby at_236) rfl rfl ?_
    refine XS.iconst X21.here hx rfl (hb hby at_238) ?_
    show Steps p.tables e below (T21.setTop (mkF m 239 #[.val (.int p1), .val (.int p2), .val (.int p3), .val (.int ss), .val (.int (0 : Int32)), .val (.ref ad1), .val (.ref ad2), .val (.ref ad3), .val (.ref ad13), .val (.int (1 : Int32))] [(.int (1 : Int32)), (.ref ad13)])) _
    refine st22.trans ?_
    show Steps p.tables e below (T22.setTop (mkF m 242 #[.val (.int p1), .val (.int p2), .val (.int p3), .val (.int ss), .val (.int (0 : Int32)), .val (.ref ad1), .val (.ref ad2), .val (.ref ad3), .val (.ref ad13), .val (.int (1 : Int32))] [(.int ((own_f12 u0 u1 u2 ss v1 v2) (1 : Int32)))])) _
    refine XS.aload X22.here hx rfl (hb hby at_242) rfl rfl ?_
    refine XS.aload X22.here hx rfl (hb hby at_244) rfl rfl ?_
    refine XS.aload X22.here hx rfl (hb hby at_246) rfl rfl ?_
    refine XS.iconst X22.here hx rfl (hb hby at_248) ?_
    refine XS.iconst X22.here hx rfl (hb hby at_249) ?_
    show Steps p.tables e below (T22.setTop (mkF m 250 #[.val (.int p1), .val (.int p2), .val (.int p3), .val (.int ss), .val (.int (0 : Int32)), .val (.ref ad1), .val (.ref ad2), .val (.ref ad3), .val (.ref ad13), .val (.int (1 : Int32))] [(.int (3 : Int32)), (.int (1 : Int32)), (.ref ad3), (.ref ad1), (.ref ad2), (.int ((own_f12 u0 u1 u2 ss v1 v2) (1 : Int32)))])) _
    refine st23 _ ?_
    show Steps p.tables e below (T23.setTop (mkF m 253 #[.val (.int p1), .val (.int p2), .val (.int p3), .val (.int ss), .val (.int (0 : Int32)), .val (.ref ad1), .val (.ref ad2), .val (.ref ad3), .val (.ref ad13), .val (.int (1 : Int32))] [(.int (own_last (own_upd (own_upd (own_upd own_zero (0 : Int32) u0) (1 : Int32) u1) (2 : Int32) u2) (own_upd (own_upd (own_upd own_zero (0 : Int32) (0 : Int32)) (1 : Int32) (1 : Int32)) (2 : Int32) (1 : Int32)) (1 : Int32) (3 : Int32))), (.ref ad2), (.int ((own_f12 u0 u1 u2 ss v1 v2) (1 : Int32)))])) _
    refine st24 _ ?_
    show Steps p.tables e below (T24.setTop (mkF m 256 #[.val (.int p1), .val (.int p2), .val (.int p3), .val (.int ss), .val (.int (0 : Int32)), .val (.ref ad1), .val (.ref ad2), .val (.ref ad3), .val (.ref ad13), .val (.int (1 : Int32))] [(.int (own_el (own_upd (own_upd (own_upd own_zero (0 : Int32) ss) (1 : Int32) v1) (2 : Int32) v2) (own_last (own_upd (own_upd (own_upd own_zero (0 : Int32) u0) (1 : Int32) u1) (2 : Int32) u2) (own_upd (own_upd (own_upd own_zero (0 : Int32) (0 : Int32)) (1 : Int32) (1 : Int32)) (2 : Int32) (1 : Int32)) (1 : Int32) (3 : Int32)))), (.int ((own_f12 u0 u1 u2 ss v1 v2) (1 : Int32)))])) _
    refine XS.icmpNo X24.here hx rfl (hb hby at_256) rfl (teq (show ((own_f12 u0 u1 u2 ss v1 v2) (1 : Int32)) = (own_el (own_upd (own_upd (own_upd own_zero (0 : Int32) ss) (1 : Int32) v1) (2 : Int32) v2) (own_last (own_upd (own_upd (own_upd own_zero (0 : Int32) u0) (1 : Int32) u1) (2 : Int32) u2) (own_upd (own_upd (own_upd own_zero (0 : Int32) (0 : Int32)) (1 : Int32) (1 : Int32)) (2 : Int32) (1 : Int32)) (1 : Int32) (3 : Int32))) from (own_k18 u0 u1 u2 ss v1 v2 c_u0 c_u1 c_u2 c_s hv1 hv2))).2 ?_
    show Steps p.tables e below (T24.setTop (mkF m 259 #[.val (.int p1), .val (.int p2), .val (.int p3), .val (.int ss), .val (.int (0 : Int32)), .val (.ref ad1), .val (.ref ad2), .val (.ref ad3), .val (.ref ad13), .val (.int (1 : Int32))] [])) _
    refine XS.iconst X24.here hx rfl (hb hby at_259) ?_
    refine XS.goto X24.here hx rfl (pc0 := 260) (pc' := 264) rfl (hb hby at_260) (by decide) (by decide) ?_
    refine XS.istore X24.here hx rfl (hb hby at_264) rfl (l' := #[.val (.int p1), .val (.int p2), .val (.int p3), .val (.int ss), .val (.int (0 : Int32)), .val (.ref ad1), .val (.ref ad2), .val (.ref ad3), .val (.ref ad13), .val (.int (1 : Int32))]) rfl ?_
    refine XS.iload X24.here hx rfl (hb hby at_266) rfl ?_
    show Steps p.tables e below (T24.setTop (mkF m 268 #[.val (.int p1), .val (.int p2), .val (.int p3), .val (.int ss), .val (.int (0 : Int32)), .val (.ref ad1), .val (.ref ad2), .val (.ref ad3), .val (.ref ad13), .val (.int (1 : Int32))] [(.int (1 : Int32))])) _
    refine XS.ifNo X24.here hx rfl (hb hby at_268) rfl ((if0 _ _).trans (feq (by decide : ¬ ((1 : Int32) = (0 : Int32)))).1) ?_
    show Steps p.tables e below (T24.setTop (mkF m 271 #[.val (.int p1), .val (.int p2), .val (.int p3), .val (.int ss), .val (.int (0 : Int32)), .val (.ref ad1), .val (.ref ad2), .val (.ref ad3), .val (.ref ad13), .val (.int (1 : Int32))] [])) _
    refine XS.aload X24.here hx rfl (hb hby at_271) rfl rfl ?_
    refine XS.iconst X24.here hx rfl (hb hby at_273) ?_
    show Steps p.tables e below (T24.setTop (mkF m 274 #[.val (.int p1), .val (.int p2), .val (.int p3), .val (.int ss), .val (.int (0 : Int32)), .val (.ref ad1), .val (.ref ad2), .val (.ref ad3), .val (.ref ad13), .val (.int (1 : Int32))] [(.int (0 : Int32)), (.ref ad13)])) _
    refine st25.trans ?_
    show Steps p.tables e below (T25.setTop (mkF m 277 #[.val (.int p1), .val (.int p2), .val (.int p3), .val (.int ss), .val (.int (0 : Int32)), .val (.ref ad1), .val (.ref ad2), .val (.ref ad3), .val (.ref ad13), .val (.int (1 : Int32))] [(.int ((own_f13 u0 u1 u2 ss v1 v2) (0 : Int32)))])) _
    refine XS.aload X25.here hx rfl (hb hby at_277) rfl rfl ?_
    refine XS.aload X25.here hx rfl (hb hby at_279) rfl rfl ?_
    refine XS.iconst X25.here hx rfl (hb hby at_281) ?_
    show Steps p.tables e below (T25.setTop (mkF m 282 #[.val (.int p1), .val (.int p2), .val (.int p3), .val (.int ss), .val (.int (0 : Int32)), .val (.ref ad1), .val (.ref ad2), .val (.ref ad3), .val (.ref ad13), .val (.int (1 : Int32))] [(.int (0 : Int32)), (.ref ad3), (.ref ad1), (.int ((own_f13 u0 u1 u2 ss v1 v2) (0 : Int32)))])) _
    refine st26 _ ?_
    show Steps p.tables e below (T26.setTop (mkF m 285 #[.val (.int p1), .val (.int p2), .val (.int p3), .val (.int ss), .val (.int (0 : Int32)), .val (.ref ad1), .val (.ref ad2), .val (.ref ad3), .val (.ref ad13), .val (.int (1 : Int32))] [(.int (own_cnt (own_upd (own_upd (own_upd own_zero (0 : Int32) u0) (1 : Int32) u1) (2 : Int32) u2) (own_upd (own_upd (own_upd own_zero (0 : Int32) (0 : Int32)) (1 : Int32) (1 : Int32)) (2 : Int32) (1 : Int32)) (0 : Int32))), (.int ((own_f13 u0 u1 u2 ss v1 v2) (0 : Int32)))])) _
    refine XS.icmpNo X26.here hx rfl (hb hby at_285) rfl (teq (show ((own_f13 u0 u1 u2 ss v1 v2) (0 : Int32)) = (own_cnt (own_upd (own_upd (own_upd own_zero (0 : Int32) u0) (1 : Int32) u1) (2 : Int32) u2) (own_upd (own_upd (own_upd own_zero (0 : Int32) (0 : Int32)) (1 : Int32) (1 : Int32)) (2 : Int32) (1 : Int32)) (0 : Int32)) from (own_k19 u0 u1 u2 ss v1 v2 c_u0 c_u1 c_u2 c_s hv1 hv2))).2 ?_
    show Steps p.tables e below (T26.setTop (mkF m 288 #[.val (.int p1), .val (.int p2), .val (.int p3), .val (.int ss), .val (.int (0 : Int32)), .val (.ref ad1), .val (.ref ad2), .val (.ref ad3), .val (.ref ad13), .val (.int (1 : Int32))] [])) _
    refine XS.iconst X26.here hx rfl (hb hby at_288) ?_
    refine XS.goto X26.here hx rfl (pc0 := 289) (pc' := 293) rfl (hb hby at_289) (by decide) (by decide) ?_
    refine XS.istore X26.here hx rfl (hb hby at_293) rfl (l' := #[.val (.int p1), .val (.int p2), .val (.int p3), .val (.int ss), .val (.int (0 : Int32)), .val (.ref ad1), .val (.ref ad2), .val (.ref ad3), .val (.ref ad13), .val (.int (1 : Int32))]) rfl ?_
    refine XS.iload X26.here hx rfl (hb hby at_295) rfl ?_
    show Steps p.tables e below (T26.setTop (mkF m 297 #[.val (.int p1), .val (.int p2), .val (.int p3), .val (.int ss), .val (.int (0 : Int32)), .val (.ref ad1), .val (.ref ad2), .val (.ref ad3), .val (.ref ad13), .val (.int (1 : Int32))] [(.int (1 : Int32))])) _
    refine XS.ifNo X26.here hx rfl (hb hby at_297) rfl ((if0 _ _).trans (feq (by decide : ¬ ((1 : Int32) = (0 : Int32)))).1) ?_
    show Steps p.tables e below (T26.setTop (mkF m 300 #[.val (.int p1), .val (.int p2), .val (.int p3), .val (.int ss), .val (.int (0 : Int32)), .val (.ref ad1), .val (.ref ad2), .val (.ref ad3), .val (.ref ad13), .val (.int (1 : Int32))] [])) _
    refine XS.aload X26.here hx rfl (hb hby at_300) rfl rfl ?_
    refine XS.iconst X26.here hx rfl (hb hby at_302) ?_
    show Steps p.tables e below (T26.setTop (mkF m 303 #[.val (.int p1), .val (.int p2), .val (.int p3), .val (.int ss), .val (.int (0 : Int32)), .val (.ref ad1), .val (.ref ad2), .val (.ref ad3), .val (.ref ad13), .val (.int (1 : Int32))] [(.int (1 : Int32)), (.ref ad13)])) _
    refine st27.trans ?_
    show Steps p.tables e below (T27.setTop (mkF m 306 #[.val (.int p1), .val (.int p2), .val (.int p3), .val (.int ss), .val (.int (0 : Int32)), .val (.ref ad1), .val (.ref ad2), .val (.ref ad3), .val (.ref ad13), .val (.int (1 : Int32))] [(.int ((own_f13 u0 u1 u2 ss v1 v2) (1 : Int32)))])) _
    refine XS.aload X27.here hx rfl (hb hby at_306) rfl rfl ?_
    refine XS.aload X27.here hx rfl (hb hby at_308) rfl rfl ?_
    refine XS.iconst X27.here hx rfl (hb hby at_310) ?_
    show Steps p.tables e below (T27.setTop (mkF m 311 #[.val (.int p1), .val (.int p2), .val (.int p3), .val (.int ss), .val (.int (0 : Int32)), .val (.ref ad1), .val (.ref ad2), .val (.ref ad3), .val (.ref ad13), .val (.int (1 : Int32))] [(.int (1 : Int32)), (.ref ad3), (.ref ad1), (.int ((own_f13 u0 u1 u2 ss v1 v2) (1 : Int32)))])) _
    refine st28 _ ?_
    show Steps p.tables e below (T28.setTop (mkF m 314 #[.val (.int p1), .val (.int p2), .val (.int p3), .val (.int ss), .val (.int (0 : Int32)), .val (.ref ad1), .val (.ref ad2), .val (.ref ad3), .val (.ref ad13), .val (.int (1 : Int32))] [(.int (own_cnt (own_upd (own_upd (own_upd own_zero (0 : Int32) u0) (1 : Int32) u1) (2 : Int32) u2) (own_upd (own_upd (own_upd own_zero (0 : Int32) (0 : Int32)) (1 : Int32) (1 : Int32)) (2 : Int32) (1 : Int32)) (1 : Int32))), (.int ((own_f13 u0 u1 u2 ss v1 v2) (1 : Int32)))])) _
    refine XS.icmpNo X28.here hx rfl (hb hby at_314) rfl (teq (show ((own_f13 u0 u1 u2 ss v1 v2) (1 : Int32)) = (own_cnt (own_upd (own_upd (own_upd own_zero (0 : Int32) u0) (1 : Int32) u1) (2 : Int32) u2) (own_upd (own_upd (own_upd own_zero (0 : Int32) (0 : Int32)) (1 : Int32) (1 : Int32)) (2 : Int32) (1 : Int32)) (1 : Int32)) from (own_k20 u0 u1 u2 ss v1 v2 c_u0 c_u1 c_u2 c_s hv1 hv2))).2 ?_
    show Steps p.tables e below (T28.setTop (mkF m 317 #[.val (.int p1), .val (.int p2), .val (.int p3), .val (.int ss), .val (.int (0 : Int32)), .val (.ref ad1), .val (.ref ad2), .val (.ref ad3), .val (.ref ad13), .val (.int (1 : Int32))] [])) _
    refine XS.iconst X28.here hx rfl (hb hby at_317) ?_
    refine XS.goto X28.here hx rfl (pc0 := 318) (pc' := 322) rfl (hb hby at_318) (by decide) (by decide) ?_
    refine XS.istore X28.here hx rfl (hb hby at_322) rfl (l' := #[.val (.int p1), .val (.int p2), .val (.int p3), .val (.int ss), .val (.int (0 : Int32)), .val (.ref ad1), .val (.ref ad2), .val (.ref ad3), .val (.ref ad13), .val (.int (1 : Int32))]) rfl ?_
    refine XS.aload X28.here hx rfl (hb hby at_324) rfl rfl ?_
    refine XS.iconst X28.here hx rfl (hb hby at_326) ?_
    show Steps p.tables e below (T28.setTop (mkF m 327 #[.val (.int p1), .val (.int p2), .val (.int p3), .val (.int ss), .val (.int (0 : Int32)), .val (.ref ad1), .val (.ref ad2), .val (.ref ad3), .val (.ref ad13), .val (.int (1 : Int32))] [(.int (0 : Int32)), (.ref ad3)])) _
    refine own_ldz X28 hx hZ e28' A_ad3_18 (by decide) (by decide) (g := (mkF m 327 #[.val (.int p1), .val (.int p2), .val (.int p3), .val (.int ss), .val (.int (0 : Int32)), .val (.ref ad1), .val (.ref ad2), .val (.ref ad3), .val (.ref ad13), .val (.int (1 : Int32))] [(.int (0 : Int32)), (.ref ad3)])) rfl rfl (hb hby at_327) _ ?_
    show Steps p.tables e below (T28.setTop (mkF m 328 #[.val (.int p1), .val (.int p2), .val (.int p3), .val (.int ss), .val (.int (0 : Int32)), .val (.ref ad1), .val (.ref ad2), .val (.ref ad3), .val (.ref ad13), .val (.int (1 : Int32))] [(.int (0 : Int32))])) _
    refine XS.ifYes X28.here hx rfl (pc0 := 328) (pc' := 372) rfl (hb hby at_328) rfl ((if0 _ _).trans (teq (by decide : (0 : Int32) = (0 : Int32))).1) (by decide) (by decide) ?_
    show Steps p.tables e below (T28.setTop (mkF m 372 #[.val (.int p1), .val (.int p2), .val (.int p3), .val (.int ss), .val (.int (0 : Int32)), .val (.ref ad1), .val (.ref ad2), .val (.ref ad3), .val (.ref ad13), .val (.int (1 : Int32))] [])) _
    refine XS.aload X28.here hx rfl (hb hby at_372) rfl rfl ?_
    refine XS.iconst X28.here hx rfl (hb hby at_374) ?_
    show Steps p.tables e below (T28.setTop (mkF m 375 #[.val (.int p1), .val (.int p2), .val (.int p3), .val (.int ss), .val (.int (0 : Int32)), .val (.ref ad1), .val (.ref ad2), .val (.ref ad3), .val (.ref ad13), .val (.int (1 : Int32))] [(.int (1 : Int32)), (.ref ad3)])) _
    refine own_ldz X28 hx hZ e28' A_ad3_18 (by decide) (by decide) (g := (mkF m 375 #[.val (.int p1), .val (.int p2), .val (.int p3), .val (.int ss), .val (.int (0 : Int32)), .val (.ref ad1), .val (.ref ad2), .val (.ref ad3), .val (.ref ad13), .val (.int (1 : Int32))] [(.int (1 : Int32)), (.ref ad3)])) rfl rfl (hb hby at_375) _ ?_
    show Steps p.tables e below (T28.setTop (mkF m 376 #[.val (.int p1), .val (.int p2), .val (.int p3), .val (.int ss), .val (.int (0 : Int32)), .val (.ref ad1), .val (.ref ad2), .val (.ref ad3), .val (.ref ad13), .val (.int (1 : Int32))] [(.int (1 : Int32))])) _
    refine XS.ifNo X28.here hx rfl (hb hby at_376) rfl ((if0 _ _).trans (feq (by decide : ¬ ((1 : Int32) = (0 : Int32)))).1) ?_
    show Steps p.tables e below (T28.setTop (mkF m 379 #[.val (.int p1), .val (.int p2), .val (.int p3), .val (.int ss), .val (.int (0 : Int32)), .val (.ref ad1), .val (.ref ad2), .val (.ref ad3), .val (.ref ad13), .val (.int (1 : Int32))] [])) _
    refine XS.iload X28.here hx rfl (hb hby at_379) rfl ?_
    show Steps p.tables e below (T28.setTop (mkF m 381 #[.val (.int p1), .val (.int p2), .val (.int p3), .val (.int ss), .val (.int (0 : Int32)), .val (.ref ad1), .val (.ref ad2), .val (.ref ad3), .val (.ref ad13), .val (.int (1 : Int32))] [(.int (1 : Int32))])) _
    refine XS.ifNo X28.here hx rfl (hb hby at_381) rfl ((if0 _ _).trans (feq (by decide : ¬ ((1 : Int32) = (0 : Int32)))).1) ?_
    show Steps p.tables e below (T28.setTop (mkF m 384 #[.val (.int p1), .val (.int p2), .val (.int p3), .val (.int ss), .val (.int (0 : Int32)), .val (.ref ad1), .val (.ref ad2), .val (.ref ad3), .val (.ref ad13), .val (.int (1 : Int32))] [])) _
    refine XS.aload X28.here hx rfl (hb hby at_384) rfl rfl ?_
    refine XS.aload X28.here hx rfl (hb hby at_386) rfl rfl ?_
    refine XS.iconst X28.here hx rfl (hb hby at_388) ?_
    show Steps p.tables e below (T28.setTop (mkF m 389 #[.val (.int p1), .val (.int p2), .val (.int p3), .val (.int ss), .val (.int (0 : Int32)), .val (.ref ad1), .val (.ref ad2), .val (.ref ad3), .val (.ref ad13), .val (.int (1 : Int32))] [(.int (1 : Int32)), (.ref ad2), (.ref ad13)])) _
    refine own_ld X28 hx hZ e28' A_ad2_18 (by decide) (by decide) (g := (mkF m 389 #[.val (.int p1), .val (.int p2), .val (.int p3), .val (.int ss), .val (.int (0 : Int32)), .val (.ref ad1), .val (.ref ad2), .val (.ref ad3), .val (.ref ad13), .val (.int (1 : Int32))] [(.int (1 : Int32)), (.ref ad2), (.ref ad13)])) rfl rfl (hb hby at_389) _ ?_
    show Steps p.tables e below (T28.setTop (mkF m 390 #[.val (.int p1), .val (.int p2), .val (.int p3), .val (.int ss), .val (.int (0 : Int32)), .val (.ref ad1), .val (.ref ad2), .val (.ref ad3), .val (.ref ad13), .val (.int (1 : Int32))] [(.int v1), (.ref ad13)])) _
    refine st29.trans ?_
    show Steps p.tables e below (T29.setTop (mkF m 393 #[.val (.int p1), .val (.int p2), .val (.int p3), .val (.int ss), .val (.int (0 : Int32)), .val (.ref ad1), .val (.ref ad2), .val (.ref ad3), .val (.ref ad13), .val (.int (1 : Int32))] [(.int ((own_f14 u0 u1 u2 ss v1 v2) v1))])) _
    refine XS.aload X29.here hx rfl (hb hby at_393) rfl rfl ?_
    refine XS.aload X29.here hx rfl (hb hby at_395) rfl rfl ?_
    refine XS.aload X29.here hx rfl (hb hby at_397) rfl rfl ?_
    refine XS.aload X29.here hx rfl (hb hby at_399) rfl rfl ?_
    refine XS.iconst X29.here hx rfl (hb hby at_401) ?_
    show Steps p.tables e below (T29.setTop (mkF m 402 #[.val (.int p1), .val (.int p2), .val (.int p3), .val (.int ss), .val (.int (0 : Int32)), .val (.ref ad1), .val (.ref ad2), .val (.ref ad3), .val (.ref ad13), .val (.int (1 : Int32))] [(.int (1 : Int32)), (.ref ad1), (.ref ad3), (.ref ad1), (.ref ad2), (.int ((own_f14 u0 u1 u2 ss v1 v2) v1))])) _
    refine own_ld X29 hx hZ e29' A_ad1_18 (by decide) (by decide) (g := (mkF m 402 #[.val (.int p1), .val (.int p2), .val (.int p3), .val (.int ss), .val (.int (0 : Int32)), .val (.ref ad1), .val (.ref ad2), .val (.ref ad3), .val (.ref ad13), .val (.int (1 : Int32))] [(.int (1 : Int32)), (.ref ad1), (.ref ad3), (.ref ad1), (.ref ad2), (.int ((own_f14 u0 u1 u2 ss v1 v2) v1))])) rfl rfl (hb hby at_402) _ ?_
    show Steps p.tables e below (T29.setTop (mkF m 403 #[.val (.int p1), .val (.int p2), .val (.int p3), .val (.int ss), .val (.int (0 : Int32)), .val (.ref ad1), .val (.ref ad2), .val (.ref ad3), .val (.ref ad13), .val (.int (1 : Int32))] [(.int u1), (.ref ad3), (.ref ad1), (.ref ad2), (.int ((own_f14 u0 u1 u2 ss v1 v2) v1))])) _
    refine XS.iconst X29.here hx rfl (hb hby at_403) ?_
    show Steps p.tables e below (T29.setTop (mkF m 404 #[.val (.int p1), .val (.int p2), .val (.int p3), .val (.int ss), .val (.int (0 : Int32)), .val (.ref ad1), .val (.ref ad2), .val (.ref ad3), .val (.ref ad13), .val (.int (1 : Int32))] [(.int (1 : Int32)), (.int u1), (.ref ad3), (.ref ad1), (.ref ad2), (.int ((own_f14 u0 u1 u2 ss v1 v2) v1))])) _
    refine st30 _ ?_
    show Steps p.tables e below (T30.setTop (mkF m 407 #[.val (.int p1), .val (.int p2), .val (.int p3), .val (.int ss), .val (.int (0 : Int32)), .val (.ref ad1), .val (.ref ad2), .val (.ref ad3), .val (.ref ad13), .val (.int (1 : Int32))] [(.int (own_last (own_upd (own_upd (own_upd own_zero (0 : Int32) u0) (1 : Int32) u1) (2 : Int32) u2) (own_upd (own_upd (own_upd own_zero (0 : Int32) (0 : Int32)) (1 : Int32) (1 : Int32)) (2 : Int32) (1 : Int32)) u1 (1 : Int32))), (.ref ad2), (.int ((own_f14 u0 u1 u2 ss v1 v2) v1))])) _
    refine st31 _ ?_
    show Steps p.tables e below (T31.setTop (mkF m 410 #[.val (.int p1), .val (.int p2), .val (.int p3), .val (.int ss), .val (.int (0 : Int32)), .val (.ref ad1), .val (.ref ad2), .val (.ref ad3), .val (.ref ad13), .val (.int (1 : Int32))] [(.int (own_el (own_upd (own_upd (own_upd own_zero (0 : Int32) ss) (1 : Int32) v1) (2 : Int32) v2) (own_last (own_upd (own_upd (own_upd own_zero (0 : Int32) u0) (1 : Int32) u1) (2 : Int32) u2) (own_upd (own_upd (own_upd own_zero (0 : Int32) (0 : Int32)) (1 : Int32) (1 : Int32)) (2 : Int32) (1 : Int32)) u1 (1 : Int32)))), (.int ((own_f14 u0 u1 u2 ss v1 v2) v1))])) _
    refine XS.icmpNo X31.here hx rfl (hb hby at_410) rfl (teq (show ((own_f14 u0 u1 u2 ss v1 v2) v1) = (own_el (own_upd (own_upd (own_upd own_zero (0 : Int32) ss) (1 : Int32) v1) (2 : Int32) v2) (own_last (own_upd (own_upd (own_upd own_zero (0 : Int32) u0) (1 : Int32) u1) (2 : Int32) u2) (own_upd (own_upd (own_upd own_zero (0 : Int32) (0 : Int32)) (1 : Int32) (1 : Int32)) (2 : Int32) (1 : Int32)) u1 (1 : Int32))) from (own_k21 u0 u1 u2 ss v1 v2 c_u0 c_u1 c_u2 c_s hv1 hv2))).2 ?_
    show Steps p.tables e below (T31.setTop (mkF m 413 #[.val (.int p1), .val (.int p2), .val (.int p3), .val (.int ss), .val (.int (0 : Int32)), .val (.ref ad1), .val (.ref ad2), .val (.ref ad3), .val (.ref ad13), .val (.int (1 : Int32))] [])) _
    refine XS.iconst X31.here hx rfl (hb hby at_413) ?_
    refine XS.goto X31.here hx rfl (pc0 := 414) (pc' := 418) rfl (hb hby at_414) (by decide) (by decide) ?_
    refine XS.istore X31.here hx rfl (hb hby at_418) rfl (l' := #[.val (.int p1), .val (.int p2), .val (.int p3), .val (.int ss), .val (.int (0 : Int32)), .val (.ref ad1), .val (.ref ad2), .val (.ref ad3), .val (.ref ad13), .val (.int (1 : Int32))]) rfl ?_
    refine XS.aload X31.here hx rfl (hb hby at_420) rfl rfl ?_
    refine XS.iconst X31.here hx rfl (hb hby at_422) ?_
    show Steps p.tables e below (T31.setTop (mkF m 423 #[.val (.int p1), .val (.int p2), .val (.int p3), .val (.int ss), .val (.int (0 : Int32)), .val (.ref ad1), .val (.ref ad2), .val (.ref ad3), .val (.ref ad13), .val (.int (1 : Int32))] [(.int (2 : Int32)), (.ref ad3)])) _
    refine own_ldz X31 hx hZ e31' A_ad3_18 (by decide) (by decide) (g := (mkF m 423 #[.val (.int p1), .val (.int p2), .val (.int p3), .val (.int ss), .val (.int (0 : Int32)), .val (.ref ad1), .val (.ref ad2), .val (.ref ad3), .val (.ref ad13), .val (.int (1 : Int32))] [(.int (2 : Int32)), (.ref ad3)])) rfl rfl (hb hby at_423) _ ?_
    show Steps p.tables e below (T31.setTop (mkF m 424 #[.val (.int p1), .val (.int p2), .val (.int p3), .val (.int ss), .val (.int (0 : Int32)), .val (.ref ad1), .val (.ref ad2), .val (.ref ad3), .val (.ref ad13), .val (.int (1 : Int32))] [(.int (1 : Int32))])) _
    refine XS.ifNo X31.here hx rfl (hb hby at_424) rfl ((if0 _ _).trans (feq (by decide : ¬ ((1 : Int32) = (0 : Int32)))).1) ?_
    show Steps p.tables e below (T31.setTop (mkF m 427 #[.val (.int p1), .val (.int p2), .val (.int p3), .val (.int ss), .val (.int (0 : Int32)), .val (.ref ad1), .val (.ref ad2), .val (.ref ad3), .val (.ref ad13), .val (.int (1 : Int32))] [])) _
    refine XS.iload X31.here hx rfl (hb hby at_427) rfl ?_
    show Steps p.tables e below (T31.setTop (mkF m 429 #[.val (.int p1), .val (.int p2), .val (.int p3), .val (.int ss), .val (.int (0 : Int32)), .val (.ref ad1), .val (.ref ad2), .val (.ref ad3), .val (.ref ad13), .val (.int (1 : Int32))] [(.int (1 : Int32))])) _
    refine XS.ifNo X31.here hx rfl (hb hby at_429) rfl ((if0 _ _).trans (feq (by decide : ¬ ((1 : Int32) = (0 : Int32)))).1) ?_
    show Steps p.tables e below (T31.setTop (mkF m 432 #[.val (.int p1), .val (.int p2), .val (.int p3), .val (.int ss), .val (.int (0 : Int32)), .val (.ref ad1), .val (.ref ad2), .val (.ref ad3), .val (.ref ad13), .val (.int (1 : Int32))] [])) _
    refine XS.aload X31.here hx rfl (hb hby at_432) rfl rfl ?_
    refine XS.aload X31.here hx rfl (hb hby at_434) rfl rfl ?_
    refine XS.iconst X31.here hx rfl (hb hby at_436) ?_
    show Steps p.tables e below (T31.setTop (mkF m 437 #[.val (.int p1), .val (.int p2), .val (.int p3), .val (.int ss), .val (.int (0 : Int32)), .val (.ref ad1), .val (.ref ad2), .val (.ref ad3), .val (.ref ad13), .val (.int (1 : Int32))] [(.int (2 : Int32)), (.ref ad2), (.ref ad13)])) _
    refine own_ld X31 hx hZ e31' A_ad2_18 (by decide) (by decide) (g := (mkF m 437 #[.val (.int p1), .val (.int p2), .val (.int p3), .val (.int ss), .val (.int (0 : Int32)), .val (.ref ad1), .val (.ref ad2), .val (.ref ad3), .val (.ref ad13), .val (.int (1 : Int32))] [(.int (2 : Int32)), (.ref ad2), (.ref ad13)])) rfl rfl (hb hby at_437) _ ?_
    show Steps p.tables e below (T31.setTop (mkF m 438 #[.val (.int p1), .val (.int p2), .val (.int p3), .val (.int ss), .val (.int (0 : Int32)), .val (.ref ad1), .val (.ref ad2), .val (.ref ad3), .val (.ref ad13), .val (.int (1 : Int32))] [(.int v2), (.ref ad13)])) _
    refine st32.trans ?_
    show Steps p.tables e below (T32.setTop (mkF m 441 #[.val (.int p1), .val (.int p2), .val (.int p3), .val (.int ss), .val (.int (0 : Int32)), .val (.ref ad1), .val (.ref ad2), .val (.ref ad3), .val (.ref ad13), .val (.int (1 : Int32))] [(.int ((own_f14 u0 u1 u2 ss v1 v2) v2))])) _
    refine XS.aload X32.here hx rfl (hb hby at_441) rfl rfl ?_
    refine XS.aload X32.here hx rfl (hb hby at_443) rfl rfl ?_
    refine XS.aload X32.here hx rfl (hb hby at_445) rfl rfl ?_
    refine XS.aload X32.here hx rfl (hb hby at_447) rfl rfl ?_
    refine XS.iconst X32.here hx rfl (hb hby at_449) ?_
    show Steps p.tables e below (T32.setTop (mkF m 450 #[.val (.int p1), .val (.int p2), .val (.int p3), .val (.int ss), .val (.int (0 : Int32)), .val (.ref ad1), .val (.ref ad2), .val (.ref ad3), .val (.ref ad13), .val (.int (1 : Int32))] [(.int (2 : Int32)), (.ref ad1), (.ref ad3), (.ref ad1), (.ref ad2), (.int ((own_f14 u0 u1 u2 ss v1 v2) v2))])) _
    refine own_ld X32 hx hZ e32' A_ad1_18 (by decide) (by decide) (g := (mkF m 450 #[.val (.int p1), .val (.int p2), .val (.int p3), .val (.int ss), .val (.int (0 : Int32)), .val (.ref ad1), .val (.ref ad2), .val (.ref ad3), .val (.ref ad13), .val (.int (1 : Int32))] [(.int (2 : Int32)), (.ref ad1), (.ref ad3), (.ref ad1), (.ref ad2), (.int ((own_f14 u0 u1 u2 ss v1 v2) v2))])) rfl rfl (hb hby at_450) _ ?_
    show Steps p.tables e below (T32.setTop (mkF m 451 #[.val (.int p1), .val (.int p2), .val (.int p3), .val (.int ss), .val (.int (0 : Int32)), .val (.ref ad1), .val (.ref ad2), .val (.ref ad3), .val (.ref ad13), .val (.int (1 : Int32))] [(.int u2), (.ref ad3), (.ref ad1), (.ref ad2), (.int ((own_f14 u0 u1 u2 ss v1 v2) v2))])) _
    refine XS.iconst X32.here hx rfl (hb hby at_451) ?_
    show Steps p.tables e below (T32.setTop (mkF m 452 #[.val (.int p1), .val (.int p2), .val (.int p3), .val (.int ss), .val (.int (0 : Int32)), .val (.ref ad1), .val (.ref ad2), .val (.ref ad3), .val (.ref ad13), .val (.int (1 : Int32))] [(.int (2 : Int32)), (.int u2), (.ref ad3), (.ref ad1), (.ref ad2), (.int ((own_f14 u0 u1 u2 ss v1 v2) v2))])) _
    refine st33 _ ?_
    show Steps p.tables e below (T33.setTop (mkF m 455 #[.val (.int p1), .val (.int p2), .val (.int p3), .val (.int ss), .val (.int (0 : Int32)), .val (.ref ad1), .val (.ref ad2), .val (.ref ad3), .val (.ref ad13), .val (.int (1 : Int32))] [(.int (own_last (own_upd (own_upd (own_upd own_zero (0 : Int32) u0) (1 : Int32) u1) (2 : Int32) u2) (own_upd (own_upd (own_upd own_zero (0 : Int32) (0 : Int32)) (1 : Int32) (1 : Int32)) (2 : Int32) (1 : Int32)) u2 (2 : Int32))), (.ref ad2), (.int ((own_f14 u0 u1 u2 ss v1 v2) v2))])) _
    refine st34 _ ?_
    show Steps p.tables e below (T34.setTop (mkF m 458 #[.val (.int p1), .val (.int p2), .val (.int p3), .val (.int ss), .val (.int (0 : Int32)), .val (.ref ad1), .val (.ref ad2), .val (.ref ad3), .val (.ref ad13), .val (.int (1 : Int32))] [(.int (own_el (own_upd (own_upd (own_upd own_zero (0 : Int32) ss) (1 : Int32) v1) (2 : Int32) v2) (own_last (own_upd (own_upd (own_upd own_zero (0 : Int32) u0) (1 : Int32) u1) (2 : Int32) u2) (own_upd (own_upd (own_upd own_zero (0 : Int32) (0 : Int32)) (1 : Int32) (1 : Int32)) (2 : Int32) (1 : Int32)) u2 (2 : Int32)))), (.int ((own_f14 u0 u1 u2 ss v1 v2) v2))])) _
    refine XS.icmpNo X34.here hx rfl (hb hby at_458) rfl (teq (show ((own_f14 u0 u1 u2 ss v1 v2) v2) = (own_el (own_upd (own_upd (own_upd own_zero (0 : Int32) ss) (1 : Int32) v1) (2 : Int32) v2) (own_last (own_upd (own_upd (own_upd own_zero (0 : Int32) u0) (1 : Int32) u1) (2 : Int32) u2) (own_upd (own_upd (own_upd own_zero (0 : Int32) (0 : Int32)) (1 : Int32) (1 : Int32)) (2 : Int32) (1 : Int32)) u2 (2 : Int32))) from (own_k22 u0 u1 u2 ss v1 v2 c_u0 c_u1 c_u2 c_s hv1 hv2))).2 ?_
    show Steps p.tables e below (T34.setTop (mkF m 461 #[.val (.int p1), .val (.int p2), .val (.int p3), .val (.int ss), .val (.int (0 : Int32)), .val (.ref ad1), .val (.ref ad2), .val (.ref ad3), .val (.ref ad13), .val (.int (1 : Int32))] [])) _
    refine XS.iconst X34.here hx rfl (hb hby at_461) ?_
    refine XS.goto X34.here hx rfl (pc0 := 462) (pc' := 466) rfl (hb hby at_462) (by decide) (by decide) ?_
    refine XS.istore X34.here hx rfl (hb hby at_466) rfl (l' := #[.val (.int p1), .val (.int p2), .val (.int p3), .val (.int ss), .val (.int (0 : Int32)), .val (.ref ad1), .val (.ref ad2), .val (.ref ad3), .val (.ref ad13), .val (.int (1 : Int32))]) rfl ?_
    refine XS.iload X34.here hx rfl (hb hby at_468) rfl ?_
    show Steps p.tables e below (T34.setTop (mkF m 470 #[.val (.int p1), .val (.int p2), .val (.int p3), .val (.int ss), .val (.int (0 : Int32)), .val (.ref ad1), .val (.ref ad2), .val (.ref ad3), .val (.ref ad13), .val (.int (1 : Int32))] [(.int (1 : Int32))])) _
    exact retN X34 hx (t := .boolean) Bd.returns (by simp) (hb hby at_470) hr
  · show Q0_0 Z p1 p2 p3 h0 n0 _ T34.heap _
    exact ⟨rfl, N34⟩
def Q0_1 (Z : State) (p1 p2 p3 : Int32) (h0 : Heap) (n0 : Nat) (v : Option Value) (h : Heap) (L : List Loc) : Prop := v = some (.int (1 : Int32)) ∧ Fr n0 L
set_option maxRecDepth 65536 in
set_option maxHeartbeats 40000000 in
theorem rm0_1 (l : Launch) (Z : State) (a0 : Array Value) (hw : ∀ d ∈ tables_1, d.before a0 Z = true) (ws : List Jvm.Cond) (p1 p2 p3 : Int32) (h0 : Heap) (n0 : Nat) (Z0 : n0 ≤ h0.size) (hR : ((p2 &&& (2147483647 : Int32)) % (4 : Int32)) = (1 : Int32)) :
    MetFree l x (head1 (Jvm.Cond.code x code maxLocals ret :: ws) room_1) (fun a U => a = #[(.int p1), (.int p2), (.int p3)] ∧ Z.Warmed39 U.vm ∧ U.heap = h0) (fun _ _ _ _ _ => True) (fun _ U o U' => ∃ v L, o = .returned v ∧ Q0_1 Z p1 p2 p3 h0 n0 v U'.heap L ∧ FrameEnd U o U' L room_1.cells room_1.slots) := by
  refine MetFree.of_bodySF (plainFor_of_name pn_0) hisR ?_
  intro p e s m args below meth c s₁ Bd hml0 hP hK
  obtain ⟨rfl, hZ, hh⟩ := hP
  have hx := Bd.exec
  have hby := Bd.bytes
  have hml : c.maxLocals = 10 := hml0
  have hown : s.vm.findClass "com/example/process_stepper/processstepper/equivalence/IntListsPushPinLaw" = some m.cls := findClass_of_methodNamed Bd.named
  have hnm := (name_of_methodNamed Bd.named Bd.method).1
  have X0 : Stand p l e room_1 s m #[(.int p1), (.int p2), (.int p3)] below meth c s₁ [] 0 0 := Stand.of_body Bd
  have e0 : s₁.heap = h0 := by rw [← hh, Bd.state]; rfl
  have N0 := Fr.nil n0
  have pre0 : ∀ t, Steps p.tables e below (s₁.setTop (mkF m 0 #[.val (.int p1), .val (.int p2), .val (.int p3), .unset, .unset, .unset, .unset, .unset, .unset, .unset] [])) t → Steps p.tables e below (s₁.setTop (entryFrame m #[(.int p1), (.int p2), (.int p3)] maxLocals)) t := fun t k => castTop (ef_0 m p1 p2 p3) k
  obtain ⟨ss, hss⟩ : ∃ z : Int32, z = ((p3 &&& (2147483647 : Int32)) % (3 : Int32)) := ⟨_, rfl⟩
  have c_s := own_three p3 ss hss
  obtain ⟨T1, h1, k1, X1, e1, E1, A1, st1⟩ := newP X0 hx hZ (own_w hw 1 rfl) e0 (g := (mkF m 16 #[.val (.int p1), .val (.int p2), .val (.int p3), .val (.int ss), .val (.int (1 : Int32)), .unset, .unset, .unset, .unset, .unset] [(.int (3 : Int32))])) rfl (hb hby at_16) rfl (by decide) (cap := 3) (by decide) (by decide) (by decide) (by decide)
  obtain ⟨ad1, g1⟩ : ∃ z, z = h0.size := ⟨_, rfl⟩
  rw [← g1] at A1 st1
  have gn_ad1 : n0 ≤ ad1 := Nat.le_trans Z0 (Nat.le_of_eq g1.symm)
  have sz_ad1 : h0.size ≤ ad1 := Nat.le_trans (Keep.refl h0 []).1 (Nat.le_of_eq g1.symm)
  have A_ad1_1 : own_arr Z h1 ad1 (3 : Int32) own_zero := own_arr_new A1 (by decide)
  have K1 : Keep h0 h1 [] := (Keep.refl h0 []).ext E1
  have Zs1 : n0 ≤ h1.size := Nat.le_trans Z0 E1.1
  obtain ⟨T2, h2, k2, X2, e2, E2, A2, st2⟩ := newP X1 hx hZ (own_w hw 1 rfl) e1 (g := (mkF m 21 #[.val (.int p1), .val (.int p2), .val (.int p3), .val (.int ss), .val (.int (1 : Int32)), .val (.ref ad1), .unset, .unset, .unset, .unset] [(.int (3 : Int32))])) rfl (hb hby at_21) rfl (by decide) (cap := 3) (by decide) (by decide) (by decide) (by decide)
  obtain ⟨ad2, g2⟩ : ∃ z, z = h1.size := ⟨_, rfl⟩
  rw [← g2] at A2 st2
  have lt_ad1_ad2 : ad1 < ad2 := Nat.lt_of_lt_of_eq (own_arr_lt A_ad1_1) g2.symm
  have gn_ad2 : n0 ≤ ad2 := Nat.le_trans Zs1 (Nat.le_of_eq g2.symm)
  have sz_ad2 : h0.size ≤ ad2 := Nat.le_trans K1.1 (Nat.le_of_eq g2.symm)
  have A_ad1_2 : own_arr Z h2 ad1 (3 : Int32) own_zero := own_arr_ext A_ad1_1 E2
  have A_ad2_2 : own_arr Z h2 ad2 (3 : Int32) own_zero := own_arr_new A2 (by decide)
  have K2 : Keep h0 h2 [] := K1.ext E2
  have Zs2 : n0 ≤ h2.size := Nat.le_trans Zs1 E2.1
  obtain ⟨T3, h3, k3, X3, e3, E3, A3, st3⟩ := newP X2 hx hZ (own_w hw 2 rfl) e2 (g := (mkF m 26 #[.val (.int p1), .val (.int p2), .val (.int p3), .val (.int ss), .val (.int (1 : Int32)), .val (.ref ad1), .val (.ref ad2), .unset, .unset, .unset] [(.int (3 : Int32))])) rfl (hb hby at_26) rfl (by decide) (cap := 3) (by decide) (by decide) (by decide) (by decide)
  obtain ⟨ad3, g3⟩ : ∃ z, z = h2.size := ⟨_, rfl⟩
  rw [← g3] at A3 st3
  have lt_ad1_ad3 : ad1 < ad3 := Nat.lt_of_lt_of_eq (own_arr_lt A_ad1_2) g3.symm
  have lt_ad2_ad3 : ad2 < ad3 := Nat.lt_of_lt_of_eq (own_arr_lt A_ad2_2) g3.symm
  have gn_ad3 : n0 ≤ ad3 := Nat.le_trans Zs2 (Nat.le_of_eq g3.symm)
  have sz_ad3 : h0.size ≤ ad3 := Nat.le_trans K2.1 (Nat.le_of_eq g3.symm)
  have A_ad1_3 : own_arr Z h3 ad1 (3 : Int32) own_zero := own_arr_ext A_ad1_2 E3
  have A_ad2_3 : own_arr Z h3 ad2 (3 : Int32) own_zero := own_arr_ext A_ad2_2 E3
  have A_ad3_3 : own_arz Z h3 ad3 (3 : Int32) own_zero := own_arr_newz A3 (by decide)
  have K3 : Keep h0 h3 [] := K2.ext E3
  have Zs3 : n0 ≤ h3.size := Nat.le_trans Zs2 E3.1
  obtain ⟨u0, hu0⟩ : ∃ z : Int32, z = (p1 &&& (1 : Int32)) := ⟨_, rfl⟩
  have c_u0 : u0 = (0 : Int32) ∨ u0 = (1 : Int32) := by rw [hu0]; exact own_bit _
  obtain ⟨T4, h4, X4, e4, W4, st4⟩ := own_st X3 hx hZ e3 A_ad1_3 (by decide) (by decide) (g := (mkF m 36 #[.val (.int p1), .val (.int p2), .val (.int p3), .val (.int ss), .val (.int (1 : Int32)), .val (.ref ad1), .val (.ref ad2), .val (.ref ad3), .unset, .unset] [(.int u0), (.int (0 : Int32)), (.ref ad1)])) rfl rfl (hb hby at_36)
  have A_ad1_4 : own_arr Z h4 ad1 (3 : Int32) (own_upd own_zero (0 : Int32) u0) := own_arr_same A_ad1_3 W4 (by decide) (by decide)
  have A_ad2_4 : own_arr Z h4 ad2 (3 : Int32) own_zero := own_arr_other A_ad2_3 W4 (Nat.ne_of_gt lt_ad1_ad2)
  have A_ad3_4 : own_arz Z h4 ad3 (3 : Int32) own_zero := own_arz_other A_ad3_3 W4 (Nat.ne_of_gt lt_ad1_ad3)
  have K4 : Keep h0 h4 [] := K3.wr W4 (Or.inr sz_ad1)
  have N4 := Fr.snoc X4 N0 gn_ad1
  have Zs4 : n0 ≤ h4.size := by rw [W4.size]; exact Zs3
  obtain ⟨u1, hu1⟩ : ∃ z : Int32, z = (((p1.toUInt32 >>> ((1 : Int32) &&& 31).toUInt32).toInt32) &&& (1 : Int32)) := ⟨_, rfl⟩
  have c_u1 : u1 = (0 : Int32) ∨ u1 = (1 : Int32) := by rw [hu1]; exact own_bit _
  obtain ⟨T5, h5, X5, e5, W5, st5⟩ := own_st X4 hx hZ e4 A_ad1_4 (by decide) (by decide) (g := (mkF m 45 #[.val (.int p1), .val (.int p2), .val (.int p3), .val (.int ss), .val (.int (1 : Int32)), .val (.ref ad1), .val (.ref ad2), .val (.ref ad3), .unset, .unset] [(.int u1), (.int (1 : Int32)), (.ref ad1)])) rfl rfl (hb hby at_45)
  have A_ad1_5 : own_arr Z h5 ad1 (3 : Int32) (own_upd (own_upd own_zero (0 : Int32) u0) (1 : Int32) u1) := own_arr_same A_ad1_4 W5 (by decide) (by decide)
  have A_ad2_5 : own_arr Z h5 ad2 (3 : Int32) own_zero := own_arr_other A_ad2_4 W5 (Nat.ne_of_gt lt_ad1_ad2)
  have A_ad3_5 : own_arz Z h5 ad3 (3 : Int32) own_zero := own_arz_other A_ad3_4 W5 (Nat.ne_of_gt lt_ad1_ad3)
  have K5 : Keep h0 h5 [] := K4.wr W5 (Or.inr sz_ad1)
  have N5 := Fr.snoc X5 N4 gn_ad1
  have Zs5 : n0 ≤ h5.size := by rw [W5.size]; exact Zs4
  obtain ⟨u2, hu2⟩ : ∃ z : Int32, z = (((p1.toUInt32 >>> ((2 : Int32) &&& 31).toUInt32).toInt32) &&& (1 : Int32)) := ⟨_, rfl⟩
  have c_u2 : u2 = (0 : Int32) ∨ u2 = (1 : Int32) := by rw [hu2]; exact own_bit _
  obtain ⟨T6, h6, X6, e6, W6, st6⟩ := own_st X5 hx hZ e5 A_ad1_5 (by decide) (by decide) (g := (mkF m 54 #[.val (.int p1), .val (.int p2), .val (.int p3), .val (.int ss), .val (.int (1 : Int32)), .val (.ref ad1), .val (.ref ad2), .val (.ref ad3), .unset, .unset] [(.int u2), (.int (2 : Int32)), (.ref ad1)])) rfl rfl (hb hby at_54)
  have A_ad1_6 : own_arr Z h6 ad1 (3 : Int32) (own_upd (own_upd (own_upd own_zero (0 : Int32) u0) (1 : Int32) u1) (2 : Int32) u2) := own_arr_same A_ad1_5 W6 (by decide) (by decide)
  have A_ad2_6 : own_arr Z h6 ad2 (3 : Int32) own_zero := own_arr_other A_ad2_5 W6 (Nat.ne_of_gt lt_ad1_ad2)
  have A_ad3_6 : own_arz Z h6 ad3 (3 : Int32) own_zero := own_arz_other A_ad3_5 W6 (Nat.ne_of_gt lt_ad1_ad3)
  have K6 : Keep h0 h6 [] := K5.wr W6 (Or.inr sz_ad1)
  have N6 := Fr.snoc X6 N5 gn_ad1
  have Zs6 : n0 ≤ h6.size := by rw [W6.size]; exact Zs5
  obtain ⟨T7, h7, X7, e7, W7, st7⟩ := own_st X6 hx hZ e6 A_ad2_6 (by decide) (by decide) (g := (mkF m 59 #[.val (.int p1), .val (.int p2), .val (.int p3), .val (.int ss), .val (.int (1 : Int32)), .val (.ref ad1), .val (.ref ad2), .val (.ref ad3), .unset, .unset] [(.int ss), (.int (0 : Int32)), (.ref ad2)])) rfl rfl (hb hby at_59)
  have A_ad1_7 : own_arr Z h7 ad1 (3 : Int32) (own_upd (own_upd (own_upd own_zero (0 : Int32) u0) (1 : Int32) u1) (2 : Int32) u2) := own_arr_other A_ad1_6 W7 (Nat.ne_of_lt lt_ad1_ad2)
  have A_ad2_7 : own_arr Z h7 ad2 (3 : Int32) (own_upd own_zero (0 : Int32) ss) := own_arr_same A_ad2_6 W7 (by decide) (by decide)
  have A_ad3_7 : own_arz Z h7 ad3 (3 : Int32) own_zero := own_arz_other A_ad3_6 W7 (Nat.ne_of_gt lt_ad2_ad3)
  have K7 : Keep h0 h7 [] := K6.wr W7 (Or.inr sz_ad2)
  have N7 := Fr.snoc X7 N6 gn_ad2
  have Zs7 : n0 ≤ h7.size := by rw [W7.size]; exact Zs6
  obtain ⟨v1, hv1⟩ : ∃ z : Int32, z = (((1 : Int32) + ss) % (3 : Int32)) := ⟨_, rfl⟩
  obtain ⟨T8, h8, X8, e8, W8, st8⟩ := own_st X7 hx hZ e7 A_ad2_7 (by decide) (by decide) (g := (mkF m 68 #[.val (.int p1), .val (.int p2), .val (.int p3), .val (.int ss), .val (.int (1 : Int32)), .val (.ref ad1), .val (.ref ad2), .val (.ref ad3), .unset, .unset] [(.int v1), (.int (1 : Int32)), (.ref ad2)])) rfl rfl (hb hby at_68)
  have A_ad1_8 : own_arr Z h8 ad1 (3 : Int32) (own_upd (own_upd (own_upd own_zero (0 : Int32) u0) (1 : Int32) u1) (2 : Int32) u2) := own_arr_other A_ad1_7 W8 (Nat.ne_of_lt lt_ad1_ad2)
  have A_ad2_8 : own_arr Z h8 ad2 (3 : Int32) (own_upd (own_upd own_zero (0 : Int32) ss) (1 : Int32) v1) := own_arr_same A_ad2_7 W8 (by decide) (by decide)
  have A_ad3_8 : own_arz Z h8 ad3 (3 : Int32) own_zero := own_arz_other A_ad3_7 W8 (Nat.ne_of_gt lt_ad2_ad3)
  have K8 : Keep h0 h8 [] := K7.wr W8 (Or.inr sz_ad2)
  have N8 := Fr.snoc X8 N7 gn_ad2
  have Zs8 : n0 ≤ h8.size := by rw [W8.size]; exact Zs7
  obtain ⟨v2, hv2⟩ : ∃ z : Int32, z = (((2 : Int32) + ss) % (3 : Int32)) := ⟨_, rfl⟩
  obtain ⟨T9, h9, X9, e9, W9, st9⟩ := own_st X8 hx hZ e8 A_ad2_8 (by decide) (by decide) (g := (mkF m 77 #[.val (.int p1), .val (.int p2), .val (.int p3), .val (.int ss), .val (.int (1 : Int32)), .val (.ref ad1), .val (.ref ad2), .val (.ref ad3), .unset, .unset] [(.int v2), (.int (2 : Int32)), (.ref ad2)])) rfl rfl (hb hby at_77)
  have A_ad1_9 : own_arr Z h9 ad1 (3 : Int32) (own_upd (own_upd (own_upd own_zero (0 : Int32) u0) (1 : Int32) u1) (2 : Int32) u2) := own_arr_other A_ad1_8 W9 (Nat.ne_of_lt lt_ad1_ad2)
  have A_ad2_9 : own_arr Z h9 ad2 (3 : Int32) (own_upd (own_upd (own_upd own_zero (0 : Int32) ss) (1 : Int32) v1) (2 : Int32) v2) := own_arr_same A_ad2_8 W9 (by decide) (by decide)
  have A_ad3_9 : own_arz Z h9 ad3 (3 : Int32) own_zero := own_arz_other A_ad3_8 W9 (Nat.ne_of_gt lt_ad2_ad3)
  have K9 : Keep h0 h9 [] := K8.wr W9 (Or.inr sz_ad2)
  have N9 := Fr.snoc X9 N8 gn_ad2
  have Zs9 : n0 ≤ h9.size := by rw [W9.size]; exact Zs8
  obtain ⟨T10, h10, X10, e10, W10, st10⟩ := own_stz X9 hx hZ e9 A_ad3_9 (by decide) (by decide) (by decide) (g := (mkF m 91 #[.val (.int p1), .val (.int p2), .val (.int p3), .val (.int ss), .val (.int (1 : Int32)), .val (.ref ad1), .val (.ref ad2), .val (.ref ad3), .unset, .unset] [(.int (1 : Int32)), (.int (0 : Int32)), (.ref ad3)])) rfl rfl (hb hby at_91)
  have A_ad1_10 : own_arr Z h10 ad1 (3 : Int32) (own_upd (own_upd (own_upd own_zero (0 : Int32) u0) (1 : Int32) u1) (2 : Int32) u2) := own_arr_other A_ad1_9 W10 (Nat.ne_of_lt lt_ad1_ad3)
  have A_ad2_10 : own_arr Z h10 ad2 (3 : Int32) (own_upd (own_upd (own_upd own_zero (0 : Int32) ss) (1 : Int32) v1) (2 : Int32) v2) := own_arr_other A_ad2_9 W10 (Nat.ne_of_lt lt_ad2_ad3)
  have A_ad3_10 : own_arz Z h10 ad3 (3 : Int32) (own_upd own_zero (0 : Int32) (1 : Int32)) := own_arz_same A_ad3_9 W10 (by decide) (by decide)
  have K10 : Keep h0 h10 [] := K9.wr W10 (Or.inr sz_ad3)
  have N10 := Fr.snoc X10 N9 gn_ad3
  have Zs10 : n0 ≤ h10.size := by rw [W10.size]; exact Zs9
  obtain ⟨T11, h11, X11, e11, W11, st11⟩ := own_stz X10 hx hZ e10 A_ad3_10 (by decide) (by decide) (by decide) (g := (mkF m 106 #[.val (.int p1), .val (.int p2), .val (.int p3), .val (.int ss), .val (.int (1 : Int32)), .val (.ref ad1), .val (.ref ad2), .val (.ref ad3), .unset, .unset] [(.int (0 : Int32)), (.int (1 : Int32)), (.ref ad3)])) rfl rfl (hb hby at_106)
  have A_ad1_11 : own_arr Z h11 ad1 (3 : Int32) (own_upd (own_upd (own_upd own_zero (0 : Int32) u0) (1 : Int32) u1) (2 : Int32) u2) := own_arr_other A_ad1_10 W11 (Nat.ne_of_lt lt_ad1_ad3)
  have A_ad2_11 : own_arr Z h11 ad2 (3 : Int32) (own_upd (own_upd (own_upd own_zero (0 : Int32) ss) (1 : Int32) v1) (2 : Int32) v2) := own_arr_other A_ad2_10 W11 (Nat.ne_of_lt lt_ad2_ad3)
  have A_ad3_11 : own_arz Z h11 ad3 (3 : Int32) (own_upd (own_upd own_zero (0 : Int32) (1 : Int32)) (1 : Int32) (0 : Int32)) := own_arz_same A_ad3_10 W11 (by decide) (by decide)
  have K11 : Keep h0 h11 [] := K10.wr W11 (Or.inr sz_ad3)
  have N11 := Fr.snoc X11 N10 gn_ad3
  have Zs11 : n0 ≤ h11.size := by rw [W11.size]; exact Zs10
  obtain ⟨T12, h12, X12, e12, W12, st12⟩ := own_stz X11 hx hZ e11 A_ad3_11 (by decide) (by decide) (by decide) (g := (mkF m 121 #[.val (.int p1), .val (.int p2), .val (.int p3), .val (.int ss), .val (.int (1 : Int32)), .val (.ref ad1), .val (.ref ad2), .val (.ref ad3), .unset, .unset] [(.int (1 : Int32)), (.int (2 : Int32)), (.ref ad3)])) rfl rfl (hb hby at_121)
  have A_ad1_12 : own_arr Z h12 ad1 (3 : Int32) (own_upd (own_upd (own_upd own_zero (0 : Int32) u0) (1 : Int32) u1) (2 : Int32) u2) := own_arr_other A_ad1_11 W12 (Nat.ne_of_lt lt_ad1_ad3)
  have A_ad2_12 : own_arr Z h12 ad2 (3 : Int32) (own_upd (own_upd (own_upd own_zero (0 : Int32) ss) (1 : Int32) v1) (2 : Int32) v2) := own_arr_other A_ad2_11 W12 (Nat.ne_of_lt lt_ad2_ad3)
  have A_ad3_12 : own_arz Z h12 ad3 (3 : Int32) (own_upd (own_upd (own_upd own_zero (0 : Int32) (1 : Int32)) (1 : Int32) (0 : Int32)) (2 : Int32) (1 : Int32)) := own_arz_same A_ad3_11 W12 (by decide) (by decide)
  have K12 : Keep h0 h12 [] := K11.wr W12 (Or.inr sz_ad3)
  have N12 := Fr.snoc X12 N11 gn_ad3
  have Zs12 : n0 ≤ h12.size := by rw [W12.size]; exact Zs11
  obtain ⟨T13, h13, X13, e13, E13, A13, D13, -, st13⟩ := newO X12 hx hZ hown (own_w hw 3 rfl) (own_w hw 4 rfl) (own_w hw 5 rfl) e12 (g := (mkF m 122 #[.val (.int p1), .val (.int p2), .val (.int p3), .val (.int ss), .val (.int (1 : Int32)), .val (.ref ad1), .val (.ref ad2), .val (.ref ad3), .unset, .unset] [])) rfl (hb hby at_122) (by decide) (by decide)
  obtain ⟨ad13, g13⟩ : ∃ z, z = h12.size := ⟨_, rfl⟩
  rw [← g13] at A13 D13 st13
  have lt_ad1_ad13 : ad1 < ad13 := Nat.lt_of_lt_of_eq (own_arr_lt A_ad1_12) g13.symm
  have lt_ad2_ad13 : ad2 < ad13 := Nat.lt_of_lt_of_eq (own_arr_lt A_ad2_12) g13.symm
  have lt_ad3_ad13 : ad3 < ad13 := Nat.lt_of_lt_of_eq (own_arz_lt A_ad3_12) g13.symm
  have gn_ad13 : n0 ≤ ad13 := Nat.le_trans Zs12 (Nat.le_of_eq g13.symm)
  have sz_ad13 : h0.size ≤ ad13 := Nat.le_trans K12.1 (Nat.le_of_eq g13.symm)
  have A_ad1_13 : own_arr Z h13 ad1 (3 : Int32) (own_upd (own_upd (own_upd own_zero (0 : Int32) u0) (1 : Int32) u1) (2 : Int32) u2) := own_arr_ext A_ad1_12 E13
  have A_ad2_13 : own_arr Z h13 ad2 (3 : Int32) (own_upd (own_upd (own_upd own_zero (0 : Int32) ss) (1 : Int32) v1) (2 : Int32) v2) := own_arr_ext A_ad2_12 E13
  have A_ad3_13 : own_arz Z h13 ad3 (3 : Int32) (own_upd (own_upd (own_upd own_zero (0 : Int32) (1 : Int32)) (1 : Int32) (0 : Int32)) (2 : Int32) (1 : Int32)) := own_arz_ext A_ad3_12 E13
  have E_ad13_13 : Exa Z h13 ad13 "com/example/process_stepper/processstepper/equivalence/IntLists" := A13
  have F_heads_ad13_13 : Fld Z h13 ad13 "com/example/process_stepper/processstepper/equivalence/IntLists" "heads" "[I" .null := D13 (Or.inl (own_w hw 13 rfl)) (ty := (.array .int)) (by decide)
  have F_sizes_ad13_13 : Fld Z h13 ad13 "com/example/process_stepper/processstepper/equivalence/IntLists" "sizes" "[I" .null := D13 (Or.inl (own_w hw 19 rfl)) (ty := (.array .int)) (by decide)
  have F_next_ad13_13 : Fld Z h13 ad13 "com/example/process_stepper/processstepper/equivalence/IntLists" "next" "[I" .null := D13 (Or.inl (own_w hw 21 rfl)) (ty := (.array .int)) (by decide)
  have F_previous_ad13_13 : Fld Z h13 ad13 "com/example/process_stepper/processstepper/equivalence/IntLists" "previous" "[I" .null := D13 (Or.inl (own_w hw 23 rfl)) (ty := (.array .int)) (by decide)
  have K13 : Keep h0 h13 [] := K12.ext E13
  have Zs13 : n0 ≤ h13.size := Nat.le_trans Zs12 E13.1
  obtain ⟨_, _, ⟨T14, L14, k14, n14⟩, -, X14, ⟨Lc14, hQ14, l14, y14, z14⟩, st14⟩ := X13.specialBack hx (y := own_m2) rfl hown (mvT hZ (own_w hw 6 rfl)) (mvT hZ (own_w hw 7 rfl)) (mvT hZ (own_w hw 8 rfl)) (by decide) (backOf (W := 1) (rm1 l Z a0 hw [] ad13 h13 n0 Zs13 E_ad13_13 F_heads_ad13_13 F_sizes_ad13_13 F_next_ad13_13 F_previous_ad13_13 gn_ad13) hZ (own_w hw 8 rfl) (own_w hw 5 rfl) (by decide) (by decide)) (g := (mkF m 128 #[.val (.int p1), .val (.int p2), .val (.int p3), .val (.int ss), .val (.int (1 : Int32)), .val (.ref ad1), .val (.ref ad2), .val (.ref ad3), .unset, .unset] [(.int (3 : Int32)), (.int (2 : Int32)), (.ref ad13), (.ref ad13)])) rfl (by rw [hml]; rfl) (Steps.refl _) (a := ad13) (argsL := [(.int (2 : Int32)), (.int (3 : Int32))]) (rest := [(.ref ad13)]) (lenOf pd__II_V rfl) rfl (by show 2 * 0 + _ ≤ _; exact Nat.le_of_eq rfl) (hb hby at_128) (fun _ _ => ⟨rfl, e13, (by decide : 4 + 4 ≤ _), (by decide : 13 + 10 ≤ _)⟩)
  dsimp only [Pt.U, Pt.locs, Pt.cells, Pt.slots] at X14 l14 y14 z14 st14 hQ14
  rw [l14, y14, z14] at X14
  obtain ⟨rfl, N14q, b1, b2, b3, b4, K14q, z14q, V14⟩ := hQ14
  have N14 := Fr.app N12 N14q
  have lb_ad1 : ad1 < b1 := Nat.lt_of_lt_of_le (own_arr_lt A_ad1_13) z14q
  have lb_ad2 : ad2 < b1 := Nat.lt_of_lt_of_le (own_arr_lt A_ad2_13) z14q
  have lb_ad3 : ad3 < b1 := Nat.lt_of_lt_of_le (own_arz_lt A_ad3_13) z14q
  have A_ad1_14 : own_arr Z T14.heap ad1 (3 : Int32) (own_upd (own_upd (own_upd own_zero (0 : Int32) u0) (1 : Int32) u1) (2 : Int32) u2) := own_arr_keep A_ad1_13 K14q (ninS (Nat.ne_of_lt lt_ad1_ad13) nin0)
  have A_ad2_14 : own_arr Z T14.heap ad2 (3 : Int32) (own_upd (own_upd (own_upd own_zero (0 : Int32) ss) (1 : Int32) v1) (2 : Int32) v2) := own_arr_keep A_ad2_13 K14q (ninS (Nat.ne_of_lt lt_ad2_ad13) nin0)
  have A_ad3_14 : own_arz Z T14.heap ad3 (3 : Int32) (own_upd (own_upd (own_upd own_zero (0 : Int32) (1 : Int32)) (1 : Int32) (0 : Int32)) (2 : Int32) (1 : Int32)) := own_arz_keep A_ad3_13 K14q (ninS (Nat.ne_of_lt lt_ad3_ad13) nin0)
  have Zs14 : n0 ≤ T14.heap.size := Nat.le_trans Zs13 K14q.1
  obtain ⟨cq15, kq15, q15a, q15b, q15c⟩ := isOf hZ rfl (V14.1)
  obtain ⟨_, _, ⟨T15, L15, k15, n15⟩, -, X15, ⟨Lc15, hQ15, l15, y15, z15⟩, st15⟩ := X14.virtualBack hx (y := own_m3) (z := own_m3) hown (mvT hZ (own_w hw 24 rfl)) (mvT hZ (own_w hw 25 rfl)) (notFace_of_selects (args := #[]) (mvT hZ (own_w hw 27 rfl))) (mvT hZ (own_w hw 27 rfl)) (mvT hZ (own_w hw 26 rfl)) (by decide) (backOf (W := 0) (rm4 l Z a0 hw [] ad13 u0 ss b1 b2 b3 b4 own_H0 own_zero own_zero own_zero T14.heap n0 Zs14 V14 (own_k0 u0 u1 u2 ss v1 v2 c_u0 c_u1 c_u2 c_s hv1 hv2) (own_k1 u0 u1 u2 ss v1 v2 c_u0 c_u1 c_u2 c_s hv1 hv2) (own_k2 u0 u1 u2 ss v1 v2 c_u0 c_u1 c_u2 c_s hv1 hv2) (own_k3 u0 u1 u2 ss v1 v2 c_u0 c_u1 c_u2 c_s hv1 hv2) (own_k4 u0 u1 u2 ss v1 v2 c_u0 c_u1 c_u2 c_s hv1 hv2)) hZ (own_w hw 28 rfl) (own_w hw 5 rfl) (by decide) (by decide)) q15a q15c (g := (mkF m 143 #[.val (.int p1), .val (.int p2), .val (.int p3), .val (.int ss), .val (.int (1 : Int32)), .val (.ref ad1), .val (.ref ad2), .val (.ref ad3), .val (.ref ad13), .unset] [(.int ss), (.int u0), (.ref ad13)])) rfl (by rw [hml]; rfl) (Steps.refl _) (argsL := [(.int u0), (.int ss)]) (rest := []) (lenOf pd__II_V rfl) rfl (by show 2 * 0 + _ ≤ _; exact Nat.le_of_eq rfl) (hb hby at_143) (fun _ _ => ⟨rfl, rfl, (by decide : 8 + 0 ≤ _), (by decide : 23 + 0 ≤ _)⟩)
  dsimp only [Pt.U, Pt.locs, Pt.cells, Pt.slots] at X15 l15 y15 z15 st15 hQ15
  rw [l15, y15, z15] at X15
  obtain ⟨rfl, N15q, K15q, V15q⟩ := hQ15
  have N15 := Fr.app N14 N15q
  have A_ad1_15 : own_arr Z T15.heap ad1 (3 : Int32) (own_upd (own_upd (own_upd own_zero (0 : Int32) u0) (1 : Int32) u1) (2 : Int32) u2) := own_arr_keep A_ad1_14 K15q (own_nin4 lb_ad1 V14.2.2.2.1)
  have A_ad2_15 : own_arr Z T15.heap ad2 (3 : Int32) (own_upd (own_upd (own_upd own_zero (0 : Int32) ss) (1 : Int32) v1) (2 : Int32) v2) := own_arr_keep A_ad2_14 K15q (own_nin4 lb_ad2 V14.2.2.2.1)
  have A_ad3_15 : own_arz Z T15.heap ad3 (3 : Int32) (own_upd (own_upd (own_upd own_zero (0 : Int32) (1 : Int32)) (1 : Int32) (0 : Int32)) (2 : Int32) (1 : Int32)) := own_arz_keep A_ad3_14 K15q (own_nin4 lb_ad3 V14.2.2.2.1)
  have V15 : own_L Z n0 T15.heap ad13 b1 b2 b3 b4 (own_f0 u0 u1 u2 ss v1 v2) (own_f1 u0 u1 u2 ss v1 v2) (own_f2 u0 u1 u2 ss v1 v2) (own_f3 u0 u1 u2 ss v1 v2) := V15q
  have Zs15 : n0 ≤ T15.heap.size := Nat.le_trans Zs14 K15q.1
  obtain ⟨cq16, kq16, q16a, q16b, q16c⟩ := isOf hZ rfl (V15.1)
  obtain ⟨_, _, ⟨T16, L16, k16, n16⟩, -, X16, ⟨Lc16, hQ16, l16, y16, z16⟩, st16⟩ := X15.virtualBack hx (y := own_m3) (z := own_m3) hown (mvT hZ (own_w hw 24 rfl)) (mvT hZ (own_w hw 25 rfl)) (notFace_of_selects (args := #[]) (mvT hZ (own_w hw 27 rfl))) (mvT hZ (own_w hw 27 rfl)) (mvT hZ (own_w hw 26 rfl)) (by decide) (backOf (W := 0) (rm4 l Z a0 hw [] ad13 u1 v1 b1 b2 b3 b4 (own_f0 u0 u1 u2 ss v1 v2) (own_f1 u0 u1 u2 ss v1 v2) (own_f2 u0 u1 u2 ss v1 v2) (own_f3 u0 u1 u2 ss v1 v2) T15.heap n0 Zs15 V15 (own_k5 u0 u1 u2 ss v1 v2 c_u0 c_u1 c_u2 c_s hv1 hv2) (own_k6 u0 u1 u2 ss v1 v2 c_u0 c_u1 c_u2 c_s hv1 hv2) (own_k7 u0 u1 u2 ss v1 v2 c_u0 c_u1 c_u2 c_s hv1 hv2) (own_k8 u0 u1 u2 ss v1 v2 c_u0 c_u1 c_u2 c_s hv1 hv2) (own_k9 u0 u1 u2 ss v1 v2 c_u0 c_u1 c_u2 c_s hv1 hv2)) hZ (own_w hw 28 rfl) (own_w hw 5 rfl) (by decide) (by decide)) q16a q16c (g := (mkF m 156 #[.val (.int p1), .val (.int p2), .val (.int p3), .val (.int ss), .val (.int (1 : Int32)), .val (.ref ad1), .val (.ref ad2), .val (.ref ad3), .val (.ref ad13), .unset] [(.int v1), (.int u1), (.ref ad13)])) rfl (by rw [hml]; rfl) (Steps.refl _) (argsL := [(.int u1), (.int v1)]) (rest := []) (lenOf pd__II_V rfl) rfl (by show 2 * 0 + _ ≤ _; exact Nat.le_of_eq rfl) (hb hby at_156) (fun _ _ => ⟨rfl, rfl, (by decide : 8 + 0 ≤ _), (by decide : 23 + 0 ≤ _)⟩)
  dsimp only [Pt.U, Pt.locs, Pt.cells, Pt.slots] at X16 l16 y16 z16 st16 hQ16
  rw [l16, y16, z16] at X16
  obtain ⟨rfl, N16q, K16q, V16q⟩ := hQ16
  have N16 := Fr.app N15 N16q
  have A_ad1_16 : own_arr Z T16.heap ad1 (3 : Int32) (own_upd (own_upd (own_upd own_zero (0 : Int32) u0) (1 : Int32) u1) (2 : Int32) u2) := own_arr_keep A_ad1_15 K16q (own_nin4 lb_ad1 V15.2.2.2.1)
  have A_ad2_16 : own_arr Z T16.heap ad2 (3 : Int32) (own_upd (own_upd (own_upd own_zero (0 : Int32) ss) (1 : Int32) v1) (2 : Int32) v2) := own_arr_keep A_ad2_15 K16q (own_nin4 lb_ad2 V15.2.2.2.1)
  have A_ad3_16 : own_arz Z T16.heap ad3 (3 : Int32) (own_upd (own_upd (own_upd own_zero (0 : Int32) (1 : Int32)) (1 : Int32) (0 : Int32)) (2 : Int32) (1 : Int32)) := own_arz_keep A_ad3_15 K16q (own_nin4 lb_ad3 V15.2.2.2.1)
  have V16 : own_L Z n0 T16.heap ad13 b1 b2 b3 b4 (own_f4 u0 u1 u2 ss v1 v2) (own_f5 u0 u1 u2 ss v1 v2) (own_f6 u0 u1 u2 ss v1 v2) (own_f7 u0 u1 u2 ss v1 v2) := V16q
  have Zs16 : n0 ≤ T16.heap.size := Nat.le_trans Zs15 K16q.1
  obtain ⟨cq17, kq17, q17a, q17b, q17c⟩ := isOf hZ rfl (V16.1)
  obtain ⟨_, _, ⟨T17, L17, k17, n17⟩, -, X17, ⟨Lc17, hQ17, l17, y17, z17⟩, st17⟩ := X16.virtualBack hx (y := own_m3) (z := own_m3) hown (mvT hZ (own_w hw 24 rfl)) (mvT hZ (own_w hw 25 rfl)) (notFace_of_selects (args := #[]) (mvT hZ (own_w hw 27 rfl))) (mvT hZ (own_w hw 27 rfl)) (mvT hZ (own_w hw 26 rfl)) (by decide) (backOf (W := 0) (rm4 l Z a0 hw [] ad13 u2 v2 b1 b2 b3 b4 (own_f4 u0 u1 u2 ss v1 v2) (own_f5 u0 u1 u2 ss v1 v2) (own_f6 u0 u1 u2 ss v1 v2) (own_f7 u0 u1 u2 ss v1 v2) T16.heap n0 Zs16 V16 (own_k10 u0 u1 u2 ss v1 v2 c_u0 c_u1 c_u2 c_s hv1 hv2) (own_k11 u0 u1 u2 ss v1 v2 c_u0 c_u1 c_u2 c_s hv1 hv2) (own_k12 u0 u1 u2 ss v1 v2 c_u0 c_u1 c_u2 c_s hv1 hv2) (own_k13 u0 u1 u2 ss v1 v2 c_u0 c_u1 c_u2 c_s hv1 hv2) (own_k14 u0 u1 u2 ss v1 v2 c_u0 c_u1 c_u2 c_s hv1 hv2)) hZ (own_w hw 28 rfl) (own_w hw 5 rfl) (by decide) (by decide)) q17a q17c (g := (mkF m 169 #[.val (.int p1), .val (.int p2), .val (.int p3), .val (.int ss), .val (.int (1 : Int32)), .val (.ref ad1), .val (.ref ad2), .val (.ref ad3), .val (.ref ad13), .unset] [(.int v2), (.int u2), (.ref ad13)])) rfl (by rw [hml]; rfl) (Steps.refl _) (argsL := [(.int u2), (.int v2)]) (rest := []) (lenOf pd__II_V rfl) rfl (by show 2 * 0 + _ ≤ _; exact Nat.le_of_eq rfl) (hb hby at_169) (fun _ _ => ⟨rfl, rfl, (by decide : 8 + 0 ≤ _), (by decide : 23 + 0 ≤ _)⟩)
  dsimp only [Pt.U, Pt.locs, Pt.cells, Pt.slots] at X17 l17 y17 z17 st17 hQ17
  rw [l17, y17, z17] at X17
  obtain ⟨rfl, N17q, K17q, V17q⟩ := hQ17
  have N17 := Fr.app N16 N17q
  have A_ad1_17 : own_arr Z T17.heap ad1 (3 : Int32) (own_upd (own_upd (own_upd own_zero (0 : Int32) u0) (1 : Int32) u1) (2 : Int32) u2) := own_arr_keep A_ad1_16 K17q (own_nin4 lb_ad1 V16.2.2.2.1)
  have A_ad2_17 : own_arr Z T17.heap ad2 (3 : Int32) (own_upd (own_upd (own_upd own_zero (0 : Int32) ss) (1 : Int32) v1) (2 : Int32) v2) := own_arr_keep A_ad2_16 K17q (own_nin4 lb_ad2 V16.2.2.2.1)
  have A_ad3_17 : own_arz Z T17.heap ad3 (3 : Int32) (own_upd (own_upd (own_upd own_zero (0 : Int32) (1 : Int32)) (1 : Int32) (0 : Int32)) (2 : Int32) (1 : Int32)) := own_arz_keep A_ad3_16 K17q (own_nin4 lb_ad3 V16.2.2.2.1)
  have V17 : own_L Z n0 T17.heap ad13 b1 b2 b3 b4 (own_f8 u0 u1 u2 ss v1 v2) (own_f9 u0 u1 u2 ss v1 v2) (own_f10 u0 u1 u2 ss v1 v2) (own_f11 u0 u1 u2 ss v1 v2) := V17q
  have Zs17 : n0 ≤ T17.heap.size := Nat.le_trans Zs16 K17q.1
  obtain ⟨cq18, kq18, q18a, q18b, q18c⟩ := isOf hZ rfl (V17.1)
  obtain ⟨_, _, ⟨T18, L18, k18, n18⟩, -, X18, ⟨Lc18, hQ18, l18, y18, z18⟩, st18⟩ := X17.virtualBack hx (y := own_m4) (z := own_m4) hown (mvT hZ (own_w hw 54 rfl)) (mvT hZ (own_w hw 55 rfl)) (notFace_of_selects (args := #[]) (mvT hZ (own_w hw 57 rfl))) (mvT hZ (own_w hw 57 rfl)) (mvT hZ (own_w hw 56 rfl)) (by decide) (backOf (W := 0) (rm5 l Z a0 hw [] ad13 u1 v1 b1 b2 b3 b4 (own_f8 u0 u1 u2 ss v1 v2) (own_f9 u0 u1 u2 ss v1 v2) (own_f10 u0 u1 u2 ss v1 v2) (own_f11 u0 u1 u2 ss v1 v2) T17.heap n0 Zs17 V17 (own_k5 u0 u1 u2 ss v1 v2 c_u0 c_u1 c_u2 c_s hv1 hv2) (own_k6 u0 u1 u2 ss v1 v2 c_u0 c_u1 c_u2 c_s hv1 hv2) (own_k7 u0 u1 u2 ss v1 v2 c_u0 c_u1 c_u2 c_s hv1 hv2) (own_k8 u0 u1 u2 ss v1 v2 c_u0 c_u1 c_u2 c_s hv1 hv2) (own_k23 u0 u1 u2 ss v1 v2 c_u0 c_u1 c_u2 c_s hv1 hv2) (own_k24 u0 u1 u2 ss v1 v2 c_u0 c_u1 c_u2 c_s hv1 hv2)) hZ (own_w hw 58 rfl) (own_w hw 5 rfl) (by decide) (by decide)) q18a q18c (g := (mkF m 190 #[.val (.int p1), .val (.int p2), .val (.int p3), .val (.int ss), .val (.int (1 : Int32)), .val (.ref ad1), .val (.ref ad2), .val (.ref ad3), .val (.ref ad13), .unset] [(.int v1), (.int u1), (.ref ad13)])) rfl (by rw [hml]; rfl) (Steps.refl _) (argsL := [(.int u1), (.int v1)]) (rest := []) (lenOf pd__II_V rfl) rfl (by show 2 * 0 + _ ≤ _; exact Nat.le_of_eq rfl) (hb hby at_190) (fun _ _ => ⟨rfl, rfl, (by decide : 8 + 0 ≤ _), (by decide : 23 + 0 ≤ _)⟩)
  dsimp only [Pt.U, Pt.locs, Pt.cells, Pt.slots] at X18 l18 y18 z18 st18 hQ18
  rw [l18, y18, z18] at X18
  obtain ⟨rfl, N18q, K18q, V18q⟩ := hQ18
  have N18 := Fr.app N17 N18q
  have A_ad1_18 : own_arr Z T18.heap ad1 (3 : Int32) (own_upd (own_upd (own_upd own_zero (0 : Int32) u0) (1 : Int32) u1) (2 : Int32) u2) := own_arr_keep A_ad1_17 K18q (own_nin4 lb_ad1 V17.2.2.2.1)
  have A_ad2_18 : own_arr Z T18.heap ad2 (3 : Int32) (own_upd (own_upd (own_upd own_zero (0 : Int32) ss) (1 : Int32) v1) (2 : Int32) v2) := own_arr_keep A_ad2_17 K18q (own_nin4 lb_ad2 V17.2.2.2.1)
  have A_ad3_18 : own_arz Z T18.heap ad3 (3 : Int32) (own_upd (own_upd (own_upd own_zero (0 : Int32) (1 : Int32)) (1 : Int32) (0 : Int32)) (2 : Int32) (1 : Int32)) := own_arz_keep A_ad3_17 K18q (own_nin4 lb_ad3 V17.2.2.2.1)
  have V18 : own_L Z n0 T18.heap ad13 b1 b2 b3 b4 (own_f16 u0 u1 u2 ss v1 v2) (own_f17 u0 u1 u2 ss v1 v2) (own_f18 u0 u1 u2 ss v1 v2) (own_f19 u0 u1 u2 ss v1 v2) := V18q
  have Zs18 : n0 ≤ T18.heap.size := Nat.le_trans Zs17 K18q.1
  obtain ⟨cq19, kq19, q19a, q19b, q19c⟩ := isOf hZ rfl (V18.1)
  obtain ⟨_, _, ⟨T19, L19, k19, n19⟩, -, X19, ⟨Lc19, hQ19, l19, y19, z19⟩, st19⟩ := X18.virtualBack hx (y := own_m5) (z := own_m5) hown (mvT hZ (own_w hw 29 rfl)) (mvT hZ (own_w hw 30 rfl)) (notFace_of_selects (args := #[]) (mvT hZ (own_w hw 32 rfl))) (mvT hZ (own_w hw 32 rfl)) (mvT hZ (own_w hw 31 rfl)) (by decide) (backOf (W := 0) (rm8 l Z a0 hw [] ad13 (0 : Int32) b1 b2 b3 b4 (own_f16 u0 u1 u2 ss v1 v2) (own_f17 u0 u1 u2 ss v1 v2) (own_f18 u0 u1 u2 ss v1 v2) (own_f19 u0 u1 u2 ss v1 v2) T18.heap n0 Zs18 V18 (by decide) (by decide)) hZ (own_w hw 33 rfl) (own_w hw 5 rfl) (by decide) (by decide)) q19a q19c (g := (mkF m 204 #[.val (.int p1), .val (.int p2), .val (.int p3), .val (.int ss), .val (.int (1 : Int32)), .val (.ref ad1), .val (.ref ad2), .val (.ref ad3), .val (.ref ad13), .val (.int (1 : Int32))] [(.int (0 : Int32)), (.ref ad13)])) rfl (by rw [hml]; rfl) (Steps.refl _) (argsL := [(.int (0 : Int32))]) (rest := []) (lenOf pd__I_I rfl) rfl (by show 2 * 0 + _ ≤ _; exact Nat.le_of_eq rfl) (hb hby at_204) (fun _ _ => ⟨rfl, rfl, (by decide : 8 + 0 ≤ _), (by decide : 23 + 0 ≤ _)⟩)
  dsimp only [Pt.U, Pt.locs, Pt.cells, Pt.slots] at X19 l19 y19 z19 st19 hQ19
  rw [l19, y19, z19] at X19
  obtain ⟨rfl, N19q, q19⟩ := hQ19
  have N19 := Fr.app N18 N19q
  have e19' : T19.heap = T18.heap := q19
  obtain ⟨_, _, ⟨T20, L20, k20, n20⟩, -, X20, ⟨Lc20, hQ20, l20, y20, z20⟩, st20⟩ := Jvm.LawKit.callS X19 hx (y := own_m6) hown (mvT hZ (own_w hw 34 rfl)) (mvT hZ (own_w hw 35 rfl)) (mvT hZ (own_w hw 36 rfl)) (mvT hZ (own_w hw 37 rfl)) (by decide) (backOf (W := 2) (rmL l Z a0 hw [] ad1 ad3 (0 : Int32) (3 : Int32) (own_upd (own_upd (own_upd own_zero (0 : Int32) u0) (1 : Int32) u1) (2 : Int32) u2) (own_upd (own_upd (own_upd own_zero (0 : Int32) (1 : Int32)) (1 : Int32) (0 : Int32)) (2 : Int32) (1 : Int32)) T18.heap n0 Zs18 A_ad1_18 A_ad3_18) hZ (own_w hw 37 rfl) (own_w hw 36 rfl) (by decide) (by decide)) (g := (mkF m 215 #[.val (.int p1), .val (.int p2), .val (.int p3), .val (.int ss), .val (.int (1 : Int32)), .val (.ref ad1), .val (.ref ad2), .val (.ref ad3), .val (.ref ad13), .val (.int (1 : Int32))] [(.int (3 : Int32)), (.int (0 : Int32)), (.ref ad3), (.ref ad1), (.ref ad2), (.int ((own_f16 u0 u1 u2 ss v1 v2) (0 : Int32)))])) rfl (by rw [hml]; rfl) (argsL := [(.ref ad1), (.ref ad3), (.int (0 : Int32)), (.int (3 : Int32))]) (rest := [(.ref ad2), (.int ((own_f16 u0 u1 u2 ss v1 v2) (0 : Int32)))]) (lenOf pd___I_ZII_I rfl) rfl (by show 2 * 0 + _ ≤ _; exact Nat.le_of_eq rfl) (hb hby at_215) (fun _ _ => ⟨rfl, e19', (by decide : 8 + 0 ≤ _), (by decide : 23 + 0 ≤ _)⟩)
  dsimp only [Pt.U, Pt.locs, Pt.cells, Pt.slots] at X20 l20 y20 z20 st20 hQ20
  rw [l20, y20, z20] at X20
  obtain ⟨rfl, N20q, q20⟩ := hQ20
  have N20 := Fr.app N19 N20q
  have e20' : T20.heap = T18.heap := q20
  obtain ⟨_, _, ⟨T21, L21, k21, n21⟩, -, X21, ⟨Lc21, hQ21, l21, y21, z21⟩, st21⟩ := Jvm.LawKit.callS X20 hx (y := own_m7) hown (mvT hZ (own_w hw 38 rfl)) (mvT hZ (own_w hw 39 rfl)) (mvT hZ (own_w hw 36 rfl)) (mvT hZ (own_w hw 40 rfl)) (by decide) (backOf (W := 1) (rmE l Z a0 hw [] ad2 (own_last (own_upd (own_upd (own_upd own_zero (0 : Int32) u0) (1 : Int32) u1) (2 : Int32) u2) (own_upd (own_upd (own_upd own_zero (0 : Int32) (1 : Int32)) (1 : Int32) (0 : Int32)) (2 : Int32) (1 : Int32)) (0 : Int32) (3 : Int32)) (own_upd (own_upd (own_upd own_zero (0 : Int32) ss) (1 : Int32) v1) (2 : Int32) v2) T18.heap n0 Zs18 A_ad2_18 (own_last_lt _ _ _ _)) hZ (own_w hw 40 rfl) (own_w hw 36 rfl) (by decide) (by decide)) (g := (mkF m 218 #[.val (.int p1), .val (.int p2), .val (.int p3), .val (.int ss), .val (.int (1 : Int32)), .val (.ref ad1), .val (.ref ad2), .val (.ref ad3), .val (.ref ad13), .val (.int (1 : Int32))] [(.int (own_last (own_upd (own_upd (own_upd own_zero (0 : Int32) u0) (1 : Int32) u1) (2 : Int32) u2) (own_upd (own_upd (own_upd own_zero (0 : Int32) (1 : Int32)) (1 : Int32) (0 : Int32)) (2 : Int32) (1 : Int32)) (0 : Int32) (3 : Int32))), (.ref ad2), (.int ((own_f16 u0 u1 u2 ss v1 v2) (0 : Int32)))])) rfl (by rw [hml]; rfl) (argsL := [(.ref ad2), (.int (own_last (own_upd (own_upd (own_upd own_zero (0 : Int32) u0) (1 : Int32) u1) (2 : Int32) u2) (own_upd (own_upd (own_upd own_zero (0 : Int32) (1 : Int32)) (1 : Int32) (0 : Int32)) (2 : Int32) (1 : Int32)) (0 : Int32) (3 : Int32)))]) (rest := [(.int ((own_f16 u0 u1 u2 ss v1 v2) (0 : Int32)))]) (lenOf pd___II_I rfl) rfl (by show 2 * 0 + _ ≤ _; exact Nat.le_of_eq rfl) (hb hby at_218) (fun _ _ => ⟨rfl, e20', (by decide : 8 + 0 ≤ _), (by decide : 23 + 0 ≤ _)⟩)
  dsimp only [Pt.U, Pt.locs, Pt.cells, Pt.slots] at X21 l21 y21 z21 st21 hQ21
  rw [l21, y21, z21] at X21
  obtain ⟨rfl, N21q, q21⟩ := hQ21
  have N21 := Fr.app N20 N21q
  have e21' : T21.heap = T18.heap := q21
  obtain ⟨cq22, kq22, q22a, q22b, q22c⟩ := isOf hZ e21' (V18.1)
  obtain ⟨_, _, ⟨T22, L22, k22, n22⟩, -, X22, ⟨Lc22, hQ22, l22, y22, z22⟩, st22⟩ := X21.virtualBack hx (y := own_m5) (z := own_m5) hown (mvT hZ (own_w hw 29 rfl)) (mvT hZ (own_w hw 30 rfl)) (notFace_of_selects (args := #[]) (mvT hZ (own_w hw 32 rfl))) (mvT hZ (own_w hw 32 rfl)) (mvT hZ (own_w hw 31 rfl)) (by decide) (backOf (W := 0) (rm8 l Z a0 hw [] ad13 (1 : Int32) b1 b2 b3 b4 (own_f16 u0 u1 u2 ss v1 v2) (own_f17 u0 u1 u2 ss v1 v2) (own_f18 u0 u1 u2 ss v1 v2) (own_f19 u0 u1 u2 ss v1 v2) T18.heap n0 Zs18 V18 (by decide) (by decide)) hZ (own_w hw 33 rfl) (own_w hw 5 rfl) (by decide) (by decide)) q22a q22c (g := (mkF m 239 #[.val (.int p1), .val (.int p2), .val (.int p3), .val (.int ss), .val (.int (1 : Int32)), .val (.ref ad1), .val (.ref ad2), .val (.ref ad3), .val (.ref ad13), .val (.int (1 : Int32))] [(.int (1 : Int32)), (.ref ad13)])) rfl (by rw [hml]; rfl) (Steps.refl _) (argsL := [(.int (1 : Int32))]) (rest := []) (lenOf pd__I_I rfl) rfl (by show 2 * 0 + _ ≤ _; exact Nat.le_of_eq rfl) (hb hby at_239) (fun _ _ => ⟨rfl, e21', (by decide : 8 + 0 ≤ _), (by decide : 23 + 0 ≤ _)⟩)
  dsimp only [Pt.U, Pt.locs, Pt.cells, Pt.slots] at X22 l22 y22 z22 st22 hQ22
  rw [l22, y22, z22] at X22
  obtain ⟨rfl, N22q, q22⟩ := hQ22
  have N22 := Fr.app N21 N22q
  have e22' : T22.heap = T18.heap := q22
  obtain ⟨_, _, ⟨T23, L23, k23, n23⟩, -, X23, ⟨Lc23, hQ23, l23, y23, z23⟩, st23⟩ := Jvm.LawKit.callS X22 hx (y := own_m6) hown (mvT hZ (own_w hw 34 rfl)) (mvT hZ (own_w hw 35 rfl)) (mvT hZ (own_w hw 36 rfl)) (mvT hZ (own_w hw 37 rfl)) (by decide) (backOf (W := 2) (rmL l Z a0 hw [] ad1 ad3 (1 : Int32) (3 : Int32) (own_upd (own_upd (own_upd own_zero (0 : Int32) u0) (1 : Int32) u1) (2 : Int32) u2) (own_upd (own_upd (own_upd own_zero (0 : Int32) (1 : Int32)) (1 : Int32) (0 : Int32)) (2 : Int32) (1 : Int32)) T18.heap n0 Zs18 A_ad1_18 A_ad3_18) hZ (own_w hw 37 rfl) (own_w hw 36 rfl) (by decide) (by decide)) (g := (mkF m 250 #[.val (.int p1), .val (.int p2), .val (.int p3), .val (.int ss), .val (.int (1 : Int32)), .val (.ref ad1), .val (.ref ad2), .val (.ref ad3), .val (.ref ad13), .val (.int (1 : Int32))] [(.int (3 : Int32)), (.int (1 : Int32)), (.ref ad3), (.ref ad1), (.ref ad2), (.int ((own_f16 u0 u1 u2 ss v1 v2) (1 : Int32)))])) rfl (by rw [hml]; rfl) (argsL := [(.ref ad1), (.ref ad3), (.int (1 : Int32)), (.int (3 : Int32))]) (rest := [(.ref ad2), (.int ((own_f16 u0 u1 u2 ss v1 v2) (1 : Int32)))]) (lenOf pd___I_ZII_I rfl) rfl (by show 2 * 0 + _ ≤ _; exact Nat.le_of_eq rfl) (hb hby at_250) (fun _ _ => ⟨rfl, e22', (by decide : 8 + 0 ≤ _), (by decide : 23 + 0 ≤ _)⟩)
  dsimp only [Pt.U, Pt.locs, Pt.cells, Pt.slots] at X23 l23 y23 z23 st23 hQ23
  rw [l23, y23, z23] at X23
  obtain ⟨rfl, N23q, q23⟩ := hQ23
  have N23 := Fr.app N22 N23q
  have e23' : T23.heap = T18.heap := q23
  obtain ⟨_, _, ⟨T24, L24, k24, n24⟩, -, X24, ⟨Lc24, hQ24, l24, y24, z24⟩, st24⟩ := Jvm.LawKit.callS X23 hx (y := own_m7) hown (mvT hZ (own_w hw 38 rfl)) (mvT hZ (own_w hw 39 rfl)) (mvT hZ (own_w hw 36 rfl)) (mvT hZ (own_w hw 40 rfl)) (by decide) (backOf (W := 1) (rmE l Z a0 hw [] ad2 (own_last (own_upd (own_upd (own_upd own_zero (0 : Int32) u0) (1 : Int32) u1) (2 : Int32) u2) (own_upd (own_upd (own_upd own_zero (0 : Int32) (1 : Int32)) (1 : Int32) (0 : Int32)) (2 : Int32) (1 : Int32)) (1 : Int32) (3 : Int32)) (own_upd (own_upd (own_upd own_zero (0 : Int32) ss) (1 : Int32) v1) (2 : Int32) v2) T18.heap n0 Zs18 A_ad2_18 (own_last_lt _ _ _ _)) hZ (own_w hw 40 rfl) (own_w hw 36 rfl) (by decide) (by decide)) (g := (mkF m 253 #[.val (.int p1), .val (.int p2), .val (.int p3), .val (.int ss), .val (.int (1 : Int32)), .val (.ref ad1), .val (.ref ad2), .val (.ref ad3), .val (.ref ad13), .val (.int (1 : Int32))] [(.int (own_last (own_upd (own_upd (own_upd own_zero (0 : Int32) u0) (1 : Int32) u1) (2 : Int32) u2) (own_upd (own_upd (own_upd own_zero (0 : Int32) (1 : Int32)) (1 : Int32) (0 : Int32)) (2 : Int32) (1 : Int32)) (1 : Int32) (3 : Int32))), (.ref ad2), (.int ((own_f16 u0 u1 u2 ss v1 v2) (1 : Int32)))])) rfl (by rw [hml]; rfl) (argsL := [(.ref ad2), (.int (own_last (own_upd (own_upd (own_upd own_zero (0 : Int32) u0) (1 : Int32) u1) (2 : Int32) u2) (own_upd (own_upd (own_upd own_zero (0 : Int32) (1 : Int32)) (1 : Int32) (0 : Int32)) (2 : Int32) (1 : Int32)) (1 : Int32) (3 : Int32)))]) (rest := [(.int ((own_f16 u0 u1 u2 ss v1 v2) (1 : Int32)))]) (lenOf pd___II_I rfl) rfl (by show 2 * 0 + _ ≤ _; exact Nat.le_of_eq rfl) (hb hby at_253) (fun _ _ => ⟨rfl, e23', (by decide : 8 + 0 ≤ _), (by decide : 23 + 0 ≤ _)⟩)
  dsimp only [Pt.U, Pt.locs, Pt.cells, Pt.slots] at X24 l24 y24 z24 st24 hQ24
  rw [l24, y24, z24] at X24
  obtain ⟨rfl, N24q, q24⟩ := hQ24
  have N24 := Fr.app N23 N24q
  have e24' : T24.heap = T18.heap := q24
  obtain ⟨cq25, kq25, q25a, q25b, q25c⟩ := isOf hZ e24' (V18.1)
  obtain ⟨_, _, ⟨T25, L25, k25, n25⟩, -, X25, ⟨Lc25, hQ25, l25, y25, z25⟩, st25⟩ := X24.virtualBack hx (y := own_m8) (z := own_m8) hown (mvT hZ (own_w hw 41 rfl)) (mvT hZ (own_w hw 42 rfl)) (notFace_of_selects (args := #[]) (mvT hZ (own_w hw 44 rfl))) (mvT hZ (own_w hw 44 rfl)) (mvT hZ (own_w hw 43 rfl)) (by decide) (backOf (W := 0) (rm7 l Z a0 hw [] ad13 (0 : Int32) b1 b2 b3 b4 (own_f16 u0 u1 u2 ss v1 v2) (own_f17 u0 u1 u2 ss v1 v2) (own_f18 u0 u1 u2 ss v1 v2) (own_f19 u0 u1 u2 ss v1 v2) T18.heap n0 Zs18 V18 (by decide) (by decide)) hZ (own_w hw 45 rfl) (own_w hw 5 rfl) (by decide) (by decide)) q25a q25c (g := (mkF m 274 #[.val (.int p1), .val (.int p2), .val (.int p3), .val (.int ss), .val (.int (1 : Int32)), .val (.ref ad1), .val (.ref ad2), .val (.ref ad3), .val (.ref ad13), .val (.int (1 : Int32))] [(.int (0 : Int32)), (.ref ad13)])) rfl (by rw [hml]; rfl) (Steps.refl _) (argsL := [(.int (0 : Int32))]) (rest := []) (lenOf pd__I_I rfl) rfl (by show 2 * 0 + _ ≤ _; exact Nat.le_of_eq rfl) (hb hby at_274) (fun _ _ => ⟨rfl, e24', (by decide : 8 + 0 ≤ _), (by decide : 23 + 0 ≤ _)⟩)
  dsimp only [Pt.U, Pt.locs, Pt.cells, Pt.slots] at X25 l25 y25 z25 st25 hQ25
  rw [l25, y25, z25] at X25
  obtain ⟨rfl, N25q, q25⟩ := hQ25
  have N25 := Fr.app N24 N25q
  have e25' : T25.heap = T18.heap := q25
  obtain ⟨_, _, ⟨T26, L26, k26, n26⟩, -, X26, ⟨Lc26, hQ26, l26, y26, z26⟩, st26⟩ := Jvm.LawKit.callS X25 hx (y := own_m9) hown (mvT hZ (own_w hw 46 rfl)) (mvT hZ (own_w hw 47 rfl)) (mvT hZ (own_w hw 36 rfl)) (mvT hZ (own_w hw 48 rfl)) (by decide) (backOf (W := 1) (rmC l Z a0 hw [] ad1 ad3 (0 : Int32) (own_upd (own_upd (own_upd own_zero (0 : Int32) u0) (1 : Int32) u1) (2 : Int32) u2) (own_upd (own_upd (own_upd own_zero (0 : Int32) (1 : Int32)) (1 : Int32) (0 : Int32)) (2 : Int32) (1 : Int32)) T18.heap n0 Zs18 A_ad1_18 A_ad3_18) hZ (own_w hw 48 rfl) (own_w hw 36 rfl) (by decide) (by decide)) (g := (mkF m 282 #[.val (.int p1), .val (.int p2), .val (.int p3), .val (.int ss), .val (.int (1 : Int32)), .val (.ref ad1), .val (.ref ad2), .val (.ref ad3), .val (.ref ad13), .val (.int (1 : Int32))] [(.int (0 : Int32)), (.ref ad3), (.ref ad1), (.int ((own_f17 u0 u1 u2 ss v1 v2) (0 : Int32)))])) rfl (by rw [hml]; rfl) (argsL := [(.ref ad1), (.ref ad3), (.int (0 : Int32))]) (rest := [(.int ((own_f17 u0 u1 u2 ss v1 v2) (0 : Int32)))]) (lenOf pd___I_ZI_I rfl) rfl (by show 2 * 0 + _ ≤ _; exact Nat.le_of_eq rfl) (hb hby at_282) (fun _ _ => ⟨rfl, e25', (by decide : 8 + 0 ≤ _), (by decide : 23 + 0 ≤ _)⟩)
  dsimp only [Pt.U, Pt.locs, Pt.cells, Pt.slots] at X26 l26 y26 z26 st26 hQ26
  rw [l26, y26, z26] at X26
  obtain ⟨rfl, N26q, q26⟩ := hQ26
  have N26 := Fr.app N25 N26q
  have e26' : T26.heap = T18.heap := q26
  obtain ⟨cq27, kq27, q27a, q27b, q27c⟩ := isOf hZ e26' (V18.1)
  obtain ⟨_, _, ⟨T27, L27, k27, n27⟩, -, X27, ⟨Lc27, hQ27, l27, y27, z27⟩, st27⟩ := X26.virtualBack hx (y := own_m8) (z := own_m8) hown (mvT hZ (own_w hw 41 rfl)) (mvT hZ (own_w hw 42 rfl)) (notFace_of_selects (args := #[]) (mvT hZ (own_w hw 44 rfl))) (mvT hZ (own_w hw 44 rfl)) (mvT hZ (own_w hw 43 rfl)) (by decide) (backOf (W := 0) (rm7 l Z a0 hw [] ad13 (1 : Int32) b1 b2 b3 b4 (own_f16 u0 u1 u2 ss v1 v2) (own_f17 u0 u1 u2 ss v1 v2) (own_f18 u0 u1 u2 ss v1 v2) (own_f19 u0 u1 u2 ss v1 v2) T18.heap n0 Zs18 V18 (by decide) (by decide)) hZ (own_w hw 45 rfl) (own_w hw 5 rfl) (by decide) (by decide)) q27a q27c (g := (mkF m 303 #[.val (.int p1), .val (.int p2), .val (.int p3), .val (.int ss), .val (.int (1 : Int32)), .val (.ref ad1), .val (.ref ad2), .val (.ref ad3), .val (.ref ad13), .val (.int (1 : Int32))] [(.int (1 : Int32)), (.ref ad13)])) rfl (by rw [hml]; rfl) (Steps.refl _) (argsL := [(.int (1 : Int32))]) (rest := []) (lenOf pd__I_I rfl) rfl (by show 2 * 0 + _ ≤ _; exact Nat.le_of_eq rfl) (hb hby at_303) (fun _ _ => ⟨rfl, e26', (by decide : 8 + 0 ≤ _), (by decide : 23 + 0 ≤ _)⟩)
  dsimp only [Pt.U, Pt.locs, Pt.cells, Pt.slots] at X27 l27 y27 z27 st27 hQ27
  rw [l27, y27, z27] at X27
  obtain ⟨rfl, N27q, q27⟩ := hQ27
  have N27 := Fr.app N26 N27q
  have e27' : T27.heap = T18.heap := q27
  obtain ⟨_, _, ⟨T28, L28, k28, n28⟩, -, X28, ⟨Lc28, hQ28, l28, y28, z28⟩, st28⟩ := Jvm.LawKit.callS X27 hx (y := own_m9) hown (mvT hZ (own_w hw 46 rfl)) (mvT hZ (own_w hw 47 rfl)) (mvT hZ (own_w hw 36 rfl)) (mvT hZ (own_w hw 48 rfl)) (by decide) (backOf (W := 1) (rmC l Z a0 hw [] ad1 ad3 (1 : Int32) (own_upd (own_upd (own_upd own_zero (0 : Int32) u0) (1 : Int32) u1) (2 : Int32) u2) (own_upd (own_upd (own_upd own_zero (0 : Int32) (1 : Int32)) (1 : Int32) (0 : Int32)) (2 : Int32) (1 : Int32)) T18.heap n0 Zs18 A_ad1_18 A_ad3_18) hZ (own_w hw 48 rfl) (own_w hw 36 rfl) (by decide) (by decide)) (g := (mkF m 311 #[.val (.int p1), .val (.int p2), .val (.int p3), .val (.int ss), .val (.int (1 : Int32)), .val (.ref ad1), .val (.ref ad2), .val (.ref ad3), .val (.ref ad13), .val (.int (1 : Int32))] [(.int (1 : Int32)), (.ref ad3), (.ref ad1), (.int ((own_f17 u0 u1 u2 ss v1 v2) (1 : Int32)))])) rfl (by rw [hml]; rfl) (argsL := [(.ref ad1), (.ref ad3), (.int (1 : Int32))]) (rest := [(.int ((own_f17 u0 u1 u2 ss v1 v2) (1 : Int32)))]) (lenOf pd___I_ZI_I rfl) rfl (by show 2 * 0 + _ ≤ _; exact Nat.le_of_eq rfl) (hb hby at_311) (fun _ _ => ⟨rfl, e27', (by decide : 8 + 0 ≤ _), (by decide : 23 + 0 ≤ _)⟩)
  dsimp only [Pt.U, Pt.locs, Pt.cells, Pt.slots] at X28 l28 y28 z28 st28 hQ28
  rw [l28, y28, z28] at X28
  obtain ⟨rfl, N28q, q28⟩ := hQ28
  have N28 := Fr.app N27 N28q
  have e28' : T28.heap = T18.heap := q28
  obtain ⟨cq29, kq29, q29a, q29b, q29c⟩ := isOf hZ e28' (V18.1)
  obtain ⟨_, _, ⟨T29, L29, k29, n29⟩, -, X29, ⟨Lc29, hQ29, l29, y29, z29⟩, st29⟩ := X28.virtualBack hx (y := own_m10) (z := own_m10) hown (mvT hZ (own_w hw 49 rfl)) (mvT hZ (own_w hw 50 rfl)) (notFace_of_selects (args := #[]) (mvT hZ (own_w hw 52 rfl))) (mvT hZ (own_w hw 52 rfl)) (mvT hZ (own_w hw 51 rfl)) (by decide) (backOf (W := 0) (rm9 l Z a0 hw [] ad13 ss b1 b2 b3 b4 (own_f16 u0 u1 u2 ss v1 v2) (own_f17 u0 u1 u2 ss v1 v2) (own_f18 u0 u1 u2 ss v1 v2) (own_f19 u0 u1 u2 ss v1 v2) T18.heap n0 Zs18 V18 (own_k2 u0 u1 u2 ss v1 v2 c_u0 c_u1 c_u2 c_s hv1 hv2) (own_k3 u0 u1 u2 ss v1 v2 c_u0 c_u1 c_u2 c_s hv1 hv2)) hZ (own_w hw 53 rfl) (own_w hw 5 rfl) (by decide) (by decide)) q29a q29c (g := (mkF m 342 #[.val (.int p1), .val (.int p2), .val (.int p3), .val (.int ss), .val (.int (1 : Int32)), .val (.ref ad1), .val (.ref ad2), .val (.ref ad3), .val (.ref ad13), .val (.int (1 : Int32))] [(.int ss), (.ref ad13)])) rfl (by rw [hml]; rfl) (Steps.refl _) (argsL := [(.int ss)]) (rest := []) (lenOf pd__I_I rfl) rfl (by show 2 * 0 + _ ≤ _; exact Nat.le_of_eq rfl) (hb hby at_342) (fun _ _ => ⟨rfl, e28', (by decide : 8 + 0 ≤ _), (by decide : 23 + 0 ≤ _)⟩)
  dsimp only [Pt.U, Pt.locs, Pt.cells, Pt.slots] at X29 l29 y29 z29 st29 hQ29
  rw [l29, y29, z29] at X29
  obtain ⟨rfl, N29q, q29⟩ := hQ29
  have N29 := Fr.app N28 N29q
  have e29' : T29.heap = T18.heap := q29
  obtain ⟨_, _, ⟨T30, L30, k30, n30⟩, -, X30, ⟨Lc30, hQ30, l30, y30, z30⟩, st30⟩ := Jvm.LawKit.callS X29 hx (y := own_m6) hown (mvT hZ (own_w hw 34 rfl)) (mvT hZ (own_w hw 35 rfl)) (mvT hZ (own_w hw 36 rfl)) (mvT hZ (own_w hw 37 rfl)) (by decide) (backOf (W := 2) (rmL l Z a0 hw [] ad1 ad3 u0 (0 : Int32) (own_upd (own_upd (own_upd own_zero (0 : Int32) u0) (1 : Int32) u1) (2 : Int32) u2) (own_upd (own_upd (own_upd own_zero (0 : Int32) (1 : Int32)) (1 : Int32) (0 : Int32)) (2 : Int32) (1 : Int32)) T18.heap n0 Zs18 A_ad1_18 A_ad3_18) hZ (own_w hw 37 rfl) (own_w hw 36 rfl) (by decide) (by decide)) (g := (mkF m 356 #[.val (.int p1), .val (.int p2), .val (.int p3), .val (.int ss), .val (.int (1 : Int32)), .val (.ref ad1), .val (.ref ad2), .val (.ref ad3), .val (.ref ad13), .val (.int (1 : Int32))] [(.int (0 : Int32)), (.int u0), (.ref ad3), (.ref ad1), (.ref ad2), (.int ((own_f18 u0 u1 u2 ss v1 v2) ss))])) rfl (by rw [hml]; rfl) (argsL := [(.ref ad1), (.ref ad3), (.int u0), (.int (0 : Int32))]) (rest := [(.ref ad2), (.int ((own_f18 u0 u1 u2 ss v1 v2) ss))]) (lenOf pd___I_ZII_I rfl) rfl (by show 2 * 0 + _ ≤ _; exact Nat.le_of_eq rfl) (hb hby at_356) (fun _ _ => ⟨rfl, e29', (by decide : 8 + 0 ≤ _), (by decide : 23 + 0 ≤ _)⟩)
  dsimp only [Pt.U, Pt.locs, Pt.cells, Pt.slots] at X30 l30 y30 z30 st30 hQ30
  rw [l30, y30, z30] at X30
  obtain ⟨rfl, N30q, q30⟩ := hQ30
  have N30 := Fr.app N29 N30q
  have e30' : T30.heap = T18.heap := q30
  obtain ⟨_, _, ⟨T31, L31, k31, n31⟩, -, X31, ⟨Lc31, hQ31, l31, y31, z31⟩, st31⟩ := Jvm.LawKit.callS X30 hx (y := own_m7) hown (mvT hZ (own_w hw 38 rfl)) (mvT hZ (own_w hw 39 rfl)) (mvT hZ (own_w hw 36 rfl)) (mvT hZ (own_w hw 40 rfl)) (by decide) (backOf (W := 1) (rmE l Z a0 hw [] ad2 (own_last (own_upd (own_upd (own_upd own_zero (0 : Int32) u0) (1 : Int32) u1) (2 : Int32) u2) (own_upd (own_upd (own_upd own_zero (0 : Int32) (1 : Int32)) (1 : Int32) (0 : Int32)) (2 : Int32) (1 : Int32)) u0 (0 : Int32)) (own_upd (own_upd (own_upd own_zero (0 : Int32) ss) (1 : Int32) v1) (2 : Int32) v2) T18.heap n0 Zs18 A_ad2_18 (own_last_lt _ _ _ _)) hZ (own_w hw 40 rfl) (own_w hw 36 rfl) (by decide) (by decide)) (g := (mkF m 359 #[.val (.int p1), .val (.int p2), .val (.int p3), .val (.int ss), .val (.int (1 : Int32)), .val (.ref ad1), .val (.ref ad2), .val (.ref ad3), .val (.ref ad13), .val (.int (1 : Int32))] [(.int (own_last (own_upd (own_upd (own_upd own_zero (0 : Int32) u0) (1 : Int32) u1) (2 : Int32) u2) (own_upd (own_upd (own_upd own_zero (0 : Int32) (1 : Int32)) (1 : Int32) (0 : Int32)) (2 : Int32) (1 : Int32)) u0 (0 : Int32))), (.ref ad2), (.int ((own_f18 u0 u1 u2 ss v1 v2) ss))])) rfl (by rw [hml]; rfl) (argsL := [(.ref ad2), (.int (own_last (own_upd (own_upd (own_upd own_zero (0 : Int32) u0) (1 : Int32) u1) (2 : Int32) u2) (own_upd (own_upd (own_upd own_zero (0 : Int32) (1 : Int32)) (1 : Int32) (0 : Int32)) (2 : Int32) (1 : Int32)) u0 (0 : Int32)))]) (rest := [(.int ((own_f18 u0 u1 u2 ss v1 v2) ss))]) (lenOf pd___II_I rfl) rfl (by show 2 * 0 + _ ≤ _; exact Nat.le_of_eq rfl) (hb hby at_359) (fun _ _ => ⟨rfl, e30', (by decide : 8 + 0 ≤ _), (by decide : 23 + 0 ≤ _)⟩)
  dsimp only [Pt.U, Pt.locs, Pt.cells, Pt.slots] at X31 l31 y31 z31 st31 hQ31
  rw [l31, y31, z31] at X31
  obtain ⟨rfl, N31q, q31⟩ := hQ31
  have N31 := Fr.app N30 N31q
  have e31' : T31.heap = T18.heap := q31
  obtain ⟨cq32, kq32, q32a, q32b, q32c⟩ := isOf hZ e31' (V18.1)
  obtain ⟨_, _, ⟨T32, L32, k32, n32⟩, -, X32, ⟨Lc32, hQ32, l32, y32, z32⟩, st32⟩ := X31.virtualBack hx (y := own_m10) (z := own_m10) hown (mvT hZ (own_w hw 49 rfl)) (mvT hZ (own_w hw 50 rfl)) (notFace_of_selects (args := #[]) (mvT hZ (own_w hw 52 rfl))) (mvT hZ (own_w hw 52 rfl)) (mvT hZ (own_w hw 51 rfl)) (by decide) (backOf (W := 0) (rm9 l Z a0 hw [] ad13 v2 b1 b2 b3 b4 (own_f16 u0 u1 u2 ss v1 v2) (own_f17 u0 u1 u2 ss v1 v2) (own_f18 u0 u1 u2 ss v1 v2) (own_f19 u0 u1 u2 ss v1 v2) T18.heap n0 Zs18 V18 (own_k12 u0 u1 u2 ss v1 v2 c_u0 c_u1 c_u2 c_s hv1 hv2) (own_k13 u0 u1 u2 ss v1 v2 c_u0 c_u1 c_u2 c_s hv1 hv2)) hZ (own_w hw 53 rfl) (own_w hw 5 rfl) (by decide) (by decide)) q32a q32c (g := (mkF m 438 #[.val (.int p1), .val (.int p2), .val (.int p3), .val (.int ss), .val (.int (1 : Int32)), .val (.ref ad1), .val (.ref ad2), .val (.ref ad3), .val (.ref ad13), .val (.int (1 : Int32))] [(.int v2), (.ref ad13)])) rfl (by rw [hml]; rfl) (Steps.refl _) (argsL := [(.int v2)]) (rest := []) (lenOf pd__I_I rfl) rfl (by show 2 * 0 + _ ≤ _; exact Nat.le_of_eq rfl) (hb hby at_438) (fun _ _ => ⟨rfl, e31', (by decide : 8 + 0 ≤ _), (by decide : 23 + 0 ≤ _)⟩)
  dsimp only [Pt.U, Pt.locs, Pt.cells, Pt.slots] at X32 l32 y32 z32 st32 hQ32
  rw [l32, y32, z32] at X32
  obtain ⟨rfl, N32q, q32⟩ := hQ32
  have N32 := Fr.app N31 N32q
  have e32' : T32.heap = T18.heap := q32
  obtain ⟨_, _, ⟨T33, L33, k33, n33⟩, -, X33, ⟨Lc33, hQ33, l33, y33, z33⟩, st33⟩ := Jvm.LawKit.callS X32 hx (y := own_m6) hown (mvT hZ (own_w hw 34 rfl)) (mvT hZ (own_w hw 35 rfl)) (mvT hZ (own_w hw 36 rfl)) (mvT hZ (own_w hw 37 rfl)) (by decide) (backOf (W := 2) (rmL l Z a0 hw [] ad1 ad3 u2 (2 : Int32) (own_upd (own_upd (own_upd own_zero (0 : Int32) u0) (1 : Int32) u1) (2 : Int32) u2) (own_upd (own_upd (own_upd own_zero (0 : Int32) (1 : Int32)) (1 : Int32) (0 : Int32)) (2 : Int32) (1 : Int32)) T18.heap n0 Zs18 A_ad1_18 A_ad3_18) hZ (own_w hw 37 rfl) (own_w hw 36 rfl) (by decide) (by decide)) (g := (mkF m 452 #[.val (.int p1), .val (.int p2), .val (.int p3), .val (.int ss), .val (.int (1 : Int32)), .val (.ref ad1), .val (.ref ad2), .val (.ref ad3), .val (.ref ad13), .val (.int (1 : Int32))] [(.int (2 : Int32)), (.int u2), (.ref ad3), (.ref ad1), (.ref ad2), (.int ((own_f18 u0 u1 u2 ss v1 v2) v2))])) rfl (by rw [hml]; rfl) (argsL := [(.ref ad1), (.ref ad3), (.int u2), (.int (2 : Int32))]) (rest := [(.ref ad2), (.int ((own_f18 u0 u1 u2 ss v1 v2) v2))]) (lenOf pd___I_ZII_I rfl) rfl (by show 2 * 0 + _ ≤ _; exact Nat.le_of_eq rfl) (hb hby at_452) (fun _ _ => ⟨rfl, e32', (by decide : 8 + 0 ≤ _), (by decide : 23 + 0 ≤ _)⟩)
  dsimp only [Pt.U, Pt.locs, Pt.cells, Pt.slots] at X33 l33 y33 z33 st33 hQ33
  rw [l33, y33, z33] at X33
  obtain ⟨rfl, N33q, q33⟩ := hQ33
  have N33 := Fr.app N32 N33q
  have e33' : T33.heap = T18.heap := q33
  obtain ⟨_, _, ⟨T34, L34, k34, n34⟩, -, X34, ⟨Lc34, hQ34, l34, y34, z34⟩, st34⟩ := Jvm.LawKit.callS X33 hx (y := own_m7) hown (mvT hZ (own_w hw 38 rfl)) (mvT hZ (own_w hw 39 rfl)) (mvT hZ (own_w hw 36 rfl)) (mvT hZ (own_w hw 40 rfl)) (by decide) (backOf (W := 1) (rmE l Z a0 hw [] ad2 (own_last (own_upd (own_upd (own_upd own_zero (0 : Int32) u0) (1 : Int32) u1) (2 : Int32) u2) (own_upd (own_upd (own_upd own_zero (0 : Int32) (1 : Int32)) (1 : Int32) (0 : Int32)) (2 : Int32) (1 : Int32)) u2 (2 : Int32)) (own_upd (own_upd (own_upd own_zero (0 : Int32) ss) (1 : Int32) v1) (2 : Int32) v2) T18.heap n0 Zs18 A_ad2_18 (own_last_lt _ _ _ _)) hZ (own_w hw 40 rfl) (own_w hw 36 rfl) (by decide) (by decide)) (g := (mkF m 455 #[.val (.int p1), .val (.int p2), .val (.int p3), .val (.int ss), .val (.int (1 : Int32)), .val (.ref ad1), .val (.ref ad2), .val (.ref ad3), .val (.ref ad13), .val (.int (1 : Int32))] [(.int (own_last (own_upd (own_upd (own_upd own_zero (0 : Int32) u0) (1 : Int32) u1) (2 : Int32) u2) (own_upd (own_upd (own_upd own_zero (0 : Int32) (1 : Int32)) (1 : Int32) (0 : Int32)) (2 : Int32) (1 : Int32)) u2 (2 : Int32))), (.ref ad2), (.int ((own_f18 u0 u1 u2 ss v1 v2) v2))])) rfl (by rw [hml]; rfl) (argsL := [(.ref ad2), (.int (own_last (own_upd (own_upd (own_upd own_zero (0 : Int32) u0) (1 : Int32) u1) (2 : Int32) u2) (own_upd (own_upd (own_upd own_zero (0 : Int32) (1 : Int32)) (1 : Int32) (0 : Int32)) (2 : Int32) (1 : Int32)) u2 (2 : Int32)))]) (rest := [(.int ((own_f18 u0 u1 u2 ss v1 v2) v2))]) (lenOf pd___II_I rfl) rfl (by show 2 * 0 + _ ≤ _; exact Nat.le_of_eq rfl) (hb hby at_455) (fun _ _ => ⟨rfl, e33', (by decide : 8 + 0 ≤ _), (by decide : 23 + 0 ≤ _)⟩)
  dsimp only [Pt.U, Pt.locs, Pt.cells, Pt.slots] at X34 l34 y34 z34 st34 hQ34
  rw [l34, y34, z34] at X34
  obtain ⟨rfl, N34q, q34⟩ := hQ34
  have N34 := Fr.app N33 N34q
  have e34' : T34.heap = T18.heap := q34
  obtain ⟨fs, hr, hrun, hended, hW, hsame⟩ := X34.leave (v := some (.int (1 : Int32))) (fun h => by rw [Bd.returns] at h; cases h)
  refine ⟨_, _, pre0 _ ?_, hrun, hended, _, _, rfl, ?_, ⟨_, rfl⟩, hW, hsame.mono (by decide) (by decide)⟩
  · show Steps p.tables e below (s₁.setTop (mkF m 0 #[.val (.int p1), .val (.int p2), .val (.int p3), .unset, .unset, .unset, .unset, .unset, .unset, .unset] [])) _
    refine XS.iloadN X0.here hx rfl (hb hby at_0) rfl ?_
    show Steps p.tables e below (s₁.setTop (mkF m 1 #[.val (.int p1), .val (.int p2), .val (.int p3), .unset, .unset, .unset, .unset, .unset, .unset, .unset] [(.int p3)])) _
    refine X0.ldcInt hx hown (mvT hZ (own_w hw 0 rfl)) (g := (mkF m 1 #[.val (.int p1), .val (.int p2), .val (.int p3), .unset, .unset, .unset, .unset, .unset, .unset, .unset] [(.int p3)])) rfl (hb hby at_1) _ ?_
    show Steps p.tables e below (s₁.setTop (mkF m 3 #[.val (.int p1), .val (.int p2), .val (.int p3), .unset, .unset, .unset, .unset, .unset, .unset, .unset] [(.int (2147483647 : Int32)), (.int p3)])) _
    refine XS.iand X0.here hx rfl (hb hby at_3) rfl ?_
    show Steps p.tables e below (s₁.setTop (mkF m 4 #[.val (.int p1), .val (.int p2), .val (.int p3), .unset, .unset, .unset, .unset, .unset, .unset, .unset] [(.int (p3 &&& (2147483647 : Int32)))])) _
    refine XS.iconst X0.here hx rfl (hb hby at_4) ?_
    show Steps p.tables e below (s₁.setTop (mkF m 5 #[.val (.int p1), .val (.int p2), .val (.int p3), .unset, .unset, .unset, .unset, .unset, .unset, .unset] [(.int (3 : Int32)), (.int (p3 &&& (2147483647 : Int32)))])) _
    refine iremM X0 hx rfl (hb hby at_5) rfl (by decide) ?_
    rw [← hss]
    show Steps p.tables e below (s₁.setTop (mkF m 6 #[.val (.int p1), .val (.int p2), .val (.int p3), .unset, .unset, .unset, .unset, .unset, .unset, .unset] [(.int ss)])) _
    refine XS.istoreN X0.here hx rfl (hb hby at_6) rfl (l' := #[.val (.int p1), .val (.int p2), .val (.int p3), .val (.int ss), .unset, .unset, .unset, .unset, .unset, .unset]) rfl ?_
    refine XS.iloadN X0.here hx rfl (hb hby at_7) rfl ?_
    show Steps p.tables e below (s₁.setTop (mkF m 8 #[.val (.int p1), .val (.int p2), .val (.int p3), .val (.int ss), .unset, .unset, .unset, .unset, .unset, .unset] [(.int p2)])) _
    refine X0.ldcInt hx hown (mvT hZ (own_w hw 0 rfl)) (g := (mkF m 8 #[.val (.int p1), .val (.int p2), .val (.int p3), .val (.int ss), .unset, .unset, .unset, .unset, .unset, .unset] [(.int p2)])) rfl (hb hby at_8) _ ?_
    show Steps p.tables e below (s₁.setTop (mkF m 10 #[.val (.int p1), .val (.int p2), .val (.int p3), .val (.int ss), .unset, .unset, .unset, .unset, .unset, .unset] [(.int (2147483647 : Int32)), (.int p2)])) _
    refine XS.iand X0.here hx rfl (hb hby at_10) rfl ?_
    show Steps p.tables e below (s₁.setTop (mkF m 11 #[.val (.int p1), .val (.int p2), .val (.int p3), .val (.int ss), .unset, .unset, .unset, .unset, .unset, .unset] [(.int (p2 &&& (2147483647 : Int32)))])) _
    refine XS.iconst X0.here hx rfl (hb hby at_11) ?_
    show Steps p.tables e below (s₁.setTop (mkF m 12 #[.val (.int p1), .val (.int p2), .val (.int p3), .val (.int ss), .unset, .unset, .unset, .unset, .unset, .unset] [(.int (4 : Int32)), (.int (p2 &&& (2147483647 : Int32)))])) _
    refine iremM X0 hx rfl (hb hby at_12) rfl (by decide) ?_
    rw [hR]
    show Steps p.tables e below (s₁.setTop (mkF m 13 #[.val (.int p1), .val (.int p2), .val (.int p3), .val (.int ss), .unset, .unset, .unset, .unset, .unset, .unset] [(.int (1 : Int32))])) _
    refine XS.istore X0.here hx rfl (hb hby at_13) rfl (l' := #[.val (.int p1), .val (.int p2), .val (.int p3), .val (.int ss), .val (.int (1 : Int32)), .unset, .unset, .unset, .unset, .unset]) rfl ?_
    refine XS.iconst X0.here hx rfl (hb hby at_15) ?_
    show Steps p.tables e below (s₁.setTop (mkF m 16 #[.val (.int p1), .val (.int p2), .val (.int p3), .val (.int ss), .val (.int (1 : Int32)), .unset, .unset, .unset, .unset, .unset] [(.int (3 : Int32))])) _
    refine st1 _ ?_
    show Steps p.tables e below (T1.setTop (mkF m 18 #[.val (.int p1), .val (.int p2), .val (.int p3), .val (.int ss), .val (.int (1 : Int32)), .unset, .unset, .unset, .unset, .unset] [(.ref ad1)])) _
    refine XS.astore X1.here hx rfl (hb hby at_18) rfl rfl (l' := #[.val (.int p1), .val (.int p2), .val (.int p3), .val (.int ss), .val (.int (1 : Int32)), .val (.ref ad1), .unset, .unset, .unset, .unset]) rfl ?_
    refine XS.iconst X1.here hx rfl (hb hby at_20) ?_
    show Steps p.tables e below (T1.setTop (mkF m 21 #[.val (.int p1), .val (.int p2), .val (.int p3), .val (.int ss), .val (.int (1 : Int32)), .val (.ref ad1), .unset, .unset, .unset, .unset] [(.int (3 : Int32))])) _
    refine st2 _ ?_
    show Steps p.tables e below (T2.setTop (mkF m 23 #[.val (.int p1), .val (.int p2), .val (.int p3), .val (.int ss), .val (.int (1 : Int32)), .val (.ref ad1), .unset, .unset, .unset, .unset] [(.ref ad2)])) _
    refine XS.astore X2.here hx rfl (hb hby at_23) rfl rfl (l' := #[.val (.int p1), .val (.int p2), .val (.int p3), .val (.int ss), .val (.int (1 : Int32)), .val (.ref ad1), .val (.ref ad2), .unset, .unset, .unset]) rfl ?_
    refine XS.iconst X2.here hx rfl (hb hby at_25) ?_
    show Steps p.tables e below (T2.setTop (mkF m 26 #[.val (.int p1), .val (.int p2), .val (.int p3), .val (.int ss), .val (.int (1 : Int32)), .val (.ref ad1), .val (.ref ad2), .unset, .unset, .unset] [(.int (3 : Int32))])) _
    refine st3 _ ?_
    show Steps p.tables e below (T3.setTop (mkF m 28 #[.val (.int p1), .val (.int p2), .val (.int p3), .val (.int ss), .val (.int (1 : Int32)), .val (.ref ad1), .val (.ref ad2), .unset, .unset, .unset] [(.ref ad3)])) _
    refine XS.astore X3.here hx rfl (hb hby at_28) rfl rfl (l' := #[.val (.int p1), .val (.int p2), .val (.int p3), .val (.int ss), .val (.int (1 : Int32)), .val (.ref ad1), .val (.ref ad2), .val (.ref ad3), .unset, .unset]) rfl ?_
    refine XS.aload X3.here hx rfl (hb hby at_30) rfl rfl ?_
    refine XS.iconst X3.here hx rfl (hb hby at_32) ?_
    refine XS.iloadN X3.here hx rfl (hb hby at_33) rfl ?_
    refine XS.iconst X3.here hx rfl (hb hby at_34) ?_
    show Steps p.tables e below (T3.setTop (mkF m 35 #[.val (.int p1), .val (.int p2), .val (.int p3), .val (.int ss), .val (.int (1 : Int32)), .val (.ref ad1), .val (.ref ad2), .val (.ref ad3), .unset, .unset] [(.int (1 : Int32)), (.int p1), (.int (0 : Int32)), (.ref ad1)])) _
    refine XS.iand X3.here hx rfl (hb hby at_35) rfl ?_
    rw [← hu0]
    show Steps p.tables e below (T3.setTop (mkF m 36 #[.val (.int p1), .val (.int p2), .val (.int p3), .val (.int ss), .val (.int (1 : Int32)), .val (.ref ad1), .val (.ref ad2), .val (.ref ad3), .unset, .unset] [(.int u0), (.int (0 : Int32)), (.ref ad1)])) _
    refine st4 _ ?_
    show Steps p.tables e below (T4.setTop (mkF m 37 #[.val (.int p1), .val (.int p2), .val (.int p3), .val (.int ss), .val (.int (1 : Int32)), .val (.ref ad1), .val (.ref ad2), .val (.ref ad3), .unset, .unset] [])) _
    refine XS.aload X4.here hx rfl (hb hby at_37) rfl rfl ?_
    refine XS.iconst X4.here hx rfl (hb hby at_39) ?_
    refine XS.iloadN X4.here hx rfl (hb hby at_40) rfl ?_
    refine XS.iconst X4.here hx rfl (hb hby at_41) ?_
    show Steps p.tables e below (T4.setTop (mkF m 42 #[.val (.int p1), .val (.int p2), .val (.int p3), .val (.int ss), .val (.int (1 : Int32)), .val (.ref ad1), .val (.ref ad2), .val (.ref ad3), .unset, .unset] [(.int (1 : Int32)), (.int p1), (.int (1 : Int32)), (.ref ad1)])) _
    refine XS.iushr X4.here hx rfl (hb hby at_42) rfl ?_
    show Steps p.tables e below (T4.setTop (mkF m 43 #[.val (.int p1), .val (.int p2), .val (.int p3), .val (.int ss), .val (.int (1 : Int32)), .val (.ref ad1), .val (.ref ad2), .val (.ref ad3), .unset, .unset] [(.int ((p1.toUInt32 >>> ((1 : Int32) &&& 31).toUInt32).toInt32)), (.int (1 : Int32)), (.ref ad1)])) _
    refine XS.iconst X4.here hx rfl (hb hby at_43) ?_
    show Steps p.tables e below (T4.setTop (mkF m 44 #[.val (.int p1), .val (.int p2), .val (.int p3), .val (.int ss), .val (.int (1 : Int32)), .val (.ref ad1), .val (.ref ad2), .val (.ref ad3), .unset, .unset] [(.int (1 : Int32)), (.int ((p1.toUInt32 >>> ((1 : Int32) &&& 31).toUInt32).toInt32)), (.int (1 : Int32)), (.ref ad1)])) _
    refine XS.iand X4.here hx rfl (hb hby at_44) rfl ?_
    rw [← hu1]
    show Steps p.tables e below (T4.setTop (mkF m 45 #[.val (.int p1), .val (.int p2), .val (.int p3), .val (.int ss), .val (.int (1 : Int32)), .val (.ref ad1), .val (.ref ad2), .val (.ref ad3), .unset, .unset] [(.int u1), (.int (1 : Int32)), (.ref ad1)])) _
    refine st5 _ ?_
    show Steps p.tables e below (T5.setTop (mkF m 46 #[.val (.int p1), .val (.int p2), .val (.int p3), .val (.int ss), .val (.int (1 : Int32)), .val (.ref ad1), .val (.ref ad2), .val (.ref ad3), .unset, .unset] [])) _
    refine XS.aload X5.here hx rfl (hb hby at_46) rfl rfl ?_
    refine XS.iconst X5.here hx rfl (hb hby at_48) ?_
    refine XS.iloadN X5.here hx rfl (hb hby at_49) rfl ?_
    refine XS.iconst X5.here hx rfl (hb hby at_50) ?_
    show Steps p.tables e below (T5.setTop (mkF m 51 #[.val (.int p1), .val (.int p2), .val (.int p3), .val (.int ss), .val (.int (1 : Int32)), .val (.ref ad1), .val (.ref ad2), .val (.ref ad3), .unset, .unset] [(.int (2 : Int32)), (.int p1), (.int (2 : Int32)), (.ref ad1)])) _
    refine XS.iushr X5.here hx rfl (hb hby at_51) rfl ?_
    show Steps p.tables e below (T5.setTop (mkF m 52 #[.val (.int p1), .val (.int p2), .val (.int p3), .val (.int ss), .val (.int (1 : Int32)), .val (.ref ad1), .val (.ref ad2), .val (.ref ad3), .unset, .unset] [(.int ((p1.toUInt32 >>> ((2 : Int32) &&& 31).toUInt32).toInt32)), (.int (2 : Int32)), (.ref ad1)])) _
    refine XS.iconst X5.here hx rfl (hb hby at_52) ?_
    show Steps p.tables e below (T5.setTop (mkF m 53 #[.val (.int p1), .val (.int p2), .val (.int p3), .val (.int ss), .val (.int (1 : Int32)), .val (.ref ad1), .val (.ref ad2), .val (.ref ad3), .unset, .unset] [(.int (1 : Int32)), (.int ((p1.toUInt32 >>> ((2 : Int32) &&& 31).toUInt32).toInt32)), (.int (2 : Int32)), (.ref ad1)])) _
    refine XS.iand X5.here hx rfl (hb hby at_53) rfl ?_
    rw [← hu2]
    show Steps p.tables e below (T5.setTop (mkF m 54 #[.val (.int p1), .val (.int p2), .val (.int p3), .val (.int ss), .val (.int (1 : Int32)), .val (.ref ad1), .val (.ref ad2), .val (.ref ad3), .unset, .unset] [(.int u2), (.int (2 : Int32)), (.ref ad1)])) _
    refine st6 _ ?_
    show Steps p.tables e below (T6.setTop (mkF m 55 #[.val (.int p1), .val (.int p2), .val (.int p3), .val (.int ss), .val (.int (1 : Int32)), .val (.ref ad1), .val (.ref ad2), .val (.ref ad3), .unset, .unset] [])) _
    refine XS.aload X6.here hx rfl (hb hby at_55) rfl rfl ?_
    refine XS.iconst X6.here hx rfl (hb hby at_57) ?_
    refine XS.iloadN X6.here hx rfl (hb hby at_58) rfl ?_
    show Steps p.tables e below (T6.setTop (mkF m 59 #[.val (.int p1), .val (.int p2), .val (.int p3), .val (.int ss), .val (.int (1 : Int32)), .val (.ref ad1), .val (.ref ad2), .val (.ref ad3), .unset, .unset] [(.int ss), (.int (0 : Int32)), (.ref ad2)])) _
    refine st7 _ ?_
    show Steps p.tables e below (T7.setTop (mkF m 60 #[.val (.int p1), .val (.int p2), .val (.int p3), .val (.int ss), .val (.int (1 : Int32)), .val (.ref ad1), .val (.ref ad2), .val (.ref ad3), .unset, .unset] [])) _
    refine XS.aload X7.here hx rfl (hb hby at_60) rfl rfl ?_
    refine XS.iconst X7.here hx rfl (hb hby at_62) ?_
    refine XS.iconst X7.here hx rfl (hb hby at_63) ?_
    refine XS.iloadN X7.here hx rfl (hb hby at_64) rfl ?_
    show Steps p.tables e below (T7.setTop (mkF m 65 #[.val (.int p1), .val (.int p2), .val (.int p3), .val (.int ss), .val (.int (1 : Int32)), .val (.ref ad1), .val (.ref ad2), .val (.ref ad3), .unset, .unset] [(.int ss), (.int (1 : Int32)), (.int (1 : Int32)), (.ref ad2)])) _
    refine XS.iadd X7.here hx rfl (hb hby at_65) rfl ?_
    show Steps p.tables e below (T7.setTop (mkF m 66 #[.val (.int p1), .val (.int p2), .val (.int p3), .val (.int ss), .val (.int (1 : Int32)), .val (.ref ad1), .val (.ref ad2), .val (.ref ad3), .unset, .unset] [(.int ((1 : Int32) + ss)), (.int (1 : Int32)), (.ref ad2)])) _
    refine XS.iconst X7.here hx rfl (hb hby at_66) ?_
    show Steps p.tables e below (T7.setTop (mkF m 67 #[.val (.int p1), .val (.int p2), .val (.int p3), .val (.int ss), .val (.int (1 : Int32)), .val (.ref ad1), .val (.ref ad2), .val (.ref ad3), .unset, .unset] [(.int (3 : Int32)), (.int ((1 : Int32) + ss)), (.int (1 : Int32)), (.ref ad2)])) _
    refine iremM X7 hx rfl (hb hby at_67) rfl (by decide) ?_
    rw [← hv1]
    show Steps p.tables e below (T7.setTop (mkF m 68 #[.val (.int p1), .val (.int p2), .val (.int p3), .val (.int ss), .val (.int (1 : Int32)), .val (.ref ad1), .val (.ref ad2), .val (.ref ad3), .unset, .unset] [(.int v1), (.int (1 : Int32)), (.ref ad2)])) _
    refine st8 _ ?_
    show Steps p.tables e below (T8.setTop (mkF m 69 #[.val (.int p1), .val (.int p2), .val (.int p3), .val (.int ss), .val (.int (1 : Int32)), .val (.ref ad1), .val (.ref ad2), .val (.ref ad3), .unset, .unset] [])) _
    refine XS.aload X8.here hx rfl (hb hby at_69) rfl rfl ?_
    refine XS.iconst X8.here hx rfl (hb hby at_71) ?_
    refine XS.iconst X8.here hx rfl (hb hby at_72) ?_
    refine XS.iloadN X8.here hx rfl (hb hby at_73) rfl ?_
    show Steps p.tables e below (T8.setTop (mkF m 74 #[.val (.int p1), .val (.int p2), .val (.int p3), .val (.int ss), .val (.int (1 : Int32)), .val (.ref ad1), .val (.ref ad2), .val (.ref ad3), .unset, .unset] [(.int ss), (.int (2 : Int32)), (.int (2 : Int32)), (.ref ad2)])) _
    refine XS.iadd X8.here hx rfl (hb hby at_74) rfl ?_
    show Steps p.tables e below (T8.setTop (mkF m 75 #[.val (.int p1), .val (.int p2), .val (.int p3), .val (.int ss), .val (.int (1 : Int32)), .val (.ref ad1), .val (.ref ad2), .val (.ref ad3), .unset, .unset] [(.int ((2 : Int32) + ss)), (.int (2 : Int32)), (.ref ad2)])) _
    refine XS.iconst X8.here hx rfl (hb hby at_75) ?_
    show Steps p.tables e below (T8.setTop (mkF m 76 #[.val (.int p1), .val (.int p2), .val (.int p3), .val (.int ss), .val (.int (1 : Int32)), .val (.ref ad1), .val (.ref ad2), .val (.ref ad3), .unset, .unset] [(.int (3 : Int32)), (.int ((2 : Int32) + ss)), (.int (2 : Int32)), (.ref ad2)])) _
    refine iremM X8 hx rfl (hb hby at_76) rfl (by decide) ?_
    rw [← hv2]
    show Steps p.tables e below (T8.setTop (mkF m 77 #[.val (.int p1), .val (.int p2), .val (.int p3), .val (.int ss), .val (.int (1 : Int32)), .val (.ref ad1), .val (.ref ad2), .val (.ref ad3), .unset, .unset] [(.int v2), (.int (2 : Int32)), (.ref ad2)])) _
    refine st9 _ ?_
    show Steps p.tables e below (T9.setTop (mkF m 78 #[.val (.int p1), .val (.int p2), .val (.int p3), .val (.int ss), .val (.int (1 : Int32)), .val (.ref ad1), .val (.ref ad2), .val (.ref ad3), .unset, .unset] [])) _
    refine XS.aload X9.here hx rfl (hb hby at_78) rfl rfl ?_
    refine XS.iconst X9.here hx rfl (hb hby at_80) ?_
    refine XS.iload X9.here hx rfl (hb hby at_81) rfl ?_
    show Steps p.tables e below (T9.setTop (mkF m 83 #[.val (.int p1), .val (.int p2), .val (.int p3), .val (.int ss), .val (.int (1 : Int32)), .val (.ref ad1), .val (.ref ad2), .val (.ref ad3), .unset, .unset] [(.int (1 : Int32)), (.int (0 : Int32)), (.ref ad3)])) _
    refine XS.ifNo X9.here hx rfl (hb hby at_83) rfl ((if0 _ _).trans (feq (by decide : ¬ ((1 : Int32) = (0 : Int32)))).1) ?_
    show Steps p.tables e below (T9.setTop (mkF m 86 #[.val (.int p1), .val (.int p2), .val (.int p3), .val (.int ss), .val (.int (1 : Int32)), .val (.ref ad1), .val (.ref ad2), .val (.ref ad3), .unset, .unset] [(.int (0 : Int32)), (.ref ad3)])) _
    refine XS.iconst X9.here hx rfl (hb hby at_86) ?_
    refine XS.goto X9.here hx rfl (pc0 := 87) (pc' := 91) rfl (hb hby at_87) (by decide) (by decide) ?_
    show Steps p.tables e below (T9.setTop (mkF m 91 #[.val (.int p1), .val (.int p2), .val (.int p3), .val (.int ss), .val (.int (1 : Int32)), .val (.ref ad1), .val (.ref ad2), .val (.ref ad3), .unset, .unset] [(.int (1 : Int32)), (.int (0 : Int32)), (.ref ad3)])) _
    refine st10 _ ?_
    show Steps p.tables e below (T10.setTop (mkF m 92 #[.val (.int p1), .val (.int p2), .val (.int p3), .val (.int ss), .val (.int (1 : Int32)), .val (.ref ad1), .val (.ref ad2), .val (.ref ad3), .unset, .unset] [])) _
    refine XS.aload X10.here hx rfl (hb hby at_92) rfl rfl ?_
    refine XS.iconst X10.here hx rfl (hb hby at_94) ?_
    refine XS.iload X10.here hx rfl (hb hby at_95) rfl ?_
    refine XS.iconst X10.here hx rfl (hb hby at_97) ?_
    show Steps p.tables e below (T10.setTop (mkF m 98 #[.val (.int p1), .val (.int p2), .val (.int p3), .val (.int ss), .val (.int (1 : Int32)), .val (.ref ad1), .val (.ref ad2), .val (.ref ad3), .unset, .unset] [(.int (1 : Int32)), (.int (1 : Int32)), (.int (1 : Int32)), (.ref ad3)])) _
    refine XS.icmpYes X10.here hx rfl (pc0 := 98) (pc' := 105) rfl (hb hby at_98) rfl (teq (by decide : (1 : Int32) = (1 : Int32))).1 (by decide) (by decide) ?_
    show Steps p.tables e below (T10.setTop (mkF m 105 #[.val (.int p1), .val (.int p2), .val (.int p3), .val (.int ss), .val (.int (1 : Int32)), .val (.ref ad1), .val (.ref ad2), .val (.ref ad3), .unset, .unset] [(.int (1 : Int32)), (.ref ad3)])) _
    refine XS.iconst X10.here hx rfl (hb hby at_105) ?_
    show Steps p.tables e below (T10.setTop (mkF m 106 #[.val (.int p1), .val (.int p2), .val (.int p3), .val (.int ss), .val (.int (1 : Int32)), .val (.ref ad1), .val (.ref ad2), .val (.ref ad3), .unset, .unset] [(.int (0 : Int32)), (.int (1 : Int32)), (.ref ad3)])) _
    refine st11 _ ?_
    show Steps p.tables e below (T11.setTop (mkF m 107 #[.val (.int p1), .val (.int p2), .val (.int p3), .val (.int ss), .val (.int (1 : Int32)), .val (.ref ad1), .val (.ref ad2), .val (.ref ad3), .unset, .unset] [])) _
    refine XS.aload X11.here hx rfl (hb hby at_107) rfl rfl ?_
    refine XS.iconst X11.here hx rfl (hb hby at_109) ?_
    refine XS.iload X11.here hx rfl (hb hby at_110) rfl ?_
    refine XS.iconst X11.here hx rfl (hb hby at_112) ?_
    show Steps p.tables e below (T11.setTop (mkF m 113 #[.val (.int p1), .val (.int p2), .val (.int p3), .val (.int ss), .val (.int (1 : Int32)), .val (.ref ad1), .val (.ref ad2), .val (.ref ad3), .unset, .unset] [(.int (2 : Int32)), (.int (1 : Int32)), (.int (2 : Int32)), (.ref ad3)])) _
    refine XS.icmpNo X11.here hx rfl (hb hby at_113) rfl (feq (by decide : ¬ ((1 : Int32) = (2 : Int32)))).1 ?_
    show Steps p.tables e below (T11.setTop (mkF m 116 #[.val (.int p1), .val (.int p2), .val (.int p3), .val (.int ss), .val (.int (1 : Int32)), .val (.ref ad1), .val (.ref ad2), .val (.ref ad3), .unset, .unset] [(.int (2 : Int32)), (.ref ad3)])) _
    refine XS.iconst X11.here hx rfl (hb hby at_116) ?_
    refine XS.goto X11.here hx rfl (pc0 := 117) (pc' := 121) rfl (hb hby at_117) (by decide) (by decide) ?_
    show Steps p.tables e below (T11.setTop (mkF m 121 #[.val (.int p1), .val (.int p2), .val (.int p3), .val (.int ss), .val (.int (1 : Int32)), .val (.ref ad1), .val (.ref ad2), .val (.ref ad3), .unset, .unset] [(.int (1 : Int32)), (.int (2 : Int32)), (.ref ad3)])) _
    refine st12 _ ?_
    show Steps p.tables e below (T12.setTop (mkF m 122 #[.val (.int p1), .val (.int p2), .val (.int p3), .val (.int ss), .val (.int (1 : Int32)), .val (.ref ad1), .val (.ref ad2), .val (.ref ad3), .unset, .unset] [])) _
    refine st13 _ ?_
    show Steps p.tables e below (T13.setTop (mkF m 125 #[.val (.int p1), .val (.int p2), .val (.int p3), .val (.int ss), .val (.int (1 : Int32)), .val (.ref ad1), .val (.ref ad2), .val (.ref ad3), .unset, .unset] [(.ref ad13)])) _
    refine XS.dup X13.here hx rfl (hb hby at_125) rfl rfl ?_
    refine XS.iconst X13.here hx rfl (hb hby at_126) ?_
    refine XS.iconst X13.here hx rfl (hb hby at_127) ?_
    show Steps p.tables e below (T13.setTop (mkF m 128 #[.val (.int p1), .val (.int p2), .val (.int p3), .val (.int ss), .val (.int (1 : Int32)), .val (.ref ad1), .val (.ref ad2), .val (.ref ad3), .unset, .unset] [(.int (3 : Int32)), (.int (2 : Int32)), (.ref ad13), (.ref ad13)])) _
    refine st14.trans ?_
    show Steps p.tables e below (T14.setTop (mkF m 131 #[.val (.int p1), .val (.int p2), .val (.int p3), .val (.int ss), .val (.int (1 : Int32)), .val (.ref ad1), .val (.ref ad2), .val (.ref ad3), .unset, .unset] [(.ref ad13)])) _
    refine XS.astore X14.here hx rfl (hb hby at_131) rfl rfl (l' := #[.val (.int p1), .val (.int p2), .val (.int p3), .val (.int ss), .val (.int (1 : Int32)), .val (.ref ad1), .val (.ref ad2), .val (.ref ad3), .val (.ref ad13), .unset]) rfl ?_
    refine XS.aload X14.here hx rfl (hb hby at_133) rfl rfl ?_
    refine XS.aload X14.here hx rfl (hb hby at_135) rfl rfl ?_
    refine XS.iconst X14.here hx rfl (hb hby at_137) ?_
    show Steps p.tables e below (T14.setTop (mkF m 138 #[.val (.int p1), .val (.int p2), .val (.int p3), .val (.int ss), .val (.int (1 : Int32)), .val (.ref ad1), .val (.ref ad2), .val (.ref ad3), .val (.ref ad13), .unset] [(.int (0 : Int32)), (.ref ad1), (.ref ad13)])) _
    refine own_ld X14 hx hZ rfl A_ad1_14 (by decide) (by decide) (g := (mkF m 138 #[.val (.int p1), .val (.int p2), .val (.int p3), .val (.int ss), .val (.int (1 : Int32)), .val (.ref ad1), .val (.ref ad2), .val (.ref ad3), .val (.ref ad13), .unset] [(.int (0 : Int32)), (.ref ad1), (.ref ad13)])) rfl rfl (hb hby at_138) _ ?_
    show Steps p.tables e below (T14.setTop (mkF m 139 #[.val (.int p1), .val (.int p2), .val (.int p3), .val (.int ss), .val (.int (1 : Int32)), .val (.ref ad1), .val (.ref ad2), .val (.ref ad3), .val (.ref ad13), .unset] [(.int u0), (.ref ad13)])) _
    refine XS.aload X14.here hx rfl (hb hby at_139) rfl rfl ?_
    refine XS.iconst X14.here hx rfl (hb hby at_141) ?_
    show Steps p.tables e below (T14.setTop (mkF m 142 #[.val (.int p1), .val (.int p2), .val (.int p3), .val (.int ss), .val (.int (1 : Int32)), .val (.ref ad1), .val (.ref ad2), .val (.ref ad3), .val (.ref ad13), .unset] [(.int (0 : Int32)), (.ref ad2), (.int u0), (.ref ad13)])) _
    refine own_ld X14 hx hZ rfl A_ad2_14 (by decide) (by decide) (g := (mkF m 142 #[.val (.int p1), .val (.int p2), .val (.int p3), .val (.int ss), .val (.int (1 : Int32)), .val (.ref ad1), .val (.ref ad2), .val (.ref ad3), .val (.ref ad13), .unset] [(.int (0 : Int32)), (.ref ad2), (.int u0), (.ref ad13)])) rfl rfl (hb hby at_142) _ ?_
    show Steps p.tables e below (T14.setTop (mkF m 143 #[.val (.int p1), .val (.int p2), .val (.int p3), .val (.int ss), .val (.int (1 : Int32)), .val (.ref ad1), .val (.ref ad2), .val (.ref ad3), .val (.ref ad13), .unset] [(.int ss), (.int u0), (.ref ad13)])) _
    refine st15.trans ?_
    show Steps p.tables e below (T15.setTop (mkF m 146 #[.val (.int p1), .val (.int p2), .val (.int p3), .val (.int ss), .val (.int (1 : Int32)), .val (.ref ad1), .val (.ref ad2), .val (.ref ad3), .val (.ref ad13), .unset] [])) _
    refine XS.aload X15.here hx rfl (hb hby at_146) rfl rfl ?_
    refine XS.aload X15.here hx rfl (hb hby at_148) rfl rfl ?_
    refine XS.iconst X15.here hx rfl (hb hby at_150) ?_
    show Steps p.tables e below (T15.setTop (mkF m 151 #[.val (.int p1), .val (.int p2), .val (.int p3), .val (.int ss), .val (.int (1 : Int32)), .val (.ref ad1), .val (.ref ad2), .val (.ref ad3), .val (.ref ad13), .unset] [(.int (1 : Int32)), (.ref ad1), (.ref ad13)])) _
    refine own_ld X15 hx hZ rfl A_ad1_15 (by decide) (by decide) (g := (mkF m 151 #[.val (.int p1), .val (.int p2), .val (.int p3), .val (.int ss), .val (.int (1 : Int32)), .val (.ref ad1), .val (.ref ad2), .val (.ref ad3), .val (.ref ad13), .unset] [(.int (1 : Int32)), (.ref ad1), (.ref ad13)])) rfl rfl (hb hby at_151) _ ?_
    show Steps p.tables e below (T15.setTop (mkF m 152 #[.val (.int p1), .val (.int p2), .val (.int p3), .val (.int ss), .val (.int (1 : Int32)), .val (.ref ad1), .val (.ref ad2), .val (.ref ad3), .val (.ref ad13), .unset] [(.int u1), (.ref ad13)])) _
    refine XS.aload X15.here hx rfl (hb hby at_152) rfl rfl ?_
    refine XS.iconst X15.here hx rfl (hb hby at_154) ?_
    show Steps p.tables e below (T15.setTop (mkF m 155 #[.val (.int p1), .val (.int p2), .val (.int p3), .val (.int ss), .val (.int (1 : Int32)), .val (.ref ad1), .val (.ref ad2), .val (.ref ad3), .val (.ref ad13), .unset] [(.int (1 : Int32)), (.ref ad2), (.int u1), (.ref ad13)])) _
    refine own_ld X15 hx hZ rfl A_ad2_15 (by decide) (by decide) (g := (mkF m 155 #[.val (.int p1), .val (.int p2), .val (.int p3), .val (.int ss), .val (.int (1 : Int32)), .val (.ref ad1), .val (.ref ad2), .val (.ref ad3), .val (.ref ad13), .unset] [(.int (1 : Int32)), (.ref ad2), (.int u1), (.ref ad13)])) rfl rfl (hb hby at_155) _ ?_
    show Steps p.tables e below (T15.setTop (mkF m 156 #[.val (.int p1), .val (.int p2), .val (.int p3), .val (.int ss), .val (.int (1 : Int32)), .val (.ref ad1), .val (.ref ad2), .val (.ref ad3), .val (.ref ad13), .unset] [(.int v1), (.int u1), (.ref ad13)])) _
    refine st16.trans ?_
    show Steps p.tables e below (T16.setTop (mkF m 159 #[.val (.int p1), .val (.int p2), .val (.int p3), .val (.int ss), .val (.int (1 : Int32)), .val (.ref ad1), .val (.ref ad2), .val (.ref ad3), .val (.ref ad13), .unset] [])) _
    refine XS.aload X16.here hx rfl (hb hby at_159) rfl rfl ?_
    refine XS.aload X16.here hx rfl (hb hby at_161) rfl rfl ?_
    refine XS.iconst X16.here hx rfl (hb hby at_163) ?_
    show Steps p.tables e below (T16.setTop (mkF m 164 #[.val (.int p1), .val (.int p2), .val (.int p3), .val (.int ss), .val (.int (1 : Int32)), .val (.ref ad1), .val (.ref ad2), .val (.ref ad3), .val (.ref ad13), .unset] [(.int (2 : Int32)), (.ref ad1), (.ref ad13)])) _
    refine own_ld X16 hx hZ rfl A_ad1_16 (by decide) (by decide) (g := (mkF m 164 #[.val (.int p1), .val (.int p2), .val (.int p3), .val (.int ss), .val (.int (1 : Int32)), .val (.ref ad1), .val (.ref ad2), .val (.ref ad3), .val (.ref ad13), .unset] [(.int (2 : Int32)), (.ref ad1), (.ref ad13)])) rfl rfl (hb hby at_164) _ ?_
    show Steps p.tables e below (T16.setTop (mkF m 165 #[.val (.int p1), .val (.int p2), .val (.int p3), .val (.int ss), .val (.int (1 : Int32)), .val (.ref ad1), .val (.ref ad2), .val (.ref ad3), .val (.ref ad13), .unset] [(.int u2), (.ref ad13)])) _
    refine XS.aload X16.here hx rfl (hb hby at_165) rfl rfl ?_
    refine XS.iconst X16.here hx rfl (hb hby at_167) ?_
    show Steps p.tables e below (T16.setTop (mkF m 168 #[.val (.int p1), .val (.int p2), .val (.int p3), .val (.int ss), .val (.int (1 : Int32)), .val (.ref ad1), .val (.ref ad2), .val (.ref ad3), .val (.ref ad13), .unset] [(.int (2 : Int32)), (.ref ad2), (.int u2), (.ref ad13)])) _
    refine own_ld X16 hx hZ rfl A_ad2_16 (by decide) (by decide) (g := (mkF m 168 #[.val (.int p1), .val (.int p2), .val (.int p3), .val (.int ss), .val (.int (1 : Int32)), .val (.ref ad1), .val (.ref ad2), .val (.ref ad3), .val (.ref ad13), .unset] [(.int (2 : Int32)), (.ref ad2), (.int u2), (.ref ad13)])) rfl rfl (hb hby at_168) _ ?_
    show Steps p.tables e below (T16.setTop (mkF m 169 #[.val (.int p1), .val (.int p2), .val (.int p3), .val (.int ss), .val (.int (1 : Int32)), .val (.ref ad1), .val (.ref ad2), .val (.ref ad3), .val (.ref ad13), .unset] [(.int v2), (.int u2), (.ref ad13)])) _
    refine st17.trans ?_
    show Steps p.tables e below (T17.setTop (mkF m 172 #[.val (.int p1), .val (.int p2), .val (.int p3), .val (.int ss), .val (.int (1 : Int32)), .val (.ref ad1), .val (.ref ad2), .val (.ref ad3), .val (.ref ad13), .unset] [])) _
    refine XS.iload X17.here hx rfl (hb hby at_172) rfl ?_
    refine XS.iconst X17.here hx rfl (hb hby at_174) ?_
    show Steps p.tables e below (T17.setTop (mkF m 175 #[.val (.int p1), .val (.int p2), .val (.int p3), .val (.int ss), .val (.int (1 : Int32)), .val (.ref ad1), .val (.ref ad2), .val (.ref ad3), .val (.ref ad13), .unset] [(.int (3 : Int32)), (.int (1 : Int32))])) _
    refine XS.icmpNo X17.here hx rfl (hb hby at_175) rfl (tlt (by decide : (1 : Int32) < (3 : Int32))).2.1 ?_
    show Steps p.tables e below (T17.setTop (mkF m 178 #[.val (.int p1), .val (.int p2), .val (.int p3), .val (.int ss), .val (.int (1 : Int32)), .val (.ref ad1), .val (.ref ad2), .val (.ref ad3), .val (.ref ad13), .unset] [])) _
    refine XS.aload X17.here hx rfl (hb hby at_178) rfl rfl ?_
    refine XS.aload X17.here hx rfl (hb hby at_180) rfl rfl ?_
    refine XS.iload X17.here hx rfl (hb hby at_182) rfl ?_
    show Steps p.tables e below (T17.setTop (mkF m 184 #[.val (.int p1), .val (.int p2), .val (.int p3), .val (.int ss), .val (.int (1 : Int32)), .val (.ref ad1), .val (.ref ad2), .val (.ref ad3), .val (.ref ad13), .unset] [(.int (1 : Int32)), (.ref ad1), (.ref ad13)])) _
    refine own_ld X17 hx hZ rfl A_ad1_17 (by decide) (by decide) (g := (mkF m 184 #[.val (.int p1), .val (.int p2), .val (.int p3), .val (.int ss), .val (.int (1 : Int32)), .val (.ref ad1), .val (.ref ad2), .val (.ref ad3), .val (.ref ad13), .unset] [(.int (1 : Int32)), (.ref ad1), (.ref ad13)])) rfl rfl (hb hby at_184) _ ?_
    show Steps p.tables e below (T17.setTop (mkF m 185 #[.val (.int p1), .val (.int p2), .val (.int p3), .val (.int ss), .val (.int (1 : Int32)), .val (.ref ad1), .val (.ref ad2), .val (.ref ad3), .val (.ref ad13), .unset] [(.int u1), (.ref ad13)])) _
    refine XS.aload X17.here hx rfl (hb hby at_185) rfl rfl ?_
    refine XS.iload X17.here hx rfl (hb hby at_187) rfl ?_
    show Steps p.tables e below (T17.setTop (mkF m 189 #[.val (.int p1), .val (.int p2), .val (.int p3), .val (.int ss), .val (.int (1 : Int32)), .val (.ref ad1), .val (.ref ad2), .val (.ref ad3), .val (.ref ad13), .unset] [(.int (1 : Int32)), (.ref ad2), (.int u1), (.ref ad13)])) _
    refine own_ld X17 hx hZ rfl A_ad2_17 (by decide) (by decide) (g := (mkF m 189 #[.val (.int p1), .val (.int p2), .val (.int p3), .val (.int ss), .val (.int (1 : Int32)), .val (.ref ad1), .val (.ref ad2), .val (.ref ad3), .val (.ref ad13), .unset] [(.int (1 : Int32)), (.ref ad2), (.int u1), (.ref ad13)])) rfl rfl (hb hby at_189) _ ?_
    show Steps p.tables e below (T17.setTop (mkF m 190 #[.val (.int p1), .val (.int p2), .val (.int p3), .val (.int ss), .val (.int (1 : Int32)), .val (.ref ad1), .val (.ref ad2), .val (.ref ad3), .val (.ref ad13), .unset] [(.int v1), (.int u1), (.ref ad13)])) _
    refine st18.trans ?_
    show Steps p.tables e below (T18.setTop (mkF m 193 #[.val (.int p1), .val (.int p2), .val (.int p3), .val (.int ss), .val (.int (1 : Int32)), .val (.ref ad1), .val (.ref ad2), .val (.ref ad3), .val (.ref ad13), .unset] [])) _
    refine XS.iconst X18.here hx rfl (hb hby at_193) ?_
    refine XS.istore X18.here hx rfl (hb hby at_194) rfl (l' := #[.val (.int p1), .val (.int p2), .val (.int p3), .val (.int ss), .val (.int (1 : Int32)), .val (.ref ad1), .val (.ref ad2), .val (.ref ad3), .val (.ref ad13), .val (.int (1 : Int32))]) rfl ?_
    refine XS.iload X18.here hx rfl (hb hby at_196) rfl ?_
    show Steps p.tables e below (T18.setTop (mkF m 198 #[.val (.int p1), .val (.int p2), .val (.int p3), .val (.int ss), .val (.int (1 : Int32)), .val (.ref ad1), .val (.ref ad2), .val (.ref ad3), .val (.ref ad13), .val (.int (1 : Int32))] [(.int (1 : Int32))])) _
    refine XS.ifNo X18.here hx rfl (hb hby at_198) rfl ((if0 _ _).trans (feq (by decide : ¬ ((1 : Int32) = (0 : Int32)))).1) ?_
    show Steps p.tables e below (T18.setTop (mkF m 201 #[.val (.int p1), .val (.int p2), .val (.int p3), .val (.int ss), .val (.int (1 : Int32)), .val (.ref ad1), .val (.ref ad2), .val (.ref ad3), .val (.ref ad13), .val (.int (1 : Int32))] [])) _
    refine XS.aload X18.here hx rfl (hb hby at_201) rfl rfl ?_
    refine XS.iconst X18.here hx rfl (hb hby at_203) ?_
    show Steps p.tables e below (T18.setTop (mkF m 204 #[.val (.int p1), .val (.int p2), .val (.int p3), .val (.int ss), .val (.int (1 : Int32)), .val (.ref ad1), .val (.ref ad2), .val (.ref ad3), .val (.ref ad13), .val (.int (1 : Int32))] [(.int (0 : Int32)), (.ref ad13)])) _
    refine st19.trans ?_
    show Steps p.tables e below (T19.setTop (mkF m 207 #[.val (.int p1), .val (.int p2), .val (.int p3), .val (.int ss), .val (.int (1 : Int32)), .val (.ref ad1), .val (.ref ad2), .val (.ref ad3), .val (.ref ad13), .val (.int (1 : Int32))] [(.int ((own_f16 u0 u1 u2 ss v1 v2) (0 : Int32)))])) _
    refine XS.aload X19.here hx rfl (hb hby at_207) rfl rfl ?_
    refine XS.aload X19.here hx rfl (hb hby at_209) rfl rfl ?_
    refine XS.aload X19.here hx rfl (hb hby at_211) rfl rfl ?_
    refine XS.iconst X19.here hx rfl (hb hby at_213) ?_
    refine XS.iconst X19.here hx rfl (hb hby at_214) ?_
    show Steps p.tables e below (T19.setTop (mkF m 215 #[.val (.int p1), .val (.int p2), .val (.int p3), .val (.int ss), .val (.int (1 : Int32)), .val (.ref ad1), .val (.ref ad2), .val (.ref ad3), .val (.ref ad13), .val (.int (1 : Int32))] [(.int (3 : Int32)), (.int (0 : Int32)), (.ref ad3), (.ref ad1), (.ref ad2), (.int ((own_f16 u0 u1 u2 ss v1 v2) (0 : Int32)))])) _
    refine st20 _ ?_
    show Steps p.tables e below (T20.setTop (mkF m 218 #[.val (.int p1), .val (.int p2), .val (.int p3), .val (.int ss), .val (.int (1 : Int32)), .val (.ref ad1), .val (.ref ad2), .val (.ref ad3), .val (.ref ad13), .val (.int (1 : Int32))] [(.int (own_last (own_upd (own_upd (own_upd own_zero (0 : Int32) u0) (1 : Int32) u1) (2 : Int32) u2) (own_upd (own_upd (own_upd own_zero (0 : Int32) (1 : Int32)) (1 : Int32) (0 : Int32)) (2 : Int32) (1 : Int32)) (0 : Int32) (3 : Int32))), (.ref ad2), (.int ((own_f16 u0 u1 u2 ss v1 v2) (0 : Int32)))])) _
    refine st21 _ ?_
    show Steps p.tables e below (T21.setTop (mkF m 221 #[.val (.int p1), .val (.int p2), .val (.int p3), .val (.int ss), .val (.int (1 : Int32)), .val (.ref ad1), .val (.ref ad2), .val (.ref ad3), .val (.ref ad13), .val (.int (1 : Int32))] [(.int (own_el (own_upd (own_upd (own_upd own_zero (0 : Int32) ss) (1 : Int32) v1) (2 : Int32) v2) (own_last (own_upd (own_upd (own_upd own_zero (0 : Int32) u0) (1 : Int32) u1) (2 : Int32) u2) (own_upd (own_upd (own_upd own_zero (0 : Int32) (1 : Int32)) (1 : Int32) (0 : Int32)) (2 : Int32) (1 : Int32)) (0 : Int32) (3 : Int32)))), (.int ((own_f16 u0 u1 u2 ss v1 v2) (0 : Int32)))])) _
    refine XS.icmpNo X21.here hx rfl (hb hby at_221) rfl (teq (show ((own_f16 u0 u1 u2 ss v1 v2) (0 : Int32)) = (own_el (own_upd (own_upd (own_upd own_zero (0 : Int32) ss) (1 : Int32) v1) (2 : Int32) v2) (own_last (own_upd (own_upd (own_upd own_zero (0 : Int32) u0) (1 : Int32) u1) (2 : Int32) u2) (own_upd (own_upd (own_upd own_zero (0 : Int32) (1 : Int32)) (1 : Int32) (0 : Int32)) (2 : Int32) (1 : Int32)) (0 : Int32) (3 : Int32))) from (own_k25 u0 u1 u2 ss v1 v2 c_u0 c_u1 c_u2 c_s hv1 hv2))).2 ?_
    show Steps p.tables e below (T21.setTop (mkF m 224 #[.val (.int p1), .val (.int p2), .val (.int p3), .val (.int ss), .val (.int (1 : Int32)), .val (.ref ad1), .val (.ref ad2), .val (.ref ad3), .val (.ref ad13), .val (.int (1 : Int32))] [])) _
    refine XS.iconst X21.here hx rfl (hb hby at_224) ?_
    refine XS.goto X21.here hx rfl (pc0 := 225) (pc' := 229) rfl (hb hby at_225) (by decide) (by decide) ?_
    refine XS.istore X21.here hx rfl (hb hby at_229) rfl (l' := #[.val (.int p1), .val (.int p2), .val (.int p3), .val (.int ss), .val (.int (1 : Int32)), .val (.ref ad1), .val (.ref ad2), .val (.ref ad3), .val (.ref ad13), .val (.int (1 : Int32))]) rfl ?_
    refine XS.iload X21.here hx rfl (hb hby at_231) rfl ?_
    show Steps p.tables e below (T21.setTop (mkF m 233 #[.val (.int p1), .val (.int p2), .val (.int p3), .val (.int ss), .val (.int (1 : Int32)), .val (.ref ad1), .val (.ref ad2), .val (.ref ad3), .val (.ref ad13), .val (.int (1 : Int32))] [(.int (1 : Int32))])) _
    refine XS.ifNo X21.here hx rfl (hb hby at_233) rfl ((if0 _ _).trans (feq (by decide : ¬ ((1 : Int32) = (0 : Int32)))).1) ?_
    show Steps p.tables e below (T21.setTop (mkF m 236 #[.val (.int p1), .val (.int p2), .val (.int p3), .val (.int ss), .val (.int (1 : Int32)), .val (.ref ad1), .val (.ref ad2), .val (.ref ad3), .val (.ref ad13), .val (.int (1 : Int32))] [])) _
    refine XS.aload X21.here hx rfl (hb hby at_236) rfl rfl ?_
    refine XS.iconst X21.here hx rfl (hb hby at_238) ?_
    show Steps p.tables e below (T21.setTop (mkF m 239 #[.val (.int p1), .val (.int p2), .val (.int p3), .val (.int ss), .val (.int (1 : Int32)), .val (.ref ad1), .val (.ref ad2), .val (.ref ad3), .val (.ref ad13), .val (.int (1 : Int32))] [(.int (1 : Int32)), (.ref ad13)])) _
    refine st22.trans ?_
    show Steps p.tables e below (T22.setTop (mkF m 242 #[.val (.int p1), .val (.int p2), .val (.int p3), .val (.int ss), .val (.int (1 : Int32)), .val (.ref ad1), .val (.ref ad2), .val (.ref ad3), .val (.ref ad13), .val (.int (1 : Int32))] [(.int ((own_f16 u0 u1 u2 ss v1 v2) (1 : Int32)))])) _
    refine XS.aload X22.here hx rfl (hb hby at_242) rfl rfl ?_
    refine XS.aload X22.here hx rfl (hb hby at_244) rfl rfl ?_
    refine XS.aload X22.here hx rfl (hb hby at_246) rfl rfl ?_
    refine XS.iconst X22.here hx rfl (hb hby at_248) ?_
    refine XS.iconst X22.here hx rfl (hb hby at_249) ?_
    show Steps p.tables e below (T22.setTop (mkF m 250 #[.val (.int p1), .val (.int p2), .val (.int p3), .val (.int ss), .val (.int (1 : Int32)), .val (.ref ad1), .val (.ref ad2), .val (.ref ad3), .val (.ref ad13), .val (.int (1 : Int32))] [(.int (3 : Int32)), (.int (1 : Int32)), (.ref ad3), (.ref ad1), (.ref ad2), (.int ((own_f16 u0 u1 u2 ss v1 v2) (1 : Int32)))])) _
    refine st23 _ ?_
    show Steps p.tables e below (T23.setTop (mkF m 253 #[.val (.int p1), .val (.int p2), .val (.int p3), .val (.int ss), .val (.int (1 : Int32)), .val (.ref ad1), .val (.ref ad2), .val (.ref ad3), .val (.ref ad13), .val (.int (1 : Int32))] [(.int (own_last (own_upd (own_upd (own_upd own_zero (0 : Int32) u0) (1 : Int32) u1) (2 : Int32) u2) (own_upd (own_upd (own_upd own_zero (0 : Int32) (1 : Int32)) (1 : Int32) (0 : Int32)) (2 : Int32) (1 : Int32)) (1 : Int32) (3 : Int32))), (.ref ad2), (.int ((own_f16 u0 u1 u2 ss v1 v2) (1 : Int32)))])) _
    refine st24 _ ?_
    show Steps p.tables e below (T24.setTop (mkF m 256 #[.val (.int p1), .val (.int p2), .val (.int p3), .val (.int ss), .val (.int (1 : Int32)), .val (.ref ad1), .val (.ref ad2), .val (.ref ad3), .val (.ref ad13), .val (.int (1 : Int32))] [(.int (own_el (own_upd (own_upd (own_upd own_zero (0 : Int32) ss) (1 : Int32) v1) (2 : Int32) v2) (own_last (own_upd (own_upd (own_upd own_zero (0 : Int32) u0) (1 : Int32) u1) (2 : Int32) u2) (own_upd (own_upd (own_upd own_zero (0 : Int32) (1 : Int32)) (1 : Int32) (0 : Int32)) (2 : Int32) (1 : Int32)) (1 : Int32) (3 : Int32)))), (.int ((own_f16 u0 u1 u2 ss v1 v2) (1 : Int32)))])) _
    refine XS.icmpNo X24.here hx rfl (hb hby at_256) rfl (teq (show ((own_f16 u0 u1 u2 ss v1 v2) (1 : Int32)) = (own_el (own_upd (own_upd (own_upd own_zero (0 : Int32) ss) (1 : Int32) v1) (2 : Int32) v2) (own_last (own_upd (own_upd (own_upd own_zero (0 : Int32) u0) (1 : Int32) u1) (2 : Int32) u2) (own_upd (own_upd (own_upd own_zero (0 : Int32) (1 : Int32)) (1 : Int32) (0 : Int32)) (2 : Int32) (1 : Int32)) (1 : Int32) (3 : Int32))) from (own_k26 u0 u1 u2 ss v1 v2 c_u0 c_u1 c_u2 c_s hv1 hv2))).2 ?_
    show Steps p.tables e below (T24.setTop (mkF m 259 #[.val (.int p1), .val (.int p2), .val (.int p3), .val (.int ss), .val (.int (1 : Int32)), .val (.ref ad1), .val (.ref ad2), .val (.ref ad3), .val (.ref ad13), .val (.int (1 : Int32))] [])) _
    refine XS.iconst X24.here hx rfl (hb hby at_259) ?_
    refine XS.goto X24.here hx rfl (pc0 := 260) (pc' := 264) rfl (hb hby at_260) (by decide) (by decide) ?_
    refine XS.istore X24.here hx rfl (hb hby at_264) rfl (l' := #[.val (.int p1), .val (.int p2), .val (.int p3), .val (.int ss), .val (.int (1 : Int32)), .val (.ref ad1), .val (.ref ad2), .val (.ref ad3), .val (.ref ad13), .val (.int (1 : Int32))]) rfl ?_
    refine XS.iload X24.here hx rfl (hb hby at_266) rfl ?_
    show Steps p.tables e below (T24.setTop (mkF m 268 #[.val (.int p1), .val (.int p2), .val (.int p3), .val (.int ss), .val (.int (1 : Int32)), .val (.ref ad1), .val (.ref ad2), .val (.ref ad3), .val (.ref ad13), .val (.int (1 : Int32))] [(.int (1 : Int32))])) _
    refine XS.ifNo X24.here hx rfl (hb hby at_268) rfl ((if0 _ _).trans (feq (by decide : ¬ ((1 : Int32) = (0 : Int32)))).1) ?_
    show Steps p.tables e below (T24.setTop (mkF m 271 #[.val (.int p1), .val (.int p2), .val (.int p3), .val (.int ss), .val (.int (1 : Int32)), .val (.ref ad1), .val (.ref ad2), .val (.ref ad3), .val (.ref ad13), .val (.int (1 : Int32))] [])) _
    refine XS.aload X24.here hx rfl (hb hby at_271) rfl rfl ?_
    refine XS.iconst X24.here hx rfl (hb hby at_273) ?_
    show Steps p.tables e below (T24.setTop (mkF m 274 #[.val (.int p1), .val (.int p2), .val (.int p3), .val (.int ss), .val (.int (1 : Int32)), .val (.ref ad1), .val (.ref ad2), .val (.ref ad3), .val (.ref ad13), .val (.int (1 : Int32))] [(.int (0 : Int32)), (.ref ad13)])) _
    refine st25.trans ?_
    show Steps p.tables e below (T25.setTop (mkF m 277 #[.val (.int p1), .val (.int p2), .val (.int p3), .val (.int ss), .val (.int (1 : Int32)), .val (.ref ad1), .val (.ref ad2), .val (.ref ad3), .val (.ref ad13), .val (.int (1 : Int32))] [(.int ((own_f17 u0 u1 u2 ss v1 v2) (0 : Int32)))])) _
    refine XS.aload X25.here hx rfl (hb hby at_277) rfl rfl ?_
    refine XS.aload X25.here hx rfl (hb hby at_279) rfl rfl ?_
    refine XS.iconst X25.here hx rfl (hb hby at_281) ?_
    show Steps p.tables e below (T25.setTop (mkF m 282 #[.val (.int p1), .val (.int p2), .val (.int p3), .val (.int ss), .val (.int (1 : Int32)), .val (.ref ad1), .val (.ref ad2), .val (.ref ad3), .val (.ref ad13), .val (.int (1 : Int32))] [(.int (0 : Int32)), (.ref ad3), (.ref ad1), (.int ((own_f17 u0 u1 u2 ss v1 v2) (0 : Int32)))])) _
    refine st26 _ ?_
    show Steps p.tables e below (T26.setTop (mkF m 285 #[.val (.int p1), .val (.int p2), .val (.int p3), .val (.int ss), .val (.int (1 : Int32)), .val (.ref ad1), .val (.ref ad2), .val (.ref ad3), .val (.ref ad13), .val (.int (1 : Int32))] [(.int (own_cnt (own_upd (own_upd (own_upd own_zero (0 : Int32) u0) (1 : Int32) u1) (2 : Int32) u2) (own_upd (own_upd (own_upd own_zero (0 : Int32) (1 : Int32)) (1 : Int32) (0 : Int32)) (2 : Int32) (1 : Int32)) (0 : Int32))), (.int ((own_f17 u0 u1 u2 ss v1 v2) (0 : Int32)))])) _
    refine XS.icmpNo X26.here hx rfl (hb hby at_285) rfl (teq (show ((own_f17 u0 u1 u2 ss v1 v2) (0 : Int32)) = (own_cnt (own_upd (own_upd (own_upd own_zero (0 : Int32) u0) (1 : Int32) u1) (2 : Int32) u2) (own_upd (own_upd (own_upd own_zero (0 : Int32) (1 : Int32)) (1 : Int32) (0 : Int32)) (2 : Int32) (1 : Int32)) (0 : Int32)) from (own_k27 u0 u1 u2 ss v1 v2 c_u0 c_u1 c_u2 c_s hv1 hv2))).2 ?_
    show Steps p.tables e below (T26.setTop (mkF m 288 #[.val (.int p1), .val (.int p2), .val (.int p3), .val (.int ss), .val (.int (1 : Int32)), .val (.ref ad1), .val (.ref ad2), .val (.ref ad3), .val (.ref ad13), .val (.int (1 : Int32))] [])) _
    refine XS.iconst X26.here hx rfl (hb hby at_288) ?_
    refine XS.goto X26.here hx rfl (pc0 := 289) (pc' := 293) rfl (hb hby at_289) (by decide) (by decide) ?_
    refine XS.istore X26.here hx rfl (hb hby at_293) rfl (l' := #[.val (.int p1), .val (.int p2), .val (.int p3), .val (.int ss), .val (.int (1 : Int32)), .val (.ref ad1), .val (.ref ad2), .val (.ref ad3), .val (.ref ad13), .val (.int (1 : Int32))]) rfl ?_
    refine XS.iload X26.here hx rfl (hb hby at_295) rfl ?_
    show Steps p.tables e below (T26.setTop (mkF m 297 #[.val (.int p1), .val (.int p2), .val (.int p3), .val (.int ss), .val (.int (1 : Int32)), .val (.ref ad1), .val (.ref ad2), .val (.ref ad3), .val (.ref ad13), .val (.int (1 : Int32))] [(.int (1 : Int32))])) _
    refine XS.ifNo X26.here hx rfl (hb hby at_297) rfl ((if0 _ _).trans (feq (by decide : ¬ ((1 : Int32) = (0 : Int32)))).1) ?_
    show Steps p.tables e below (T26.setTop (mkF m 300 #[.val (.int p1), .val (.int p2), .val (.int p3), .val (.int ss), .val (.int (1 : Int32)), .val (.ref ad1), .val (.ref ad2), .val (.ref ad3), .val (.ref ad13), .val (.int (1 : Int32))] [])) _
    refine XS.aload X26.here hx rfl (hb hby at_300) rfl rfl ?_
    refine XS.iconst X26.here hx rfl (hb hby at_302) ?_
    show Steps p.tables e below (T26.setTop (mkF m 303 #[.val (.int p1), .val (.int p2), .val (.int p3), .val (.int ss), .val (.int (1 : Int32)), .val (.ref ad1), .val (.ref ad2), .val (.ref ad3), .val (.ref ad13), .val (.int (1 : Int32))] [(.int (1 : Int32)), (.ref ad13)])) _
    refine st27.trans ?_
    show Steps p.tables e below (T27.setTop (mkF m 306 #[.val (.int p1), .val (.int p2), .val (.int p3), .val (.int ss), .val (.int (1 : Int32)), .val (.ref ad1), .val (.ref ad2), .val (.ref ad3), .val (.ref ad13), .val (.int (1 : Int32))] [(.int ((own_f17 u0 u1 u2 ss v1 v2) (1 : Int32)))])) _
    refine XS.aload X27.here hx rfl (hb hby at_306) rfl rfl ?_
    refine XS.aload X27.here hx rfl (hb hby at_308) rfl rfl ?_
    refine XS.iconst X27.here hx rfl (hb hby at_310) ?_
    show Steps p.tables e below (T27.setTop (mkF m 311 #[.val (.int p1), .val (.int p2), .val (.int p3), .val (.int ss), .val (.int (1 : Int32)), .val (.ref ad1), .val (.ref ad2), .val (.ref ad3), .val (.ref ad13), .val (.int (1 : Int32))] [(.int (1 : Int32)), (.ref ad3), (.ref ad1), (.int ((own_f17 u0 u1 u2 ss v1 v2) (1 : Int32)))])) _
    refine st28 _ ?_
    show Steps p.tables e below (T28.setTop (mkF m 314 #[.val (.int p1), .val (.int p2), .val (.int p3), .val (.int ss), .val (.int (1 : Int32)), .val (.ref ad1), .val (.ref ad2), .val (.ref ad3), .val (.ref ad13), .val (.int (1 : Int32))] [(.int (own_cnt (own_upd (own_upd (own_upd own_zero (0 : Int32) u0) (1 : Int32) u1) (2 : Int32) u2) (own_upd (own_upd (own_upd own_zero (0 : Int32) (1 : Int32)) (1 : Int32) (0 : Int32)) (2 : Int32) (1 : Int32)) (1 : Int32))), (.int ((own_f17 u0 u1 u2 ss v1 v2) (1 : Int32)))])) _
    refine XS.icmpNo X28.here hx rfl (hb hby at_314) rfl (teq (show ((own_f17 u0 u1 u2 ss v1 v2) (1 : Int32)) = (own_cnt (own_upd (own_upd (own_upd own_zero (0 : Int32) u0) (1 : Int32) u1) (2 : Int32) u2) (own_upd (own_upd (own_upd own_zero (0 : Int32) (1 : Int32)) (1 : Int32) (0 : Int32)) (2 : Int32) (1 : Int32)) (1 : Int32)) from (own_k28 u0 u1 u2 ss v1 v2 c_u0 c_u1 c_u2 c_s hv1 hv2))).2 ?_
    show Steps p.tables e below (T28.setTop (mkF m 317 #[.val (.int p1), .val (.int p2), .val (.int p3), .val (.int ss), .val (.int (1 : Int32)), .val (.ref ad1), .val (.ref ad2), .val (.ref ad3), .val (.ref ad13), .val (.int (1 : Int32))] [])) _
    refine XS.iconst X28.here hx rfl (hb hby at_317) ?_
    refine XS.goto X28.here hx rfl (pc0 := 318) (pc' := 322) rfl (hb hby at_318) (by decide) (by decide) ?_
    refine XS.istore X28.here hx rfl (hb hby at_322) rfl (l' := #[.val (.int p1), .val (.int p2), .val (.int p3), .val (.int ss), .val (.int (1 : Int32)), .val (.ref ad1), .val (.ref ad2), .val (.ref ad3), .val (.ref ad13), .val (.int (1 : Int32))]) rfl ?_
    refine XS.aload X28.here hx rfl (hb hby at_324) rfl rfl ?_
    refine XS.iconst X28.here hx rfl (hb hby at_326) ?_
    show Steps p.tables e below (T28.setTop (mkF m 327 #[.val (.int p1), .val (.int p2), .val (.int p3), .val (.int ss), .val (.int (1 : Int32)), .val (.ref ad1), .val (.ref ad2), .val (.ref ad3), .val (.ref ad13), .val (.int (1 : Int32))] [(.int (0 : Int32)), (.ref ad3)])) _
    refine own_ldz X28 hx hZ e28' A_ad3_18 (by decide) (by decide) (g := (mkF m 327 #[.val (.int p1), .val (.int p2), .val (.int p3), .val (.int ss), .val (.int (1 : Int32)), .val (.ref ad1), .val (.ref ad2), .val (.ref ad3), .val (.ref ad13), .val (.int (1 : Int32))] [(.int (0 : Int32)), (.ref ad3)])) rfl rfl (hb hby at_327) _ ?_
    show Steps p.tables e below (T28.setTop (mkF m 328 #[.val (.int p1), .val (.int p2), .val (.int p3), .val (.int ss), .val (.int (1 : Int32)), .val (.ref ad1), .val (.ref ad2), .val (.ref ad3), .val (.ref ad13), .val (.int (1 : Int32))] [(.int (1 : Int32))])) _
    refine XS.ifNo X28.here hx rfl (hb hby at_328) rfl ((if0 _ _).trans (feq (by decide : ¬ ((1 : Int32) = (0 : Int32)))).1) ?_
    show Steps p.tables e below (T28.setTop (mkF m 331 #[.val (.int p1), .val (.int p2), .val (.int p3), .val (.int ss), .val (.int (1 : Int32)), .val (.ref ad1), .val (.ref ad2), .val (.ref ad3), .val (.ref ad13), .val (.int (1 : Int32))] [])) _
    refine XS.iload X28.here hx rfl (hb hby at_331) rfl ?_
    show Steps p.tables e below (T28.setTop (mkF m 333 #[.val (.int p1), .val (.int p2), .val (.int p3), .val (.int ss), .val (.int (1 : Int32)), .val (.ref ad1), .val (.ref ad2), .val (.ref ad3), .val (.ref ad13), .val (.int (1 : Int32))] [(.int (1 : Int32))])) _
    refine XS.ifNo X28.here hx rfl (hb hby at_333) rfl ((if0 _ _).trans (feq (by decide : ¬ ((1 : Int32) = (0 : Int32)))).1) ?_
    show Steps p.tables e below (T28.setTop (mkF m 336 #[.val (.int p1), .val (.int p2), .val (.int p3), .val (.int ss), .val (.int (1 : Int32)), .val (.ref ad1), .val (.ref ad2), .val (.ref ad3), .val (.ref ad13), .val (.int (1 : Int32))] [])) _
    refine XS.aload X28.here hx rfl (hb hby at_336) rfl rfl ?_
    refine XS.aload X28.here hx rfl (hb hby at_338) rfl rfl ?_
    refine XS.iconst X28.here hx rfl (hb hby at_340) ?_
    show Steps p.tables e below (T28.setTop (mkF m 341 #[.val (.int p1), .val (.int p2), .val (.int p3), .val (.int ss), .val (.int (1 : Int32)), .val (.ref ad1), .val (.ref ad2), .val (.ref ad3), .val (.ref ad13), .val (.int (1 : Int32))] [(.int (0 : Int32)), (.ref ad2), (.ref ad13)])) _
    refine own_ld X28 hx hZ e28' A_ad2_18 (by decide) (by decide) (g := (mkF m 341 #[.val (.int p1), .val (.int p2), .val (.int p3), .val (.int ss), .val (.int (1 : Int32)), .val (.ref ad1), .val (.ref ad2), .val (.ref ad3), .val (.ref ad13), .val (.int (1 : Int32))] [(.int (0 : Int32)), (.ref ad2), (.ref ad13)])) rfl rfl (hb hby at_341) _ ?_
    show Steps p.tables e below (T28.setTop (mkF m 342 #[.val (.int p1), .val (.int p2), .val (.int p3), .val (.int ss), .val (.int (1 : Int32)), .val (.ref ad1), .val (.ref ad2), .val (.ref ad3), .val (.ref ad13), .val (.int (1 : Int32))] [(.int ss), (.ref ad13)])) _
    refine st29.trans ?_
    show Steps p.tables e below (T29.setTop (mkF m 345 #[.val (.int p1), .val (.int p2), .val (.int p3), .val (.int ss), .val (.int (1 : Int32)), .val (.ref ad1), .val (.ref ad2), .val (.ref ad3), .val (.ref ad13), .val (.int (1 : Int32))] [(.int ((own_f18 u0 u1 u2 ss v1 v2) ss))])) _
    refine XS.aload X29.here hx rfl (hb hby at_345) rfl rfl ?_
    refine XS.aload X29.here hx rfl (hb hby at_347) rfl rfl ?_
    refine XS.aload X29.here hx rfl (hb hby at_349) rfl rfl ?_
    refine XS.aload X29.here hx rfl (hb hby at_351) rfl rfl ?_
    refine XS.iconst X29.here hx rfl (hb hby at_353) ?_
    show Steps p.tables e below (T29.setTop (mkF m 354 #[.val (.int p1), .val (.int p2), .val (.int p3), .val (.int ss), .val (.int (1 : Int32)), .val (.ref ad1), .val (.ref ad2), .val (.ref ad3), .val (.ref ad13), .val (.int (1 : Int32))] [(.int (0 : Int32)), (.ref ad1), (.ref ad3), (.ref ad1), (.ref ad2), (.int ((own_f18 u0 u1 u2 ss v1 v2) ss))])) _
    refine own_ld X29 hx hZ e29' A_ad1_18 (by decide) (by decide) (g := (mkF m 354 #[.val (.int p1), .val (.int p2), .val (.int p3), .val (.int ss), .val (.int (1 : Int32)), .val (.ref ad1), .val (.ref ad2), .val (.ref ad3), .val (.ref ad13), .val (.int (1 : Int32))] [(.int (0 : Int32)), (.ref ad1), (.ref ad3), (.ref ad1), (.ref ad2), (.int ((own_f18 u0 u1 u2 ss v1 v2) ss))])) rfl rfl (hb hby at_354) _ ?_
    show Steps p.tables e below (T29.setTop (mkF m 355 #[.val (.int p1), .val (.int p2), .val (.int p3), .val (.int ss), .val (.int (1 : Int32)), .val (.ref ad1), .val (.ref ad2), .val (.ref ad3), .val (.ref ad13), .val (.int (1 : Int32))] [(.int u0), (.ref ad3), (.ref ad1), (.ref ad2), (.int ((own_f18 u0 u1 u2 ss v1 v2) ss))])) _
    refine XS.iconst X29.here hx rfl (hb hby at_355) ?_
    show Steps p.tables e below (T29.setTop (mkF m 356 #[.val (.int p1), .val (.int p2), .val (.int p3), .val (.int ss), .val (.int (1 : Int32)), .val (.ref ad1), .val (.ref ad2), .val (.ref ad3), .val (.ref ad13), .val (.int (1 : Int32))] [(.int (0 : Int32)), (.int u0), (.ref ad3), (.ref ad1), (.ref ad2), (.int ((own_f18 u0 u1 u2 ss v1 v2) ss))])) _
    refine st30 _ ?_
    show Steps p.tables e below (T30.setTop (mkF m 359 #[.val (.int p1), .val (.int p2), .val (.int p3), .val (.int ss), .val (.int (1 : Int32)), .val (.ref ad1), .val (.ref ad2), .val (.ref ad3), .val (.ref ad13), .val (.int (1 : Int32))] [(.int (own_last (own_upd (own_upd (own_upd own_zero (0 : Int32) u0) (1 : Int32) u1) (2 : Int32) u2) (own_upd (own_upd (own_upd own_zero (0 : Int32) (1 : Int32)) (1 : Int32) (0 : Int32)) (2 : Int32) (1 : Int32)) u0 (0 : Int32))), (.ref ad2), (.int ((own_f18 u0 u1 u2 ss v1 v2) ss))])) _
    refine st31 _ ?_
    show Steps p.tables e below (T31.setTop (mkF m 362 #[.val (.int p1), .val (.int p2), .val (.int p3), .val (.int ss), .val (.int (1 : Int32)), .val (.ref ad1), .val (.ref ad2), .val (.ref ad3), .val (.ref ad13), .val (.int (1 : Int32))] [(.int (own_el (own_upd (own_upd (own_upd own_zero (0 : Int32) ss) (1 : Int32) v1) (2 : Int32) v2) (own_last (own_upd (own_upd (own_upd own_zero (0 : Int32) u0) (1 : Int32) u1) (2 : Int32) u2) (own_upd (own_upd (own_upd own_zero (0 : Int32) (1 : Int32)) (1 : Int32) (0 : Int32)) (2 : Int32) (1 : Int32)) u0 (0 : Int32)))), (.int ((own_f18 u0 u1 u2 ss v1 v2) ss))])) _
    refine XS.icmpNo X31.here hx rfl (hb hby at_362) rfl (teq (show ((own_f18 u0 u1 u2 ss v1 v2) ss) = (own_el (own_upd (own_upd (own_upd own_zero (0 : Int32) ss) (1 : Int32) v1) (2 : Int32) v2) (own_last (own_upd (own_upd (own_upd own_zero (0 : Int32) u0) (1 : Int32) u1) (2 : Int32) u2) (own_upd (own_upd (own_upd own_zero (0 : Int32) (1 : Int32)) (1 : Int32) (0 : Int32)) (2 : Int32) (1 : Int32)) u0 (0 : Int32))) from (own_k29 u0 u1 u2 ss v1 v2 c_u0 c_u1 c_u2 c_s hv1 hv2))).2 ?_
    show Steps p.tables e below (T31.setTop (mkF m 365 #[.val (.int p1), .val (.int p2), .val (.int p3), .val (.int ss), .val (.int (1 : Int32)), .val (.ref ad1), .val (.ref ad2), .val (.ref ad3), .val (.ref ad13), .val (.int (1 : Int32))] [])) _
    refine XS.iconst X31.here hx rfl (hb hby at_365) ?_
    refine XS.goto X31.here hx rfl (pc0 := 366) (pc' := 370) rfl (hb hby at_366) (by decide) (by decide) ?_
    refine XS.istore X31.here hx rfl (hb hby at_370) rfl (l' := #[.val (.int p1), .val (.int p2), .val (.int p3), .val (.int ss), .val (.int (1 : Int32)), .val (.ref ad1), .val (.ref ad2), .val (.ref ad3), .val (.ref ad13), .val (.int (1 : Int32))]) rfl ?_
    refine XS.aload X31.here hx rfl (hb hby at_372) rfl rfl ?_
    refine XS.iconst X31.here hx rfl (hb hby at_374) ?_
    show Steps p.tables e below (T31.setTop (mkF m 375 #[.val (.int p1), .val (.int p2), .val (.int p3), .val (.int ss), .val (.int (1 : Int32)), .val (.ref ad1), .val (.ref ad2), .val (.ref ad3), .val (.ref ad13), .val (.int (1 : Int32))] [(.int (1 : Int32)), (.ref ad3)])) _
    refine own_ldz X31 hx hZ e31' A_ad3_18 (by decide) (by decide) (g := (mkF m 375 #[.val (.int p1), .val (.int p2), .val (.int p3), .val (.int ss), .val (.int (1 : Int32)), .val (.ref ad1), .val (.ref ad2), .val (.ref ad3), .val (.ref ad13), .val (.int (1 : Int32))] [(.int (1 : Int32)), (.ref ad3)])) rfl rfl (hb hby at_375) _ ?_
    show Steps p.tables e below (T31.setTop (mkF m 376 #[.val (.int p1), .val (.int p2), .val (.int p3), .val (.int ss), .val (.int (1 : Int32)), .val (.ref ad1), .val (.ref ad2), .val (.ref ad3), .val (.ref ad13), .val (.int (1 : Int32))] [(.int (0 : Int32))])) _
    refine XS.ifYes X31.here hx rfl (pc0 := 376) (pc' := 420) rfl (hb hby at_376) rfl ((if0 _ _).trans (teq (by decide : (0 : Int32) = (0 : Int32))).1) (by decide) (by decide) ?_
    show Steps p.tables e below (T31.setTop (mkF m 420 #[.val (.int p1), .val (.int p2), .val (.int p3), .val (.int ss), .val (.int (1 : Int32)), .val (.ref ad1), .val (.ref ad2), .val (.ref ad3), .val (.ref ad13), .val (.int (1 : Int32))] [])) _
    refine XS.aload X31.here hx rfl (hb hby at_420) rfl rfl ?_
    refine XS.iconst X31.here hx rfl (hb hby at_422) ?_
    show Steps p.tables e below (T31.setTop (mkF m 423 #[.val (.int p1), .val (.int p2), .val (.int p3), .val (.int ss), .val (.int (1 : Int32)), .val (.ref ad1), .val (.ref ad2), .val (.ref ad3), .val (.ref ad13), .val (.int (1 : Int32))] [(.int (2 : Int32)), (.ref ad3)])) _
    refine own_ldz X31 hx hZ e31' A_ad3_18 (by decide) (by decide) (g := (mkF m 423 #[.val (.int p1), .val (.int p2), .val (.int p3), .val (.int ss), .val (.int (1 : Int32)), .val (.ref ad1), .val (.ref ad2), .val (.ref ad3), .val (.ref ad13), .val (.int (1 : Int32))] [(.int (2 : Int32)), (.ref ad3)])) rfl rfl (hb hby at_423) _ ?_
    show Steps p.tables e below (T31.setTop (mkF m 424 #[.val (.int p1), .val (.int p2), .val (.int p3), .val (.int ss), .val (.int (1 : Int32)), .val (.ref ad1), .val (.ref ad2), .val (.ref ad3), .val (.ref ad13), .val (.int (1 : Int32))] [(.int (1 : Int32))])) _
    refine XS.ifNo X31.here hx rfl (hb hby at_424) rfl ((if0 _ _).trans (feq (by decide : ¬ ((1 : Int32) = (0 : Int32)))).1) ?_
    show Steps p.tables e below (T31.setTop (mkF m 427 #[.val (.int p1), .val (.int p2), .val (.int p3), .val (.int ss), .val (.int (1 : Int32)), .val (.ref ad1), .val (.ref ad2), .val (.ref ad3), .val (.ref ad13), .val (.int (1 : Int32))] [])) _
    refine XS.iload X31.here hx rfl (hb hby at_427) rfl ?_
    show Steps p.tables e below (T31.setTop (mkF m 429 #[.val (.int p1), .val (.int p2), .val (.int p3), .val (.int ss), .val (.int (1 : Int32)), .val (.ref ad1), .val (.ref ad2), .val (.ref ad3), .val (.ref ad13), .val (.int (1 : Int32))] [(.int (1 : Int32))])) _
    refine XS.ifNo X31.here hx rfl (hb hby at_429) rfl ((if0 _ _).trans (feq (by decide : ¬ ((1 : Int32) = (0 : Int32)))).1) ?_
    show Steps p.tables e below (T31.setTop (mkF m 432 #[.val (.int p1), .val (.int p2), .val (.int p3), .val (.int ss), .val (.int (1 : Int32)), .val (.ref ad1), .val (.ref ad2), .val (.ref ad3), .val (.ref ad13), .val (.int (1 : Int32))] [])) _
    refine XS.aload X31.here hx rfl (hb hby at_432) rfl rfl ?_
    refine XS.aload X31.here hx rfl (hb hby at_434) rfl rfl ?_
    refine XS.iconst X31.here hx rfl (hb hby at_436) ?_
    show Steps p.tables e below (T31.setTop (mkF m 437 #[.val (.int p1), .val (.int p2), .val (.int p3), .val (.int ss), .val (.int (1 : Int32)), .val (.ref ad1), .val (.ref ad2), .val (.ref ad3), .val (.ref ad13), .val (.int (1 : Int32))] [(.int (2 : Int32)), (.ref ad2), (.ref ad13)])) _
    refine own_ld X31 hx hZ e31' A_ad2_18 (by decide) (by decide) (g := (mkF m 437 #[.val (.int p1), .val (.int p2), .val (.int p3), .val (.int ss), .val (.int (1 : Int32)), .val (.ref ad1), .val (.ref ad2), .val (.ref ad3), .val (.ref ad13), .val (.int (1 : Int32))] [(.int (2 : Int32)), (.ref ad2), (.ref ad13)])) rfl rfl (hb hby at_437) _ ?_
    show Steps p.tables e below (T31.setTop (mkF m 438 #[.val (.int p1), .val (.int p2), .val (.int p3), .val (.int ss), .val (.int (1 : Int32)), .val (.ref ad1), .val (.ref ad2), .val (.ref ad3), .val (.ref ad13), .val (.int (1 : Int32))] [(.int v2), (.ref ad13)])) _
    refine st32.trans ?_
    show Steps p.tables e below (T32.setTop (mkF m 441 #[.val (.int p1), .val (.int p2), .val (.int p3), .val (.int ss), .val (.int (1 : Int32)), .val (.ref ad1), .val (.ref ad2), .val (.ref ad3), .val (.ref ad13), .val (.int (1 : Int32))] [(.int ((own_f18 u0 u1 u2 ss v1 v2) v2))])) _
    refine XS.aload X32.here hx rfl (hb hby at_441) rfl rfl ?_
    refine XS.aload X32.here hx rfl (hb hby at_443) rfl rfl ?_
    refine XS.aload X32.here hx rfl (hb hby at_445) rfl rfl ?_
    refine XS.aload X32.here hx rfl (hb hby at_447) rfl rfl ?_
    refine XS.iconst X32.here hx rfl (hb hby at_449) ?_
    show Steps p.tables e below (T32.setTop (mkF m 450 #[.val (.int p1), .val (.int p2), .val (.int p3), .val (.int ss), .val (.int (1 : Int32)), .val (.ref ad1), .val (.ref ad2), .val (.ref ad3), .val (.ref ad13), .val (.int (1 : Int32))] [(.int (2 : Int32)), (.ref ad1), (.ref ad3), (.ref ad1), (.ref ad2), (.int ((own_f18 u0 u1 u2 ss v1 v2) v2))])) _
    refine own_ld X32 hx hZ e32' A_ad1_18 (by decide) (by decide) (g := (mkF m 450 #[.val (.int p1), .val (.int p2), .val (.int p3), .val (.int ss), .val (.int (1 : Int32)), .val (.ref ad1), .val (.ref ad2), .val (.ref ad3), .val (.ref ad13), .val (.int (1 : Int32))] [(.int (2 : Int32)), (.ref ad1), (.ref ad3), (.ref ad1), (.ref ad2), (.int ((own_f18 u0 u1 u2 ss v1 v2) v2))])) rfl rfl (hb hby at_450) _ ?_
    show Steps p.tables e below (T32.setTop (mkF m 451 #[.val (.int p1), .val (.int p2), .val (.int p3), .val (.int ss), .val (.int (1 : Int32)), .val (.ref ad1), .val (.ref ad2), .val (.ref ad3), .val (.ref ad13), .val (.int (1 : Int32))] [(.int u2), (.ref ad3), (.ref ad1), (.ref ad2), (.int ((own_f18 u0 u1 u2 ss v1 v2) v2))])) _
    refine XS.iconst X32.here hx rfl (hb hby at_451) ?_
    show Steps p.tables e below (T32.setTop (mkF m 452 #[.val (.int p1), .val (.int p2), .val (.int p3), .val (.int ss), .val (.int (1 : Int32)), .val (.ref ad1), .val (.ref ad2), .val (.ref ad3), .val (.ref ad13), .val (.int (1 : Int32))] [(.int (2 : Int32)), (.int u2), (.ref ad3), (.ref ad1), (.ref ad2), (.int ((own_f18 u0 u1 u2 ss v1 v2) v2))])) _
    refine st33 _ ?_
    show Steps p.tables e below (T33.setTop (mkF m 455 #[.val (.int p1), .val (.int p2), .val (.int p3), .val (.int ss), .val (.int (1 : Int32)), .val (.ref ad1), .val (.ref ad2), .val (.ref ad3), .val (.ref ad13), .val (.int (1 : Int32))] [(.int (own_last (own_upd (own_upd (own_upd own_zero (0 : Int32) u0) (1 : Int32) u1) (2 : Int32) u2) (own_upd (own_upd (own_upd own_zero (0 : Int32) (1 : Int32)) (1 : Int32) (0 : Int32)) (2 : Int32) (1 : Int32)) u2 (2 : Int32))), (.ref ad2), (.int ((own_f18 u0 u1 u2 ss v1 v2) v2))])) _
    refine st34 _ ?_
    show Steps p.tables e below (T34.setTop (mkF m 458 #[.val (.int p1), .val (.int p2), .val (.int p3), .val (.int ss), .val (.int (1 : Int32)), .val (.ref ad1), .val (.ref ad2), .val (.ref ad3), .val (.ref ad13), .val (.int (1 : Int32))] [(.int (own_el (own_upd (own_upd (own_upd own_zero (0 : Int32) ss) (1 : Int32) v1) (2 : Int32) v2) (own_last (own_upd (own_upd (own_upd own_zero (0 : Int32) u0) (1 : Int32) u1) (2 : Int32) u2) (own_upd (own_upd (own_upd own_zero (0 : Int32) (1 : Int32)) (1 : Int32) (0 : Int32)) (2 : Int32) (1 : Int32)) u2 (2 : Int32)))), (.int ((own_f18 u0 u1 u2 ss v1 v2) v2))])) _
    refine XS.icmpNo X34.here hx rfl (hb hby at_458) rfl (teq (show ((own_f18 u0 u1 u2 ss v1 v2) v2) = (own_el (own_upd (own_upd (own_upd own_zero (0 : Int32) ss) (1 : Int32) v1) (2 : Int32) v2) (own_last (own_upd (own_upd (own_upd own_zero (0 : Int32) u0) (1 : Int32) u1) (2 : Int32) u2) (own_upd (own_upd (own_upd own_zero (0 : Int32) (1 : Int32)) (1 : Int32) (0 : Int32)) (2 : Int32) (1 : Int32)) u2 (2 : Int32))) from (own_k30 u0 u1 u2 ss v1 v2 c_u0 c_u1 c_u2 c_s hv1 hv2))).2 ?_
    show Steps p.tables e below (T34.setTop (mkF m 461 #[.val (.int p1), .val (.int p2), .val (.int p3), .val (.int ss), .val (.int (1 : Int32)), .val (.ref ad1), .val (.ref ad2), .val (.ref ad3), .val (.ref ad13), .val (.int (1 : Int32))] [])) _
    refine XS.iconst X34.here hx rfl (hb hby at_461) ?_
    refine XS.goto X34.here hx rfl (pc0 := 462) (pc' := 466) rfl (hb hby at_462) (by decide) (by decide) ?_
    refine XS.istore X34.here hx rfl (hb hby at_466) rfl (l' := #[.val (.int p1), .val (.int p2), .val (.int p3), .val (.int ss), .val (.int (1 : Int32)), .val (.ref ad1), .val (.ref ad2), .val (.ref ad3), .val (.ref ad13), .val (.int (1 : Int32))]) rfl ?_
    refine XS.iload X34.here hx rfl (hb hby at_468) rfl ?_
    show Steps p.tables e below (T34.setTop (mkF m 470 #[.val (.int p1), .val (.int p2), .val (.int p3), .val (.int ss), .val (.int (1 : Int32)), .val (.ref ad1), .val (.ref ad2), .val (.ref ad3), .val (.ref ad13), .val (.int (1 : Int32))] [(.int (1 : Int32))])) _
    exact retN X34 hx (t := .boolean) Bd.returns (by simp) (hb hby at_470) hr
  · show Q0_1 Z p1 p2 p3 h0 n0 _ T34.heap _
    exact ⟨rfl, N34⟩
def Q0_2 (Z : State) (p1 p2 p3 : Int32) (h0 : Heap) (n0 : Nat) (v : Option Value) (h : Heap) (L : List Loc) : Prop := v = some (.int (1 : Int32)) ∧ Fr n0 L
set_option maxRecDepth 65536 in
set_option maxHeartbeats 40000000 in
theorem rm0_2 (l : Launch) (Z : State) (a0 : Array Value) (hw : ∀ d ∈ tables_1, d.before a0 Z = true) (ws : List Jvm.Cond) (p1 p2 p3 : Int32) (h0 : Heap) (n0 : Nat) (Z0 : n0 ≤ h0.size) (hR : ((p2 &&& (2147483647 : Int32)) % (4 : Int32)) = (2 : Int32)) :
    MetFree l x (head1 (Jvm.Cond.code x code maxLocals ret :: ws) room_1) (fun a U => a = #[(.int p1), (.int p2), (.int p3)] ∧ Z.Warmed39 U.vm ∧ U.heap = h0) (fun _ _ _ _ _ => True) (fun _ U o U' => ∃ v L, o = .returned v ∧ Q0_2 Z p1 p2 p3 h0 n0 v U'.heap L ∧ FrameEnd U o U' L room_1.cells room_1.slots) := by
  refine MetFree.of_bodySF (plainFor_of_name pn_0) hisR ?_
  intro p e s m args below meth c s₁ Bd hml0 hP hK
  obtain ⟨rfl, hZ, hh⟩ := hP
  have hx := Bd.exec
  have hby := Bd.bytes
  have hml : c.maxLocals = 10 := hml0
  have hown : s.vm.findClass "com/example/process_stepper/processstepper/equivalence/IntListsPushPinLaw" = some m.cls := findClass_of_methodNamed Bd.named
  have hnm := (name_of_methodNamed Bd.named Bd.method).1
  have X0 : Stand p l e room_1 s m #[(.int p1), (.int p2), (.int p3)] below meth c s₁ [] 0 0 := Stand.of_body Bd
  have e0 : s₁.heap = h0 := by rw [← hh, Bd.state]; rfl
  have N0 := Fr.nil n0
  have pre0 : ∀ t, Steps p.tables e below (s₁.setTop (mkF m 0 #[.val (.int p1), .val (.int p2), .val (.int p3), .unset, .unset, .unset, .unset, .unset, .unset, .unset] [])) t → Steps p.tables e below (s₁.setTop (entryFrame m #[(.int p1), (.int p2), (.int p3)] maxLocals)) t := fun t k => castTop (ef_0 m p1 p2 p3) k
  obtain ⟨ss, hss⟩ : ∃ z : Int32, z = ((p3 &&& (2147483647 : Int32)) % (3 : Int32)) := ⟨_, rfl⟩
  have c_s := own_three p3 ss hss
  obtain ⟨T1, h1, k1, X1, e1, E1, A1, st1⟩ := newP X0 hx hZ (own_w hw 1 rfl) e0 (g := (mkF m 16 #[.val (.int p1), .val (.int p2), .val (.int p3), .val (.int ss), .val (.int (2 : Int32)), .unset, .unset, .unset, .unset, .unset] [(.int (3 : Int32))])) rfl (hb hby at_16) rfl (by decide) (cap := 3) (by decide) (by decide) (by decide) (by decide)
  obtain ⟨ad1, g1⟩ : ∃ z, z = h0.size := ⟨_, rfl⟩
  rw [← g1] at A1 st1
  have gn_ad1 : n0 ≤ ad1 := Nat.le_trans Z0 (Nat.le_of_eq g1.symm)
  have sz_ad1 : h0.size ≤ ad1 := Nat.le_trans (Keep.refl h0 []).1 (Nat.le_of_eq g1.symm)
  have A_ad1_1 : own_arr Z h1 ad1 (3 : Int32) own_zero := own_arr_new A1 (by decide)
  have K1 : Keep h0 h1 [] := (Keep.refl h0 []).ext E1
  have Zs1 : n0 ≤ h1.size := Nat.le_trans Z0 E1.1
  obtain ⟨T2, h2, k2, X2, e2, E2, A2, st2⟩ := newP X1 hx hZ (own_w hw 1 rfl) e1 (g := (mkF m 21 #[.val (.int p1), .val (.int p2), .val (.int p3), .val (.int ss), .val (.int (2 : Int32)), .val (.ref ad1), .unset, .unset, .unset, .unset] [(.int (3 : Int32))])) rfl (hb hby at_21) rfl (by decide) (cap := 3) (by decide) (by decide) (by decide) (by decide)
  obtain ⟨ad2, g2⟩ : ∃ z, z = h1.size := ⟨_, rfl⟩
  rw [← g2] at A2 st2
  have lt_ad1_ad2 : ad1 < ad2 := Nat.lt_of_lt_of_eq (own_arr_lt A_ad1_1) g2.symm
  have gn_ad2 : n0 ≤ ad2 := Nat.le_trans Zs1 (Nat.le_of_eq g2.symm)
  have sz_ad2 : h0.size ≤ ad2 := Nat.le_trans K1.1 (Nat.le_of_eq g2.symm)
  have A_ad1_2 : own_arr Z h2 ad1 (3 : Int32) own_zero := own_arr_ext A_ad1_1 E2
  have A_ad2_2 : own_arr Z h2 ad2 (3 : Int32) own_zero := own_arr_new A2 (by decide)
  have K2 : Keep h0 h2 [] := K1.ext E2
  have Zs2 : n0 ≤ h2.size := Nat.le_trans Zs1 E2.1
  obtain ⟨T3, h3, k3, X3, e3, E3, A3, st3⟩ := newP X2 hx hZ (own_w hw 2 rfl) e2 (g := (mkF m 26 #[.val (.int p1), .val (.int p2), .val (.int p3), .val (.int ss), .val (.int (2 : Int32)), .val (.ref ad1), .val (.ref ad2), .unset, .unset, .unset] [(.int (3 : Int32))])) rfl (hb hby at_26) rfl (by decide) (cap := 3) (by decide) (by decide) (by decide) (by decide)
  obtain ⟨ad3, g3⟩ : ∃ z, z = h2.size := ⟨_, rfl⟩
  rw [← g3] at A3 st3
  have lt_ad1_ad3 : ad1 < ad3 := Nat.lt_of_lt_of_eq (own_arr_lt A_ad1_2) g3.symm
  have lt_ad2_ad3 : ad2 < ad3 := Nat.lt_of_lt_of_eq (own_arr_lt A_ad2_2) g3.symm
  have gn_ad3 : n0 ≤ ad3 := Nat.le_trans Zs2 (Nat.le_of_eq g3.symm)
  have sz_ad3 : h0.size ≤ ad3 := Nat.le_trans K2.1 (Nat.le_of_eq g3.symm)
  have A_ad1_3 : own_arr Z h3 ad1 (3 : Int32) own_zero := own_arr_ext A_ad1_2 E3
  have A_ad2_3 : own_arr Z h3 ad2 (3 : Int32) own_zero := own_arr_ext A_ad2_2 E3
  have A_ad3_3 : own_arz Z h3 ad3 (3 : Int32) own_zero := own_arr_newz A3 (by decide)
  have K3 : Keep h0 h3 [] := K2.ext E3
  have Zs3 : n0 ≤ h3.size := Nat.le_trans Zs2 E3.1
  obtain ⟨u0, hu0⟩ : ∃ z : Int32, z = (p1 &&& (1 : Int32)) := ⟨_, rfl⟩
  have c_u0 : u0 = (0 : Int32) ∨ u0 = (1 : Int32) := by rw [hu0]; exact own_bit _
  obtain ⟨T4, h4, X4, e4, W4, st4⟩ := own_st X3 hx hZ e3 A_ad1_3 (by decide) (by decide) (g := (mkF m 36 #[.val (.int p1), .val (.int p2), .val (.int p3), .val (.int ss), .val (.int (2 : Int32)), .val (.ref ad1), .val (.ref ad2), .val (.ref ad3), .unset, .unset] [(.int u0), (.int (0 : Int32)), (.ref ad1)])) rfl rfl (hb hby at_36)
  have A_ad1_4 : own_arr Z h4 ad1 (3 : Int32) (own_upd own_zero (0 : Int32) u0) := own_arr_same A_ad1_3 W4 (by decide) (by decide)
  have A_ad2_4 : own_arr Z h4 ad2 (3 : Int32) own_zero := own_arr_other A_ad2_3 W4 (Nat.ne_of_gt lt_ad1_ad2)
  have A_ad3_4 : own_arz Z h4 ad3 (3 : Int32) own_zero := own_arz_other A_ad3_3 W4 (Nat.ne_of_gt lt_ad1_ad3)
  have K4 : Keep h0 h4 [] := K3.wr W4 (Or.inr sz_ad1)
  have N4 := Fr.snoc X4 N0 gn_ad1
  have Zs4 : n0 ≤ h4.size := by rw [W4.size]; exact Zs3
  obtain ⟨u1, hu1⟩ : ∃ z : Int32, z = (((p1.toUInt32 >>> ((1 : Int32) &&& 31).toUInt32).toInt32) &&& (1 : Int32)) := ⟨_, rfl⟩
  have c_u1 : u1 = (0 : Int32) ∨ u1 = (1 : Int32) := by rw [hu1]; exact own_bit _
  obtain ⟨T5, h5, X5, e5, W5, st5⟩ := own_st X4 hx hZ e4 A_ad1_4 (by decide) (by decide) (g := (mkF m 45 #[.val (.int p1), .val (.int p2), .val (.int p3), .val (.int ss), .val (.int (2 : Int32)), .val (.ref ad1), .val (.ref ad2), .val (.ref ad3), .unset, .unset] [(.int u1), (.int (1 : Int32)), (.ref ad1)])) rfl rfl (hb hby at_45)
  have A_ad1_5 : own_arr Z h5 ad1 (3 : Int32) (own_upd (own_upd own_zero (0 : Int32) u0) (1 : Int32) u1) := own_arr_same A_ad1_4 W5 (by decide) (by decide)
  have A_ad2_5 : own_arr Z h5 ad2 (3 : Int32) own_zero := own_arr_other A_ad2_4 W5 (Nat.ne_of_gt lt_ad1_ad2)
  have A_ad3_5 : own_arz Z h5 ad3 (3 : Int32) own_zero := own_arz_other A_ad3_4 W5 (Nat.ne_of_gt lt_ad1_ad3)
  have K5 : Keep h0 h5 [] := K4.wr W5 (Or.inr sz_ad1)
  have N5 := Fr.snoc X5 N4 gn_ad1
  have Zs5 : n0 ≤ h5.size := by rw [W5.size]; exact Zs4
  obtain ⟨u2, hu2⟩ : ∃ z : Int32, z = (((p1.toUInt32 >>> ((2 : Int32) &&& 31).toUInt32).toInt32) &&& (1 : Int32)) := ⟨_, rfl⟩
  have c_u2 : u2 = (0 : Int32) ∨ u2 = (1 : Int32) := by rw [hu2]; exact own_bit _
  obtain ⟨T6, h6, X6, e6, W6, st6⟩ := own_st X5 hx hZ e5 A_ad1_5 (by decide) (by decide) (g := (mkF m 54 #[.val (.int p1), .val (.int p2), .val (.int p3), .val (.int ss), .val (.int (2 : Int32)), .val (.ref ad1), .val (.ref ad2), .val (.ref ad3), .unset, .unset] [(.int u2), (.int (2 : Int32)), (.ref ad1)])) rfl rfl (hb hby at_54)
  have A_ad1_6 : own_arr Z h6 ad1 (3 : Int32) (own_upd (own_upd (own_upd own_zero (0 : Int32) u0) (1 : Int32) u1) (2 : Int32) u2) := own_arr_same A_ad1_5 W6 (by decide) (by decide)
  have A_ad2_6 : own_arr Z h6 ad2 (3 : Int32) own_zero := own_arr_other A_ad2_5 W6 (Nat.ne_of_gt lt_ad1_ad2)
  have A_ad3_6 : own_arz Z h6 ad3 (3 : Int32) own_zero := own_arz_other A_ad3_5 W6 (Nat.ne_of_gt lt_ad1_ad3)
  have K6 : Keep h0 h6 [] := K5.wr W6 (Or.inr sz_ad1)
  have N6 := Fr.snoc X6 N5 gn_ad1
  have Zs6 : n0 ≤ h6.size := by rw [W6.size]; exact Zs5
  obtain ⟨T7, h7, X7, e7, W7, st7⟩ := own_st X6 hx hZ e6 A_ad2_6 (by decide) (by decide) (g := (mkF m 59 #[.val (.int p1), .val (.int p2), .val (.int p3), .val (.int ss), .val (.int (2 : Int32)), .val (.ref ad1), .val (.ref ad2), .val (.ref ad3), .unset, .unset] [(.int ss), (.int (0 : Int32)), (.ref ad2)])) rfl rfl (hb hby at_59)
  have A_ad1_7 : own_arr Z h7 ad1 (3 : Int32) (own_upd (own_upd (own_upd own_zero (0 : Int32) u0) (1 : Int32) u1) (2 : Int32) u2) := own_arr_other A_ad1_6 W7 (Nat.ne_of_lt lt_ad1_ad2)
  have A_ad2_7 : own_arr Z h7 ad2 (3 : Int32) (own_upd own_zero (0 : Int32) ss) := own_arr_same A_ad2_6 W7 (by decide) (by decide)
  have A_ad3_7 : own_arz Z h7 ad3 (3 : Int32) own_zero := own_arz_other A_ad3_6 W7 (Nat.ne_of_gt lt_ad2_ad3)
  have K7 : Keep h0 h7 [] := K6.wr W7 (Or.inr sz_ad2)
  have N7 := Fr.snoc X7 N6 gn_ad2
  have Zs7 : n0 ≤ h7.size := by rw [W7.size]; exact Zs6
  obtain ⟨v1, hv1⟩ : ∃ z : Int32, z = (((1 : Int32) + ss) % (3 : Int32)) := ⟨_, rfl⟩
  obtain ⟨T8, h8, X8, e8, W8, st8⟩ := own_st X7 hx hZ e7 A_ad2_7 (by decide) (by decide) (g := (mkF m 68 #[.val (.int p1), .val (.int p2), .val (.int p3), .val (.int ss), .val (.int (2 : Int32)), .val (.ref ad1), .val (.ref ad2), .val (.ref ad3), .unset, .unset] [(.int v1), (.int (1 : Int32)), (.ref ad2)])) rfl rfl (hb hby at_68)
  have A_ad1_8 : own_arr Z h8 ad1 (3 : Int32) (own_upd (own_upd (own_upd own_zero (0 : Int32) u0) (1 : Int32) u1) (2 : Int32) u2) := own_arr_other A_ad1_7 W8 (Nat.ne_of_lt lt_ad1_ad2)
  have A_ad2_8 : own_arr Z h8 ad2 (3 : Int32) (own_upd (own_upd own_zero (0 : Int32) ss) (1 : Int32) v1) := own_arr_same A_ad2_7 W8 (by decide) (by decide)
  have A_ad3_8 : own_arz Z h8 ad3 (3 : Int32) own_zero := own_arz_other A_ad3_7 W8 (Nat.ne_of_gt lt_ad2_ad3)
  have K8 : Keep h0 h8 [] := K7.wr W8 (Or.inr sz_ad2)
  have N8 := Fr.snoc X8 N7 gn_ad2
  have Zs8 : n0 ≤ h8.size := by rw [W8.size]; exact Zs7
  obtain ⟨v2, hv2⟩ : ∃ z : Int32, z = (((2 : Int32) + ss) % (3 : Int32)) := ⟨_, rfl⟩
  obtain ⟨T9, h9, X9, e9, W9, st9⟩ := own_st X8 hx hZ e8 A_ad2_8 (by decide) (by decide) (g := (mkF m 77 #[.val (.int p1), .val (.int p2), .val (.int p3), .val (.int ss), .val (.int (2 : Int32)), .val (.ref ad1), .val (.ref ad2), .val (.ref ad3), .unset, .unset] [(.int v2), (.int (2 : Int32)), (.ref ad2)])) rfl rfl (hb hby at_77)
  have A_ad1_9 : own_arr Z h9 ad1 (3 : Int32) (own_upd (own_upd (own_upd own_zero (0 : Int32) u0) (1 : Int32) u1) (2 : Int32) u2) := own_arr_other A_ad1_8 W9 (Nat.ne_of_lt lt_ad1_ad2)
  have A_ad2_9 : own_arr Z h9 ad2 (3 : Int32) (own_upd (own_upd (own_upd own_zero (0 : Int32) ss) (1 : Int32) v1) (2 : Int32) v2) := own_arr_same A_ad2_8 W9 (by decide) (by decide)
  have A_ad3_9 : own_arz Z h9 ad3 (3 : Int32) own_zero := own_arz_other A_ad3_8 W9 (Nat.ne_of_gt lt_ad2_ad3)
  have K9 : Keep h0 h9 [] := K8.wr W9 (Or.inr sz_ad2)
  have N9 := Fr.snoc X9 N8 gn_ad2
  have Zs9 : n0 ≤ h9.size := by rw [W9.size]; exact Zs8
  obtain ⟨T10, h10, X10, e10, W10, st10⟩ := own_stz X9 hx hZ e9 A_ad3_9 (by decide) (by decide) (by decide) (g := (mkF m 91 #[.val (.int p1), .val (.int p2), .val (.int p3), .val (.int ss), .val (.int (2 : Int32)), .val (.ref ad1), .val (.ref ad2), .val (.ref ad3), .unset, .unset] [(.int (1 : Int32)), (.int (0 : Int32)), (.ref ad3)])) rfl rfl (hb hby at_91)
  have A_ad1_10 : own_arr Z h10 ad1 (3 : Int32) (own_upd (own_upd (own_upd own_zero (0 : Int32) u0) (1 : Int32) u1) (2 : Int32) u2) := own_arr_other A_ad1_9 W10 (Nat.ne_of_lt lt_ad1_ad3)
  have A_ad2_10 : own_arr Z h10 ad2 (3 : Int32) (own_upd (own_upd (own_upd own_zero (0 : Int32) ss) (1 : Int32) v1) (2 : Int32) v2) := own_arr_other A_ad2_9 W10 (Nat.ne_of_lt lt_ad2_ad3)
  have A_ad3_10 : own_arz Z h10 ad3 (3 : Int32) (own_upd own_zero (0 : Int32) (1 : Int32)) := own_arz_same A_ad3_9 W10 (by decide) (by decide)
  have K10 : Keep h0 h10 [] := K9.wr W10 (Or.inr sz_ad3)
  have N10 := Fr.snoc X10 N9 gn_ad3
  have Zs10 : n0 ≤ h10.size := by rw [W10.size]; exact Zs9
  obtain ⟨T11, h11, X11, e11, W11, st11⟩ := own_stz X10 hx hZ e10 A_ad3_10 (by decide) (by decide) (by decide) (g := (mkF m 106 #[.val (.int p1), .val (.int p2), .val (.int p3), .val (.int ss), .val (.int (2 : Int32)), .val (.ref ad1), .val (.ref ad2), .val (.ref ad3), .unset, .unset] [(.int (1 : Int32)), (.int (1 : Int32)), (.ref ad3)])) rfl rfl (hb hby at_106)
  have A_ad1_11 : own_arr Z h11 ad1 (3 : Int32) (own_upd (own_upd (own_upd own_zero (0 : Int32) u0) (1 : Int32) u1) (2 : Int32) u2) := own_arr_other A_ad1_10 W11 (Nat.ne_of_lt lt_ad1_ad3)
  have A_ad2_11 : own_arr Z h11 ad2 (3 : Int32) (own_upd (own_upd (own_upd own_zero (0 : Int32) ss) (1 : Int32) v1) (2 : Int32) v2) := own_arr_other A_ad2_10 W11 (Nat.ne_of_lt lt_ad2_ad3)
  have A_ad3_11 : own_arz Z h11 ad3 (3 : Int32) (own_upd (own_upd own_zero (0 : Int32) (1 : Int32)) (1 : Int32) (1 : Int32)) := own_arz_same A_ad3_10 W11 (by decide) (by decide)
  have K11 : Keep h0 h11 [] := K10.wr W11 (Or.inr sz_ad3)
  have N11 := Fr.snoc X11 N10 gn_ad3
  have Zs11 : n0 ≤ h11.size := by rw [W11.size]; exact Zs10
  obtain ⟨T12, h12, X12, e12, W12, st12⟩ := own_stz X11 hx hZ e11 A_ad3_11 (by decide) (by decide) (by decide) (g := (mkF m 121 #[.val (.int p1), .val (.int p2), .val (.int p3), .val (.int ss), .val (.int (2 : Int32)), .val (.ref ad1), .val (.ref ad2), .val (.ref ad3), .unset, .unset] [(.int (0 : Int32)), (.int (2 : Int32)), (.ref ad3)])) rfl rfl (hb hby at_121)
  have A_ad1_12 : own_arr Z h12 ad1 (3 : Int32) (own_upd (own_upd (own_upd own_zero (0 : Int32) u0) (1 : Int32) u1) (2 : Int32) u2) := own_arr_other A_ad1_11 W12 (Nat.ne_of_lt lt_ad1_ad3)
  have A_ad2_12 : own_arr Z h12 ad2 (3 : Int32) (own_upd (own_upd (own_upd own_zero (0 : Int32) ss) (1 : Int32) v1) (2 : Int32) v2) := own_arr_other A_ad2_11 W12 (Nat.ne_of_lt lt_ad2_ad3)
  have A_ad3_12 : own_arz Z h12 ad3 (3 : Int32) (own_upd (own_upd (own_upd own_zero (0 : Int32) (1 : Int32)) (1 : Int32) (1 : Int32)) (2 : Int32) (0 : Int32)) := own_arz_same A_ad3_11 W12 (by decide) (by decide)
  have K12 : Keep h0 h12 [] := K11.wr W12 (Or.inr sz_ad3)
  have N12 := Fr.snoc X12 N11 gn_ad3
  have Zs12 : n0 ≤ h12.size := by rw [W12.size]; exact Zs11
  obtain ⟨T13, h13, X13, e13, E13, A13, D13, -, st13⟩ := newO X12 hx hZ hown (own_w hw 3 rfl) (own_w hw 4 rfl) (own_w hw 5 rfl) e12 (g := (mkF m 122 #[.val (.int p1), .val (.int p2), .val (.int p3), .val (.int ss), .val (.int (2 : Int32)), .val (.ref ad1), .val (.ref ad2), .val (.ref ad3), .unset, .unset] [])) rfl (hb hby at_122) (by decide) (by decide)
  obtain ⟨ad13, g13⟩ : ∃ z, z = h12.size := ⟨_, rfl⟩
  rw [← g13] at A13 D13 st13
  have lt_ad1_ad13 : ad1 < ad13 := Nat.lt_of_lt_of_eq (own_arr_lt A_ad1_12) g13.symm
  have lt_ad2_ad13 : ad2 < ad13 := Nat.lt_of_lt_of_eq (own_arr_lt A_ad2_12) g13.symm
  have lt_ad3_ad13 : ad3 < ad13 := Nat.lt_of_lt_of_eq (own_arz_lt A_ad3_12) g13.symm
  have gn_ad13 : n0 ≤ ad13 := Nat.le_trans Zs12 (Nat.le_of_eq g13.symm)
  have sz_ad13 : h0.size ≤ ad13 := Nat.le_trans K12.1 (Nat.le_of_eq g13.symm)
  have A_ad1_13 : own_arr Z h13 ad1 (3 : Int32) (own_upd (own_upd (own_upd own_zero (0 : Int32) u0) (1 : Int32) u1) (2 : Int32) u2) := own_arr_ext A_ad1_12 E13
  have A_ad2_13 : own_arr Z h13 ad2 (3 : Int32) (own_upd (own_upd (own_upd own_zero (0 : Int32) ss) (1 : Int32) v1) (2 : Int32) v2) := own_arr_ext A_ad2_12 E13
  have A_ad3_13 : own_arz Z h13 ad3 (3 : Int32) (own_upd (own_upd (own_upd own_zero (0 : Int32) (1 : Int32)) (1 : Int32) (1 : Int32)) (2 : Int32) (0 : Int32)) := own_arz_ext A_ad3_12 E13
  have E_ad13_13 : Exa Z h13 ad13 "com/example/process_stepper/processstepper/equivalence/IntLists" := A13
  have F_heads_ad13_13 : Fld Z h13 ad13 "com/example/process_stepper/processstepper/equivalence/IntLists" "heads" "[I" .null := D13 (Or.inl (own_w hw 13 rfl)) (ty := (.array .int)) (by decide)
  have F_sizes_ad13_13 : Fld Z h13 ad13 "com/example/process_stepper/processstepper/equivalence/IntLists" "sizes" "[I" .null := D13 (Or.inl (own_w hw 19 rfl)) (ty := (.array .int)) (by decide)
  have F_next_ad13_13 : Fld Z h13 ad13 "com/example/process_stepper/processstepper/equivalence/IntLists" "next" "[I" .null := D13 (Or.inl (own_w hw 21 rfl)) (ty := (.array .int)) (by decide)
  have F_previous_ad13_13 : Fld Z h13 ad13 "com/example/process_stepper/processstepper/equivalence/IntLists" "previous" "[I" .null := D13 (Or.inl (own_w hw 23 rfl)) (ty := (.array .int)) (by decide)
  have K13 : Keep h0 h13 [] := K12.ext E13
  have Zs13 : n0 ≤ h13.size := Nat.le_trans Zs12 E13.1
  obtain ⟨_, _, ⟨T14, L14, k14, n14⟩, -, X14, ⟨Lc14, hQ14, l14, y14, z14⟩, st14⟩ := X13.specialBack hx (y := own_m2) rfl hown (mvT hZ (own_w hw 6 rfl)) (mvT hZ (own_w hw 7 rfl)) (mvT hZ (own_w hw 8 rfl)) (by decide) (backOf (W := 1) (rm1 l Z a0 hw [] ad13 h13 n0 Zs13 E_ad13_13 F_heads_ad13_13 F_sizes_ad13_13 F_next_ad13_13 F_previous_ad13_13 gn_ad13) hZ (own_w hw 8 rfl) (own_w hw 5 rfl) (by decide) (by decide)) (g := (mkF m 128 #[.val (.int p1), .val (.int p2), .val (.int p3), .val (.int ss), .val (.int (2 : Int32)), .val (.ref ad1), .val (.ref ad2), .val (.ref ad3), .unset, .unset] [(.int (3 : Int32)), (.int (2 : Int32)), (.ref ad13), (.ref ad13)])) rfl (by rw [hml]; rfl) (Steps.refl _) (a := ad13) (argsL := [(.int (2 : Int32)), (.int (3 : Int32))]) (rest := [(.ref ad13)]) (lenOf pd__II_V rfl) rfl (by show 2 * 0 + _ ≤ _; exact Nat.le_of_eq rfl) (hb hby at_128) (fun _ _ => ⟨rfl, e13, (by decide : 4 + 4 ≤ _), (by decide : 13 + 10 ≤ _)⟩)
  dsimp only [Pt.U, Pt.locs, Pt.cells, Pt.slots] at X14 l14 y14 z14 st14 hQ14
  rw [l14, y14, z14] at X14
  obtain ⟨rfl, N14q, b1, b2, b3, b4, K14q, z14q, V14⟩ := hQ14
  have N14 := Fr.app N12 N14q
  have lb_ad1 : ad1 < b1 := Nat.lt_of_lt_of_le (own_arr_lt A_ad1_13) z14q
  have lb_ad2 : ad2 < b1 := Nat.lt_of_lt_of_le (own_arr_lt A_ad2_13) z14q
  have lb_ad3 : ad3 < b1 := Nat.lt_of_lt_of_le (own_arz_lt A_ad3_13) z14q
  have A_ad1_14 : own_arr Z T14.heap ad1 (3 : Int32) (own_upd (own_upd (own_upd own_zero (0 : Int32) u0) (1 : Int32) u1) (2 : Int32) u2) := own_arr_keep A_ad1_13 K14q (ninS (Nat.ne_of_lt lt_ad1_ad13) nin0)
  have A_ad2_14 : own_arr Z T14.heap ad2 (3 : Int32) (own_upd (own_upd (own_upd own_zero (0 : Int32) ss) (1 : Int32) v1) (2 : Int32) v2) := own_arr_keep A_ad2_13 K14q (ninS (Nat.ne_of_lt lt_ad2_ad13) nin0)
  have A_ad3_14 : own_arz Z T14.heap ad3 (3 : Int32) (own_upd (own_upd (own_upd own_zero (0 : Int32) (1 : Int32)) (1 : Int32) (1 : Int32)) (2 : Int32) (0 : Int32)) := own_arz_keep A_ad3_13 K14q (ninS (Nat.ne_of_lt lt_ad3_ad13) nin0)
  have Zs14 : n0 ≤ T14.heap.size := Nat.le_trans Zs13 K14q.1
  obtain ⟨cq15, kq15, q15a, q15b, q15c⟩ := isOf hZ rfl (V14.1)
  obtain ⟨_, _, ⟨T15, L15, k15, n15⟩, -, X15, ⟨Lc15, hQ15, l15, y15, z15⟩, st15⟩ := X14.virtualBack hx (y := own_m3) (z := own_m3) hown (mvT hZ (own_w hw 24 rfl)) (mvT hZ (own_w hw 25 rfl)) (notFace_of_selects (args := #[]) (mvT hZ (own_w hw 27 rfl))) (mvT hZ (own_w hw 27 rfl)) (mvT hZ (own_w hw 26 rfl)) (by decide) (backOf (W := 0) (rm4 l Z a0 hw [] ad13 u0 ss b1 b2 b3 b4 own_H0 own_zero own_zero own_zero T14.heap n0 Zs14 V14 (own_k0 u0 u1 u2 ss v1 v2 c_u0 c_u1 c_u2 c_s hv1 hv2) (own_k1 u0 u1 u2 ss v1 v2 c_u0 c_u1 c_u2 c_s hv1 hv2) (own_k2 u0 u1 u2 ss v1 v2 c_u0 c_u1 c_u2 c_s hv1 hv2) (own_k3 u0 u1 u2 ss v1 v2 c_u0 c_u1 c_u2 c_s hv1 hv2) (own_k4 u0 u1 u2 ss v1 v2 c_u0 c_u1 c_u2 c_s hv1 hv2)) hZ (own_w hw 28 rfl) (own_w hw 5 rfl) (by decide) (by decide)) q15a q15c (g := (mkF m 143 #[.val (.int p1), .val (.int p2), .val (.int p3), .val (.int ss), .val (.int (2 : Int32)), .val (.ref ad1), .val (.ref ad2), .val (.ref ad3), .val (.ref ad13), .unset] [(.int ss), (.int u0), (.ref ad13)])) rfl (by rw [hml]; rfl) (Steps.refl _) (argsL := [(.int u0), (.int ss)]) (rest := []) (lenOf pd__II_V rfl) rfl (by show 2 * 0 + _ ≤ _; exact Nat.le_of_eq rfl) (hb hby at_143) (fun _ _ => ⟨rfl, rfl, (by decide : 8 + 0 ≤ _), (by decide : 23 + 0 ≤ _)⟩)
  dsimp only [Pt.U, Pt.locs, Pt.cells, Pt.slots] at X15 l15 y15 z15 st15 hQ15
  rw [l15, y15, z15] at X15
  obtain ⟨rfl, N15q, K15q, V15q⟩ := hQ15
  have N15 := Fr.app N14 N15q
  have A_ad1_15 : own_arr Z T15.heap ad1 (3 : Int32) (own_upd (own_upd (own_upd own_zero (0 : Int32) u0) (1 : Int32) u1) (2 : Int32) u2) := own_arr_keep A_ad1_14 K15q (own_nin4 lb_ad1 V14.2.2.2.1)
  have A_ad2_15 : own_arr Z T15.heap ad2 (3 : Int32) (own_upd (own_upd (own_upd own_zero (0 : Int32) ss) (1 : Int32) v1) (2 : Int32) v2) := own_arr_keep A_ad2_14 K15q (own_nin4 lb_ad2 V14.2.2.2.1)
  have A_ad3_15 : own_arz Z T15.heap ad3 (3 : Int32) (own_upd (own_upd (own_upd own_zero (0 : Int32) (1 : Int32)) (1 : Int32) (1 : Int32)) (2 : Int32) (0 : Int32)) := own_arz_keep A_ad3_14 K15q (own_nin4 lb_ad3 V14.2.2.2.1)
  have V15 : own_L Z n0 T15.heap ad13 b1 b2 b3 b4 (own_f0 u0 u1 u2 ss v1 v2) (own_f1 u0 u1 u2 ss v1 v2) (own_f2 u0 u1 u2 ss v1 v2) (own_f3 u0 u1 u2 ss v1 v2) := V15q
  have Zs15 : n0 ≤ T15.heap.size := Nat.le_trans Zs14 K15q.1
  obtain ⟨cq16, kq16, q16a, q16b, q16c⟩ := isOf hZ rfl (V15.1)
  obtain ⟨_, _, ⟨T16, L16, k16, n16⟩, -, X16, ⟨Lc16, hQ16, l16, y16, z16⟩, st16⟩ := X15.virtualBack hx (y := own_m3) (z := own_m3) hown (mvT hZ (own_w hw 24 rfl)) (mvT hZ (own_w hw 25 rfl)) (notFace_of_selects (args := #[]) (mvT hZ (own_w hw 27 rfl))) (mvT hZ (own_w hw 27 rfl)) (mvT hZ (own_w hw 26 rfl)) (by decide) (backOf (W := 0) (rm4 l Z a0 hw [] ad13 u1 v1 b1 b2 b3 b4 (own_f0 u0 u1 u2 ss v1 v2) (own_f1 u0 u1 u2 ss v1 v2) (own_f2 u0 u1 u2 ss v1 v2) (own_f3 u0 u1 u2 ss v1 v2) T15.heap n0 Zs15 V15 (own_k5 u0 u1 u2 ss v1 v2 c_u0 c_u1 c_u2 c_s hv1 hv2) (own_k6 u0 u1 u2 ss v1 v2 c_u0 c_u1 c_u2 c_s hv1 hv2) (own_k7 u0 u1 u2 ss v1 v2 c_u0 c_u1 c_u2 c_s hv1 hv2) (own_k8 u0 u1 u2 ss v1 v2 c_u0 c_u1 c_u2 c_s hv1 hv2) (own_k9 u0 u1 u2 ss v1 v2 c_u0 c_u1 c_u2 c_s hv1 hv2)) hZ (own_w hw 28 rfl) (own_w hw 5 rfl) (by decide) (by decide)) q16a q16c (g := (mkF m 156 #[.val (.int p1), .val (.int p2), .val (.int p3), .val (.int ss), .val (.int (2 : Int32)), .val (.ref ad1), .val (.ref ad2), .val (.ref ad3), .val (.ref ad13), .unset] [(.int v1), (.int u1), (.ref ad13)])) rfl (by rw [hml]; rfl) (Steps.refl _) (argsL := [(.int u1), (.int v1)]) (rest := []) (lenOf pd__II_V rfl) rfl (by show 2 * 0 + _ ≤ _; exact Nat.le_of_eq rfl) (hb hby at_156) (fun _ _ => ⟨rfl, rfl, (by decide : 8 + 0 ≤ _), (by decide : 23 + 0 ≤ _)⟩)
  dsimp only [Pt.U, Pt.locs, Pt.cells, Pt.slots] at X16 l16 y16 z16 st16 hQ16
  rw [l16, y16, z16] at X16
  obtain ⟨rfl, N16q, K16q, V16q⟩ := hQ16
  have N16 := Fr.app N15 N16q
  have A_ad1_16 : own_arr Z T16.heap ad1 (3 : Int32) (own_upd (own_upd (own_upd own_zero (0 : Int32) u0) (1 : Int32) u1) (2 : Int32) u2) := own_arr_keep A_ad1_15 K16q (own_nin4 lb_ad1 V15.2.2.2.1)
  have A_ad2_16 : own_arr Z T16.heap ad2 (3 : Int32) (own_upd (own_upd (own_upd own_zero (0 : Int32) ss) (1 : Int32) v1) (2 : Int32) v2) := own_arr_keep A_ad2_15 K16q (own_nin4 lb_ad2 V15.2.2.2.1)
  have A_ad3_16 : own_arz Z T16.heap ad3 (3 : Int32) (own_upd (own_upd (own_upd own_zero (0 : Int32) (1 : Int32)) (1 : Int32) (1 : Int32)) (2 : Int32) (0 : Int32)) := own_arz_keep A_ad3_15 K16q (own_nin4 lb_ad3 V15.2.2.2.1)
  have V16 : own_L Z n0 T16.heap ad13 b1 b2 b3 b4 (own_f4 u0 u1 u2 ss v1 v2) (own_f5 u0 u1 u2 ss v1 v2) (own_f6 u0 u1 u2 ss v1 v2) (own_f7 u0 u1 u2 ss v1 v2) := V16q
  have Zs16 : n0 ≤ T16.heap.size := Nat.le_trans Zs15 K16q.1
  obtain ⟨cq17, kq17, q17a, q17b, q17c⟩ := isOf hZ rfl (V16.1)
  obtain ⟨_, _, ⟨T17, L17, k17, n17⟩, -, X17, ⟨Lc17, hQ17, l17, y17, z17⟩, st17⟩ := X16.virtualBack hx (y := own_m3) (z := own_m3) hown (mvT hZ (own_w hw 24 rfl)) (mvT hZ (own_w hw 25 rfl)) (notFace_of_selects (args := #[]) (mvT hZ (own_w hw 27 rfl))) (mvT hZ (own_w hw 27 rfl)) (mvT hZ (own_w hw 26 rfl)) (by decide) (backOf (W := 0) (rm4 l Z a0 hw [] ad13 u2 v2 b1 b2 b3 b4 (own_f4 u0 u1 u2 ss v1 v2) (own_f5 u0 u1 u2 ss v1 v2) (own_f6 u0 u1 u2 ss v1 v2) (own_f7 u0 u1 u2 ss v1 v2) T16.heap n0 Zs16 V16 (own_k10 u0 u1 u2 ss v1 v2 c_u0 c_u1 c_u2 c_s hv1 hv2) (own_k11 u0 u1 u2 ss v1 v2 c_u0 c_u1 c_u2 c_s hv1 hv2) (own_k12 u0 u1 u2 ss v1 v2 c_u0 c_u1 c_u2 c_s hv1 hv2) (own_k13 u0 u1 u2 ss v1 v2 c_u0 c_u1 c_u2 c_s hv1 hv2) (own_k14 u0 u1 u2 ss v1 v2 c_u0 c_u1 c_u2 c_s hv1 hv2)) hZ (own_w hw 28 rfl) (own_w hw 5 rfl) (by decide) (by decide)) q17a q17c (g := (mkF m 169 #[.val (.int p1), .val (.int p2), .val (.int p3), .val (.int ss), .val (.int (2 : Int32)), .val (.ref ad1), .val (.ref ad2), .val (.ref ad3), .val (.ref ad13), .unset] [(.int v2), (.int u2), (.ref ad13)])) rfl (by rw [hml]; rfl) (Steps.refl _) (argsL := [(.int u2), (.int v2)]) (rest := []) (lenOf pd__II_V rfl) rfl (by show 2 * 0 + _ ≤ _; exact Nat.le_of_eq rfl) (hb hby at_169) (fun _ _ => ⟨rfl, rfl, (by decide : 8 + 0 ≤ _), (by decide : 23 + 0 ≤ _)⟩)
  dsimp only [Pt.U, Pt.locs, Pt.cells, Pt.slots] at X17 l17 y17 z17 st17 hQ17
  rw [l17, y17, z17] at X17
  obtain ⟨rfl, N17q, K17q, V17q⟩ := hQ17
  have N17 := Fr.app N16 N17q
  have A_ad1_17 : own_arr Z T17.heap ad1 (3 : Int32) (own_upd (own_upd (own_upd own_zero (0 : Int32) u0) (1 : Int32) u1) (2 : Int32) u2) := own_arr_keep A_ad1_16 K17q (own_nin4 lb_ad1 V16.2.2.2.1)
  have A_ad2_17 : own_arr Z T17.heap ad2 (3 : Int32) (own_upd (own_upd (own_upd own_zero (0 : Int32) ss) (1 : Int32) v1) (2 : Int32) v2) := own_arr_keep A_ad2_16 K17q (own_nin4 lb_ad2 V16.2.2.2.1)
  have A_ad3_17 : own_arz Z T17.heap ad3 (3 : Int32) (own_upd (own_upd (own_upd own_zero (0 : Int32) (1 : Int32)) (1 : Int32) (1 : Int32)) (2 : Int32) (0 : Int32)) := own_arz_keep A_ad3_16 K17q (own_nin4 lb_ad3 V16.2.2.2.1)
  have V17 : own_L Z n0 T17.heap ad13 b1 b2 b3 b4 (own_f8 u0 u1 u2 ss v1 v2) (own_f9 u0 u1 u2 ss v1 v2) (own_f10 u0 u1 u2 ss v1 v2) (own_f11 u0 u1 u2 ss v1 v2) := V17q
  have Zs17 : n0 ≤ T17.heap.size := Nat.le_trans Zs16 K17q.1
  obtain ⟨cq18, kq18, q18a, q18b, q18c⟩ := isOf hZ rfl (V17.1)
  obtain ⟨_, _, ⟨T18, L18, k18, n18⟩, -, X18, ⟨Lc18, hQ18, l18, y18, z18⟩, st18⟩ := X17.virtualBack hx (y := own_m4) (z := own_m4) hown (mvT hZ (own_w hw 54 rfl)) (mvT hZ (own_w hw 55 rfl)) (notFace_of_selects (args := #[]) (mvT hZ (own_w hw 57 rfl))) (mvT hZ (own_w hw 57 rfl)) (mvT hZ (own_w hw 56 rfl)) (by decide) (backOf (W := 0) (rm5 l Z a0 hw [] ad13 u2 v2 b1 b2 b3 b4 (own_f8 u0 u1 u2 ss v1 v2) (own_f9 u0 u1 u2 ss v1 v2) (own_f10 u0 u1 u2 ss v1 v2) (own_f11 u0 u1 u2 ss v1 v2) T17.heap n0 Zs17 V17 (own_k10 u0 u1 u2 ss v1 v2 c_u0 c_u1 c_u2 c_s hv1 hv2) (own_k11 u0 u1 u2 ss v1 v2 c_u0 c_u1 c_u2 c_s hv1 hv2) (own_k12 u0 u1 u2 ss v1 v2 c_u0 c_u1 c_u2 c_s hv1 hv2) (own_k13 u0 u1 u2 ss v1 v2 c_u0 c_u1 c_u2 c_s hv1 hv2) (own_k31 u0 u1 u2 ss v1 v2 c_u0 c_u1 c_u2 c_s hv1 hv2) (own_k32 u0 u1 u2 ss v1 v2 c_u0 c_u1 c_u2 c_s hv1 hv2)) hZ (own_w hw 58 rfl) (own_w hw 5 rfl) (by decide) (by decide)) q18a q18c (g := (mkF m 190 #[.val (.int p1), .val (.int p2), .val (.int p3), .val (.int ss), .val (.int (2 : Int32)), .val (.ref ad1), .val (.ref ad2), .val (.ref ad3), .val (.ref ad13), .unset] [(.int v2), (.int u2), (.ref ad13)])) rfl (by rw [hml]; rfl) (Steps.refl _) (argsL := [(.int u2), (.int v2)]) (rest := []) (lenOf pd__II_V rfl) rfl (by show 2 * 0 + _ ≤ _; exact Nat.le_of_eq rfl) (hb hby at_190) (fun _ _ => ⟨rfl, rfl, (by decide : 8 + 0 ≤ _), (by decide : 23 + 0 ≤ _)⟩)
  dsimp only [Pt.U, Pt.locs, Pt.cells, Pt.slots] at X18 l18 y18 z18 st18 hQ18
  rw [l18, y18, z18] at X18
  obtain ⟨rfl, N18q, K18q, V18q⟩ := hQ18
  have N18 := Fr.app N17 N18q
  have A_ad1_18 : own_arr Z T18.heap ad1 (3 : Int32) (own_upd (own_upd (own_upd own_zero (0 : Int32) u0) (1 : Int32) u1) (2 : Int32) u2) := own_arr_keep A_ad1_17 K18q (own_nin4 lb_ad1 V17.2.2.2.1)
  have A_ad2_18 : own_arr Z T18.heap ad2 (3 : Int32) (own_upd (own_upd (own_upd own_zero (0 : Int32) ss) (1 : Int32) v1) (2 : Int32) v2) := own_arr_keep A_ad2_17 K18q (own_nin4 lb_ad2 V17.2.2.2.1)
  have A_ad3_18 : own_arz Z T18.heap ad3 (3 : Int32) (own_upd (own_upd (own_upd own_zero (0 : Int32) (1 : Int32)) (1 : Int32) (1 : Int32)) (2 : Int32) (0 : Int32)) := own_arz_keep A_ad3_17 K18q (own_nin4 lb_ad3 V17.2.2.2.1)
  have V18 : own_L Z n0 T18.heap ad13 b1 b2 b3 b4 (own_f20 u0 u1 u2 ss v1 v2) (own_f21 u0 u1 u2 ss v1 v2) (own_f22 u0 u1 u2 ss v1 v2) (own_f23 u0 u1 u2 ss v1 v2) := V18q
  have Zs18 : n0 ≤ T18.heap.size := Nat.le_trans Zs17 K18q.1
  obtain ⟨cq19, kq19, q19a, q19b, q19c⟩ := isOf hZ rfl (V18.1)
  obtain ⟨_, _, ⟨T19, L19, k19, n19⟩, -, X19, ⟨Lc19, hQ19, l19, y19, z19⟩, st19⟩ := X18.virtualBack hx (y := own_m5) (z := own_m5) hown (mvT hZ (own_w hw 29 rfl)) (mvT hZ (own_w hw 30 rfl)) (notFace_of_selects (args := #[]) (mvT hZ (own_w hw 32 rfl))) (mvT hZ (own_w hw 32 rfl)) (mvT hZ (own_w hw 31 rfl)) (by decide) (backOf (W := 0) (rm8 l Z a0 hw [] ad13 (0 : Int32) b1 b2 b3 b4 (own_f20 u0 u1 u2 ss v1 v2) (own_f21 u0 u1 u2 ss v1 v2) (own_f22 u0 u1 u2 ss v1 v2) (own_f23 u0 u1 u2 ss v1 v2) T18.heap n0 Zs18 V18 (by decide) (by decide)) hZ (own_w hw 33 rfl) (own_w hw 5 rfl) (by decide) (by decide)) q19a q19c (g := (mkF m 204 #[.val (.int p1), .val (.int p2), .val (.int p3), .val (.int ss), .val (.int (2 : Int32)), .val (.ref ad1), .val (.ref ad2), .val (.ref ad3), .val (.ref ad13), .val (.int (1 : Int32))] [(.int (0 : Int32)), (.ref ad13)])) rfl (by rw [hml]; rfl) (Steps.refl _) (argsL := [(.int (0 : Int32))]) (rest := []) (lenOf pd__I_I rfl) rfl (by show 2 * 0 + _ ≤ _; exact Nat.le_of_eq rfl) (hb hby at_204) (fun _ _ => ⟨rfl, rfl, (by decide : 8 + 0 ≤ _), (by decide : 23 + 0 ≤ _)⟩)
  dsimp only [Pt.U, Pt.locs, Pt.cells, Pt.slots] at X19 l19 y19 z19 st19 hQ19
  rw [l19, y19, z19] at X19
  obtain ⟨rfl, N19q, q19⟩ := hQ19
  have N19 := Fr.app N18 N19q
  have e19' : T19.heap = T18.heap := q19
  obtain ⟨_, _, ⟨T20, L20, k20, n20⟩, -, X20, ⟨Lc20, hQ20, l20, y20, z20⟩, st20⟩ := Jvm.LawKit.callS X19 hx (y := own_m6) hown (mvT hZ (own_w hw 34 rfl)) (mvT hZ (own_w hw 35 rfl)) (mvT hZ (own_w hw 36 rfl)) (mvT hZ (own_w hw 37 rfl)) (by decide) (backOf (W := 2) (rmL l Z a0 hw [] ad1 ad3 (0 : Int32) (3 : Int32) (own_upd (own_upd (own_upd own_zero (0 : Int32) u0) (1 : Int32) u1) (2 : Int32) u2) (own_upd (own_upd (own_upd own_zero (0 : Int32) (1 : Int32)) (1 : Int32) (1 : Int32)) (2 : Int32) (0 : Int32)) T18.heap n0 Zs18 A_ad1_18 A_ad3_18) hZ (own_w hw 37 rfl) (own_w hw 36 rfl) (by decide) (by decide)) (g := (mkF m 215 #[.val (.int p1), .val (.int p2), .val (.int p3), .val (.int ss), .val (.int (2 : Int32)), .val (.ref ad1), .val (.ref ad2), .val (.ref ad3), .val (.ref ad13), .val (.int (1 : Int32))] [(.int (3 : Int32)), (.int (0 : Int32)), (.ref ad3), (.ref ad1), (.ref ad2), (.int ((own_f20 u0 u1 u2 ss v1 v2) (0 : Int32)))])) rfl (by rw [hml]; rfl) (argsL := [(.ref ad1), (.ref ad3), (.int (0 : Int32)), (.int (3 : Int32))]) (rest := [(.ref ad2), (.int ((own_f20 u0 u1 u2 ss v1 v2) (0 : Int32)))]) (lenOf pd___I_ZII_I rfl) rfl (by show 2 * 0 + _ ≤ _; exact Nat.le_of_eq rfl) (hb hby at_215) (fun _ _ => ⟨rfl, e19', (by decide : 8 + 0 ≤ _), (by decide : 23 + 0 ≤ _)⟩)
  dsimp only [Pt.U, Pt.locs, Pt.cells, Pt.slots] at X20 l20 y20 z20 st20 hQ20
  rw [l20, y20, z20] at X20
  obtain ⟨rfl, N20q, q20⟩ := hQ20
  have N20 := Fr.app N19 N20q
  have e20' : T20.heap = T18.heap := q20
  obtain ⟨_, _, ⟨T21, L21, k21, n21⟩, -, X21, ⟨Lc21, hQ21, l21, y21, z21⟩, st21⟩ := Jvm.LawKit.callS X20 hx (y := own_m7) hown (mvT hZ (own_w hw 38 rfl)) (mvT hZ (own_w hw 39 rfl)) (mvT hZ (own_w hw 36 rfl)) (mvT hZ (own_w hw 40 rfl)) (by decide) (backOf (W := 1) (rmE l Z a0 hw [] ad2 (own_last (own_upd (own_upd (own_upd own_zero (0 : Int32) u0) (1 : Int32) u1) (2 : Int32) u2) (own_upd (own_upd (own_upd own_zero (0 : Int32) (1 : Int32)) (1 : Int32) (1 : Int32)) (2 : Int32) (0 : Int32)) (0 : Int32) (3 : Int32)) (own_upd (own_upd (own_upd own_zero (0 : Int32) ss) (1 : Int32) v1) (2 : Int32) v2) T18.heap n0 Zs18 A_ad2_18 (own_last_lt _ _ _ _)) hZ (own_w hw 40 rfl) (own_w hw 36 rfl) (by decide) (by decide)) (g := (mkF m 218 #[.val (.int p1), .val (.int p2), .val (.int p3), .val (.int ss), .val (.int (2 : Int32)), .val (.ref ad1), .val (.ref ad2), .val (.ref ad3), .val (.ref ad13), .val (.int (1 : Int32))] [(.int (own_last (own_upd (own_upd (own_upd own_zero (0 : Int32) u0) (1 : Int32) u1) (2 : Int32) u2) (own_upd (own_upd (own_upd own_zero (0 : Int32) (1 : Int32)) (1 : Int32) (1 : Int32)) (2 : Int32) (0 : Int32)) (0 : Int32) (3 : Int32))), (.ref ad2), (.int ((own_f20 u0 u1 u2 ss v1 v2) (0 : Int32)))])) rfl (by rw [hml]; rfl) (argsL := [(.ref ad2), (.int (own_last (own_upd (own_upd (own_upd own_zero (0 : Int32) u0) (1 : Int32) u1) (2 : Int32) u2) (own_upd (own_upd (own_upd own_zero (0 : Int32) (1 : Int32)) (1 : Int32) (1 : Int32)) (2 : Int32) (0 : Int32)) (0 : Int32) (3 : Int32)))]) (rest := [(.int ((own_f20 u0 u1 u2 ss v1 v2) (0 : Int32)))]) (lenOf pd___II_I rfl) rfl (by show 2 * 0 + _ ≤ _; exact Nat.le_of_eq rfl) (hb hby at_218) (fun _ _ => ⟨rfl, e20', (by decide : 8 + 0 ≤ _), (by decide : 23 + 0 ≤ _)⟩)
  dsimp only [Pt.U, Pt.locs, Pt.cells, Pt.slots] at X21 l21 y21 z21 st21 hQ21
  rw [l21, y21, z21] at X21
  obtain ⟨rfl, N21q, q21⟩ := hQ21
  have N21 := Fr.app N20 N21q
  have e21' : T21.heap = T18.heap := q21
  obtain ⟨cq22, kq22, q22a, q22b, q22c⟩ := isOf hZ e21' (V18.1)
  obtain ⟨_, _, ⟨T22, L22, k22, n22⟩, -, X22, ⟨Lc22, hQ22, l22, y22, z22⟩, st22⟩ := X21.virtualBack hx (y := own_m5) (z := own_m5) hown (mvT hZ (own_w hw 29 rfl)) (mvT hZ (own_w hw 30 rfl)) (notFace_of_selects (args := #[]) (mvT hZ (own_w hw 32 rfl))) (mvT hZ (own_w hw 32 rfl)) (mvT hZ (own_w hw 31 rfl)) (by decide) (backOf (W := 0) (rm8 l Z a0 hw [] ad13 (1 : Int32) b1 b2 b3 b4 (own_f20 u0 u1 u2 ss v1 v2) (own_f21 u0 u1 u2 ss v1 v2) (own_f22 u0 u1 u2 ss v1 v2) (own_f23 u0 u1 u2 ss v1 v2) T18.heap n0 Zs18 V18 (by decide) (by decide)) hZ (own_w hw 33 rfl) (own_w hw 5 rfl) (by decide) (by decide)) q22a q22c (g := (mkF m 239 #[.val (.int p1), .val (.int p2), .val (.int p3), .val (.int ss), .val (.int (2 : Int32)), .val (.ref ad1), .val (.ref ad2), .val (.ref ad3), .val (.ref ad13), .val (.int (1 : Int32))] [(.int (1 : Int32)), (.ref ad13)])) rfl (by rw [hml]; rfl) (Steps.refl _) (argsL := [(.int (1 : Int32))]) (rest := []) (lenOf pd__I_I rfl) rfl (by show 2 * 0 + _ ≤ _; exact Nat.le_of_eq rfl) (hb hby at_239) (fun _ _ => ⟨rfl, e21', (by decide : 8 + 0 ≤ _), (by decide : 23 + 0 ≤ _)⟩)
  dsimp only [Pt.U, Pt.locs, Pt.cells, Pt.slots] at X22 l22 y22 z22 st22 hQ22
  rw [l22, y22, z22] at X22
  obtain ⟨rfl, N22q, q22⟩ := hQ22
  have N22 := Fr.app N21 N22q
  have e22' : T22.heap = T18.heap := q22
  obtain ⟨_, _, ⟨T23, L23, k23, n23⟩, -, X23, ⟨Lc23, hQ23, l23, y23, z23⟩, st23⟩ := Jvm.LawKit.callS X22 hx (y := own_m6) hown (mvT hZ (own_w hw 34 rfl)) (mvT hZ (own_w hw 35 rfl)) (mvT hZ (own_w hw 36 rfl)) (mvT hZ (own_w hw 37 rfl)) (by decide) (backOf (W := 2) (rmL l Z a0 hw [] ad1 ad3 (1 : Int32) (3 : Int32) (own_upd (own_upd (own_upd own_zero (0 : Int32) u0) (1 : Int32) u1) (2 : Int32) u2) (own_upd (own_upd (own_upd own_zero (0 : Int32) (1 : Int32)) (1 : Int32) (1 : Int32)) (2 : Int32) (0 : Int32)) T18.heap n0 Zs18 A_ad1_18 A_ad3_18) hZ (own_w hw 37 rfl) (own_w hw 36 rfl) (by decide) (by decide)) (g := (mkF m 250 #[.val (.int p1), .val (.int p2), .val (.int p3), .val (.int ss), .val (.int (2 : Int32)), .val (.ref ad1), .val (.ref ad2), .val (.ref ad3), .val (.ref ad13), .val (.int (1 : Int32))] [(.int (3 : Int32)), (.int (1 : Int32)), (.ref ad3), (.ref ad1), (.ref ad2), (.int ((own_f20 u0 u1 u2 ss v1 v2) (1 : Int32)))])) rfl (by rw [hml]; rfl) (argsL := [(.ref ad1), (.ref ad3), (.int (1 : Int32)), (.int (3 : Int32))]) (rest := [(.ref ad2), (.int ((own_f20 u0 u1 u2 ss v1 v2) (1 : Int32)))]) (lenOf pd___I_ZII_I rfl) rfl (by show 2 * 0 + _ ≤ _; exact Nat.le_of_eq rfl) (hb hby at_250) (fun _ _ => ⟨rfl, e22', (by decide : 8 + 0 ≤ _), (by decide : 23 + 0 ≤ _)⟩)
  dsimp only [Pt.U, Pt.locs, Pt.cells, Pt.slots] at X23 l23 y23 z23 st23 hQ23
  rw [l23, y23, z23] at X23
  obtain ⟨rfl, N23q, q23⟩ := hQ23
  have N23 := Fr.app N22 N23q
  have e23' : T23.heap = T18.heap := q23
  obtain ⟨_, _, ⟨T24, L24, k24, n24⟩, -, X24, ⟨Lc24, hQ24, l24, y24, z24⟩, st24⟩ := Jvm.LawKit.callS X23 hx (y := own_m7) hown (mvT hZ (own_w hw 38 rfl)) (mvT hZ (own_w hw 39 rfl)) (mvT hZ (own_w hw 36 rfl)) (mvT hZ (own_w hw 40 rfl)) (by decide) (backOf (W := 1) (rmE l Z a0 hw [] ad2 (own_last (own_upd (own_upd (own_upd own_zero (0 : Int32) u0) (1 : Int32) u1) (2 : Int32) u2) (own_upd (own_upd (own_upd own_zero (0 : Int32) (1 : Int32)) (1 : Int32) (1 : Int32)) (2 : Int32) (0 : Int32)) (1 : Int32) (3 : Int32)) (own_upd (own_upd (own_upd own_zero (0 : Int32) ss) (1 : Int32) v1) (2 : Int32) v2) T18.heap n0 Zs18 A_ad2_18 (own_last_lt _ _ _ _)) hZ (own_w hw 40 rfl) (own_w hw 36 rfl) (by decide) (by decide)) (g := (mkF m 253 #[.val (.int p1), .val (.int p2), .val (.int p3), .val (.int ss), .val (.int (2 : Int32)), .val (.ref ad1), .val (.ref ad2), .val (.ref ad3), .val (.ref ad13), .val (.int (1 : Int32))] [(.int (own_last (own_upd (own_upd (own_upd own_zero (0 : Int32) u0) (1 : Int32) u1) (2 : Int32) u2) (own_upd (own_upd (own_upd own_zero (0 : Int32) (1 : Int32)) (1 : Int32) (1 : Int32)) (2 : Int32) (0 : Int32)) (1 : Int32) (3 : Int32))), (.ref ad2), (.int ((own_f20 u0 u1 u2 ss v1 v2) (1 : Int32)))])) rfl (by rw [hml]; rfl) (argsL := [(.ref ad2), (.int (own_last (own_upd (own_upd (own_upd own_zero (0 : Int32) u0) (1 : Int32) u1) (2 : Int32) u2) (own_upd (own_upd (own_upd own_zero (0 : Int32) (1 : Int32)) (1 : Int32) (1 : Int32)) (2 : Int32) (0 : Int32)) (1 : Int32) (3 : Int32)))]) (rest := [(.int ((own_f20 u0 u1 u2 ss v1 v2) (1 : Int32)))]) (lenOf pd___II_I rfl) rfl (by show 2 * 0 + _ ≤ _; exact Nat.le_of_eq rfl) (hb hby at_253) (fun _ _ => ⟨rfl, e23', (by decide : 8 + 0 ≤ _), (by decide : 23 + 0 ≤ _)⟩)
  dsimp only [Pt.U, Pt.locs, Pt.cells, Pt.slots] at X24 l24 y24 z24 st24 hQ24
  rw [l24, y24, z24] at X24
  obtain ⟨rfl, N24q, q24⟩ := hQ24
  have N24 := Fr.app N23 N24q
  have e24' : T24.heap = T18.heap := q24
  obtain ⟨cq25, kq25, q25a, q25b, q25c⟩ := isOf hZ e24' (V18.1)
  obtain ⟨_, _, ⟨T25, L25, k25, n25⟩, -, X25, ⟨Lc25, hQ25, l25, y25, z25⟩, st25⟩ := X24.virtualBack hx (y := own_m8) (z := own_m8) hown (mvT hZ (own_w hw 41 rfl)) (mvT hZ (own_w hw 42 rfl)) (notFace_of_selects (args := #[]) (mvT hZ (own_w hw 44 rfl))) (mvT hZ (own_w hw 44 rfl)) (mvT hZ (own_w hw 43 rfl)) (by decide) (backOf (W := 0) (rm7 l Z a0 hw [] ad13 (0 : Int32) b1 b2 b3 b4 (own_f20 u0 u1 u2 ss v1 v2) (own_f21 u0 u1 u2 ss v1 v2) (own_f22 u0 u1 u2 ss v1 v2) (own_f23 u0 u1 u2 ss v1 v2) T18.heap n0 Zs18 V18 (by decide) (by decide)) hZ (own_w hw 45 rfl) (own_w hw 5 rfl) (by decide) (by decide)) q25a q25c (g := (mkF m 274 #[.val (.int p1), .val (.int p2), .val (.int p3), .val (.int ss), .val (.int (2 : Int32)), .val (.ref ad1), .val (.ref ad2), .val (.ref ad3), .val (.ref ad13), .val (.int (1 : Int32))] [(.int (0 : Int32)), (.ref ad13)])) rfl (by rw [hml]; rfl) (Steps.refl _) (argsL := [(.int (0 : Int32))]) (rest := []) (lenOf pd__I_I rfl) rfl (by show 2 * 0 + _ ≤ _; exact Nat.le_of_eq rfl) (hb hby at_274) (fun _ _ => ⟨rfl, e24', (by decide : 8 + 0 ≤ _), (by decide : 23 + 0 ≤ _)⟩)
  dsimp only [Pt.U, Pt.locs, Pt.cells, Pt.slots] at X25 l25 y25 z25 st25 hQ25
  rw [l25, y25, z25] at X25
  obtain ⟨rfl, N25q, q25⟩ := hQ25
  have N25 := Fr.app N24 N25q
  have e25' : T25.heap = T18.heap := q25
  obtain ⟨_, _, ⟨T26, L26, k26, n26⟩, -, X26, ⟨Lc26, hQ26, l26, y26, z26⟩, st26⟩ := Jvm.LawKit.callS X25 hx (y := own_m9) hown (mvT hZ (own_w hw 46 rfl)) (mvT hZ (own_w hw 47 rfl)) (mvT hZ (own_w hw 36 rfl)) (mvT hZ (own_w hw 48 rfl)) (by decide) (backOf (W := 1) (rmC l Z a0 hw [] ad1 ad3 (0 : Int32) (own_upd (own_upd (own_upd own_zero (0 : Int32) u0) (1 : Int32) u1) (2 : Int32) u2) (own_upd (own_upd (own_upd own_zero (0 : Int32) (1 : Int32)) (1 : Int32) (1 : Int32)) (2 : Int32) (0 : Int32)) T18.heap n0 Zs18 A_ad1_18 A_ad3_18) hZ (own_w hw 48 rfl) (own_w hw 36 rfl) (by decide) (by decide)) (g := (mkF m 282 #[.val (.int p1), .val (.int p2), .val (.int p3), .val (.int ss), .val (.int (2 : Int32)), .val (.ref ad1), .val (.ref ad2), .val (.ref ad3), .val (.ref ad13), .val (.int (1 : Int32))] [(.int (0 : Int32)), (.ref ad3), (.ref ad1), (.int ((own_f21 u0 u1 u2 ss v1 v2) (0 : Int32)))])) rfl (by rw [hml]; rfl) (argsL := [(.ref ad1), (.ref ad3), (.int (0 : Int32))]) (rest := [(.int ((own_f21 u0 u1 u2 ss v1 v2) (0 : Int32)))]) (lenOf pd___I_ZI_I rfl) rfl (by show 2 * 0 + _ ≤ _; exact Nat.le_of_eq rfl) (hb hby at_282) (fun _ _ => ⟨rfl, e25', (by decide : 8 + 0 ≤ _), (by decide : 23 + 0 ≤ _)⟩)
  dsimp only [Pt.U, Pt.locs, Pt.cells, Pt.slots] at X26 l26 y26 z26 st26 hQ26
  rw [l26, y26, z26] at X26
  obtain ⟨rfl, N26q, q26⟩ := hQ26
  have N26 := Fr.app N25 N26q
  have e26' : T26.heap = T18.heap := q26
  obtain ⟨cq27, kq27, q27a, q27b, q27c⟩ := isOf hZ e26' (V18.1)
  obtain ⟨_, _, ⟨T27, L27, k27, n27⟩, -, X27, ⟨Lc27, hQ27, l27, y27, z27⟩, st27⟩ := X26.virtualBack hx (y := own_m8) (z := own_m8) hown (mvT hZ (own_w hw 41 rfl)) (mvT hZ (own_w hw 42 rfl)) (notFace_of_selects (args := #[]) (mvT hZ (own_w hw 44 rfl))) (mvT hZ (own_w hw 44 rfl)) (mvT hZ (own_w hw 43 rfl)) (by decide) (backOf (W := 0) (rm7 l Z a0 hw [] ad13 (1 : Int32) b1 b2 b3 b4 (own_f20 u0 u1 u2 ss v1 v2) (own_f21 u0 u1 u2 ss v1 v2) (own_f22 u0 u1 u2 ss v1 v2) (own_f23 u0 u1 u2 ss v1 v2) T18.heap n0 Zs18 V18 (by decide) (by decide)) hZ (own_w hw 45 rfl) (own_w hw 5 rfl) (by decide) (by decide)) q27a q27c (g := (mkF m 303 #[.val (.int p1), .val (.int p2), .val (.int p3), .val (.int ss), .val (.int (2 : Int32)), .val (.ref ad1), .val (.ref ad2), .val (.ref ad3), .val (.ref ad13), .val (.int (1 : Int32))] [(.int (1 : Int32)), (.ref ad13)])) rfl (by rw [hml]; rfl) (Steps.refl _) (argsL := [(.int (1 : Int32))]) (rest := []) (lenOf pd__I_I rfl) rfl (by show 2 * 0 + _ ≤ _; exact Nat.le_of_eq rfl) (hb hby at_303) (fun _ _ => ⟨rfl, e26', (by decide : 8 + 0 ≤ _), (by decide : 23 + 0 ≤ _)⟩)
  dsimp only [Pt.U, Pt.locs, Pt.cells, Pt.slots] at X27 l27 y27 z27 st27 hQ27
  rw [l27, y27, z27] at X27
  obtain ⟨rfl, N27q, q27⟩ := hQ27
  have N27 := Fr.app N26 N27q
  have e27' : T27.heap = T18.heap := q27
  obtain ⟨_, _, ⟨T28, L28, k28, n28⟩, -, X28, ⟨Lc28, hQ28, l28, y28, z28⟩, st28⟩ := Jvm.LawKit.callS X27 hx (y := own_m9) hown (mvT hZ (own_w hw 46 rfl)) (mvT hZ (own_w hw 47 rfl)) (mvT hZ (own_w hw 36 rfl)) (mvT hZ (own_w hw 48 rfl)) (by decide) (backOf (W := 1) (rmC l Z a0 hw [] ad1 ad3 (1 : Int32) (own_upd (own_upd (own_upd own_zero (0 : Int32) u0) (1 : Int32) u1) (2 : Int32) u2) (own_upd (own_upd (own_upd own_zero (0 : Int32) (1 : Int32)) (1 : Int32) (1 : Int32)) (2 : Int32) (0 : Int32)) T18.heap n0 Zs18 A_ad1_18 A_ad3_18) hZ (own_w hw 48 rfl) (own_w hw 36 rfl) (by decide) (by decide)) (g := (mkF m 311 #[.val (.int p1), .val (.int p2), .val (.int p3), .val (.int ss), .val (.int (2 : Int32)), .val (.ref ad1), .val (.ref ad2), .val (.ref ad3), .val (.ref ad13), .val (.int (1 : Int32))] [(.int (1 : Int32)), (.ref ad3), (.ref ad1), (.int ((own_f21 u0 u1 u2 ss v1 v2) (1 : Int32)))])) rfl (by rw [hml]; rfl) (argsL := [(.ref ad1), (.ref ad3), (.int (1 : Int32))]) (rest := [(.int ((own_f21 u0 u1 u2 ss v1 v2) (1 : Int32)))]) (lenOf pd___I_ZI_I rfl) rfl (by show 2 * 0 + _ ≤ _; exact Nat.le_of_eq rfl) (hb hby at_311) (fun _ _ => ⟨rfl, e27', (by decide : 8 + 0 ≤ _), (by decide : 23 + 0 ≤ _)⟩)
  dsimp only [Pt.U, Pt.locs, Pt.cells, Pt.slots] at X28 l28 y28 z28 st28 hQ28
  rw [l28, y28, z28] at X28
  obtain ⟨rfl, N28q, q28⟩ := hQ28
  have N28 := Fr.app N27 N28q
  have e28' : T28.heap = T18.heap := q28
  obtain ⟨cq29, kq29, q29a, q29b, q29c⟩ := isOf hZ e28' (V18.1)
  obtain ⟨_, _, ⟨T29, L29, k29, n29⟩, -, X29, ⟨Lc29, hQ29, l29, y29, z29⟩, st29⟩ := X28.virtualBack hx (y := own_m10) (z := own_m10) hown (mvT hZ (own_w hw 49 rfl)) (mvT hZ (own_w hw 50 rfl)) (notFace_of_selects (args := #[]) (mvT hZ (own_w hw 52 rfl))) (mvT hZ (own_w hw 52 rfl)) (mvT hZ (own_w hw 51 rfl)) (by decide) (backOf (W := 0) (rm9 l Z a0 hw [] ad13 ss b1 b2 b3 b4 (own_f20 u0 u1 u2 ss v1 v2) (own_f21 u0 u1 u2 ss v1 v2) (own_f22 u0 u1 u2 ss v1 v2) (own_f23 u0 u1 u2 ss v1 v2) T18.heap n0 Zs18 V18 (own_k2 u0 u1 u2 ss v1 v2 c_u0 c_u1 c_u2 c_s hv1 hv2) (own_k3 u0 u1 u2 ss v1 v2 c_u0 c_u1 c_u2 c_s hv1 hv2)) hZ (own_w hw 53 rfl) (own_w hw 5 rfl) (by decide) (by decide)) q29a q29c (g := (mkF m 342 #[.val (.int p1), .val (.int p2), .val (.int p3), .val (.int ss), .val (.int (2 : Int32)), .val (.ref ad1), .val (.ref ad2), .val (.ref ad3), .val (.ref ad13), .val (.int (1 : Int32))] [(.int ss), (.ref ad13)])) rfl (by rw [hml]; rfl) (Steps.refl _) (argsL := [(.int ss)]) (rest := []) (lenOf pd__I_I rfl) rfl (by show 2 * 0 + _ ≤ _; exact Nat.le_of_eq rfl) (hb hby at_342) (fun _ _ => ⟨rfl, e28', (by decide : 8 + 0 ≤ _), (by decide : 23 + 0 ≤ _)⟩)
  dsimp only [Pt.U, Pt.locs, Pt.cells, Pt.slots] at X29 l29 y29 z29 st29 hQ29
  rw [l29, y29, z29] at X29
  obtain ⟨rfl, N29q, q29⟩ := hQ29
  have N29 := Fr.app N28 N29q
  have e29' : T29.heap = T18.heap := q29
  obtain ⟨_, _, ⟨T30, L30, k30, n30⟩, -, X30, ⟨Lc30, hQ30, l30, y30, z30⟩, st30⟩ := Jvm.LawKit.callS X29 hx (y := own_m6) hown (mvT hZ (own_w hw 34 rfl)) (mvT hZ (own_w hw 35 rfl)) (mvT hZ (own_w hw 36 rfl)) (mvT hZ (own_w hw 37 rfl)) (by decide) (backOf (W := 2) (rmL l Z a0 hw [] ad1 ad3 u0 (0 : Int32) (own_upd (own_upd (own_upd own_zero (0 : Int32) u0) (1 : Int32) u1) (2 : Int32) u2) (own_upd (own_upd (own_upd own_zero (0 : Int32) (1 : Int32)) (1 : Int32) (1 : Int32)) (2 : Int32) (0 : Int32)) T18.heap n0 Zs18 A_ad1_18 A_ad3_18) hZ (own_w hw 37 rfl) (own_w hw 36 rfl) (by decide) (by decide)) (g := (mkF m 356 #[.val (.int p1), .val (.int p2), .val (.int p3), .val (.int ss), .val (.int (2 : Int32)), .val (.ref ad1), .val (.ref ad2), .val (.ref ad3), .val (.ref ad13), .val (.int (1 : Int32))] [(.int (0 : Int32)), (.int u0), (.ref ad3), (.ref ad1), (.ref ad2), (.int ((own_f22 u0 u1 u2 ss v1 v2) ss))])) rfl (by rw [hml]; rfl) (argsL := [(.ref ad1), (.ref ad3), (.int u0), (.int (0 : Int32))]) (rest := [(.ref ad2), (.int ((own_f22 u0 u1 u2 ss v1 v2) ss))]) (lenOf pd___I_ZII_I rfl) rfl (by show 2 * 0 + _ ≤ _; exact Nat.le_of_eq rfl) (hb hby at_356) (fun _ _ => ⟨rfl, e29', (by decide : 8 + 0 ≤ _), (by decide : 23 + 0 ≤ _)⟩)
  dsimp only [Pt.U, Pt.locs, Pt.cells, Pt.slots] at X30 l30 y30 z30 st30 hQ30
  rw [l30, y30, z30] at X30
  obtain ⟨rfl, N30q, q30⟩ := hQ30
  have N30 := Fr.app N29 N30q
  have e30' : T30.heap = T18.heap := q30
  obtain ⟨_, _, ⟨T31, L31, k31, n31⟩, -, X31, ⟨Lc31, hQ31, l31, y31, z31⟩, st31⟩ := Jvm.LawKit.callS X30 hx (y := own_m7) hown (mvT hZ (own_w hw 38 rfl)) (mvT hZ (own_w hw 39 rfl)) (mvT hZ (own_w hw 36 rfl)) (mvT hZ (own_w hw 40 rfl)) (by decide) (backOf (W := 1) (rmE l Z a0 hw [] ad2 (own_last (own_upd (own_upd (own_upd own_zero (0 : Int32) u0) (1 : Int32) u1) (2 : Int32) u2) (own_upd (own_upd (own_upd own_zero (0 : Int32) (1 : Int32)) (1 : Int32) (1 : Int32)) (2 : Int32) (0 : Int32)) u0 (0 : Int32)) (own_upd (own_upd (own_upd own_zero (0 : Int32) ss) (1 : Int32) v1) (2 : Int32) v2) T18.heap n0 Zs18 A_ad2_18 (own_last_lt _ _ _ _)) hZ (own_w hw 40 rfl) (own_w hw 36 rfl) (by decide) (by decide)) (g := (mkF m 359 #[.val (.int p1), .val (.int p2), .val (.int p3), .val (.int ss), .val (.int (2 : Int32)), .val (.ref ad1), .val (.ref ad2), .val (.ref ad3), .val (.ref ad13), .val (.int (1 : Int32))] [(.int (own_last (own_upd (own_upd (own_upd own_zero (0 : Int32) u0) (1 : Int32) u1) (2 : Int32) u2) (own_upd (own_upd (own_upd own_zero (0 : Int32) (1 : Int32)) (1 : Int32) (1 : Int32)) (2 : Int32) (0 : Int32)) u0 (0 : Int32))), (.ref ad2), (.int ((own_f22 u0 u1 u2 ss v1 v2) ss))])) rfl (by rw [hml]; rfl) (argsL := [(.ref ad2), (.int (own_last (own_upd (own_upd (own_upd own_zero (0 : Int32) u0) (1 : Int32) u1) (2 : Int32) u2) (own_upd (own_upd (own_upd own_zero (0 : Int32) (1 : Int32)) (1 : Int32) (1 : Int32)) (2 : Int32) (0 : Int32)) u0 (0 : Int32)))]) (rest := [(.int ((own_f22 u0 u1 u2 ss v1 v2) ss))]) (lenOf pd___II_I rfl) rfl (by show 2 * 0 + _ ≤ _; exact Nat.le_of_eq rfl) (hb hby at_359) (fun _ _ => ⟨rfl, e30', (by decide : 8 + 0 ≤ _), (by decide : 23 + 0 ≤ _)⟩)
  dsimp only [Pt.U, Pt.locs, Pt.cells, Pt.slots] at X31 l31 y31 z31 st31 hQ31
  rw [l31, y31, z31] at X31
  obtain ⟨rfl, N31q, q31⟩ := hQ31
  have N31 := Fr.app N30 N31q
  have e31' : T31.heap = T18.heap := q31
  obtain ⟨cq32, kq32, q32a, q32b, q32c⟩ := isOf hZ e31' (V18.1)
  obtain ⟨_, _, ⟨T32, L32, k32, n32⟩, -, X32, ⟨Lc32, hQ32, l32, y32, z32⟩, st32⟩ := X31.virtualBack hx (y := own_m10) (z := own_m10) hown (mvT hZ (own_w hw 49 rfl)) (mvT hZ (own_w hw 50 rfl)) (notFace_of_selects (args := #[]) (mvT hZ (own_w hw 52 rfl))) (mvT hZ (own_w hw 52 rfl)) (mvT hZ (own_w hw 51 rfl)) (by decide) (backOf (W := 0) (rm9 l Z a0 hw [] ad13 v1 b1 b2 b3 b4 (own_f20 u0 u1 u2 ss v1 v2) (own_f21 u0 u1 u2 ss v1 v2) (own_f22 u0 u1 u2 ss v1 v2) (own_f23 u0 u1 u2 ss v1 v2) T18.heap n0 Zs18 V18 (own_k7 u0 u1 u2 ss v1 v2 c_u0 c_u1 c_u2 c_s hv1 hv2) (own_k8 u0 u1 u2 ss v1 v2 c_u0 c_u1 c_u2 c_s hv1 hv2)) hZ (own_w hw 53 rfl) (own_w hw 5 rfl) (by decide) (by decide)) q32a q32c (g := (mkF m 390 #[.val (.int p1), .val (.int p2), .val (.int p3), .val (.int ss), .val (.int (2 : Int32)), .val (.ref ad1), .val (.ref ad2), .val (.ref ad3), .val (.ref ad13), .val (.int (1 : Int32))] [(.int v1), (.ref ad13)])) rfl (by rw [hml]; rfl) (Steps.refl _) (argsL := [(.int v1)]) (rest := []) (lenOf pd__I_I rfl) rfl (by show 2 * 0 + _ ≤ _; exact Nat.le_of_eq rfl) (hb hby at_390) (fun _ _ => ⟨rfl, e31', (by decide : 8 + 0 ≤ _), (by decide : 23 + 0 ≤ _)⟩)
  dsimp only [Pt.U, Pt.locs, Pt.cells, Pt.slots] at X32 l32 y32 z32 st32 hQ32
  rw [l32, y32, z32] at X32
  obtain ⟨rfl, N32q, q32⟩ := hQ32
  have N32 := Fr.app N31 N32q
  have e32' : T32.heap = T18.heap := q32
  obtain ⟨_, _, ⟨T33, L33, k33, n33⟩, -, X33, ⟨Lc33, hQ33, l33, y33, z33⟩, st33⟩ := Jvm.LawKit.callS X32 hx (y := own_m6) hown (mvT hZ (own_w hw 34 rfl)) (mvT hZ (own_w hw 35 rfl)) (mvT hZ (own_w hw 36 rfl)) (mvT hZ (own_w hw 37 rfl)) (by decide) (backOf (W := 2) (rmL l Z a0 hw [] ad1 ad3 u1 (1 : Int32) (own_upd (own_upd (own_upd own_zero (0 : Int32) u0) (1 : Int32) u1) (2 : Int32) u2) (own_upd (own_upd (own_upd own_zero (0 : Int32) (1 : Int32)) (1 : Int32) (1 : Int32)) (2 : Int32) (0 : Int32)) T18.heap n0 Zs18 A_ad1_18 A_ad3_18) hZ (own_w hw 37 rfl) (own_w hw 36 rfl) (by decide) (by decide)) (g := (mkF m 404 #[.val (.int p1), .val (.int p2), .val (.int p3), .val (.int ss), .val (.int (2 : Int32)), .val (.ref ad1), .val (.ref ad2), .val (.ref ad3), .val (.ref ad13), .val (.int (1 : Int32))] [(.int (1 : Int32)), (.int u1), (.ref ad3), (.ref ad1), (.ref ad2), (.int ((own_f22 u0 u1 u2 ss v1 v2) v1))])) rfl (by rw [hml]; rfl) (argsL := [(.ref ad1), (.ref ad3), (.int u1), (.int (1 : Int32))]) (rest := [(.ref ad2), (.int ((own_f22 u0 u1 u2 ss v1 v2) v1))]) (lenOf pd___I_ZII_I rfl) rfl (by show 2 * 0 + _ ≤ _; exact Nat.le_of_eq rfl) (hb hby at_404) (fun _ _ => ⟨rfl, e32', (by decide : 8 + 0 ≤ _), (by decide : 23 + 0 ≤ _)⟩)
  dsimp only [Pt.U, Pt.locs, Pt.cells, Pt.slots] at X33 l33 y33 z33 st33 hQ33
  rw [l33, y33, z33] at X33
  obtain ⟨rfl, N33q, q33⟩ := hQ33
  have N33 := Fr.app N32 N33q
  have e33' : T33.heap = T18.heap := q33
  obtain ⟨_, _, ⟨T34, L34, k34, n34⟩, -, X34, ⟨Lc34, hQ34, l34, y34, z34⟩, st34⟩ := Jvm.LawKit.callS X33 hx (y := own_m7) hown (mvT hZ (own_w hw 38 rfl)) (mvT hZ (own_w hw 39 rfl)) (mvT hZ (own_w hw 36 rfl)) (mvT hZ (own_w hw 40 rfl)) (by decide) (backOf (W := 1) (rmE l Z a0 hw [] ad2 (own_last (own_upd (own_upd (own_upd own_zero (0 : Int32) u0) (1 : Int32) u1) (2 : Int32) u2) (own_upd (own_upd (own_upd own_zero (0 : Int32) (1 : Int32)) (1 : Int32) (1 : Int32)) (2 : Int32) (0 : Int32)) u1 (1 : Int32)) (own_upd (own_upd (own_upd own_zero (0 : Int32) ss) (1 : Int32) v1) (2 : Int32) v2) T18.heap n0 Zs18 A_ad2_18 (own_last_lt _ _ _ _)) hZ (own_w hw 40 rfl) (own_w hw 36 rfl) (by decide) (by decide)) (g := (mkF m 407 #[.val (.int p1), .val (.int p2), .val (.int p3), .val (.int ss), .val (.int (2 : Int32)), .val (.ref ad1), .val (.ref ad2), .val (.ref ad3), .val (.ref ad13), .val (.int (1 : Int32))] [(.int (own_last (own_upd (own_upd (own_upd own_zero (0 : Int32) u0) (1 : Int32) u1) (2 : Int32) u2) (own_upd (own_upd (own_upd own_zero (0 : Int32) (1 : Int32)) (1 : Int32) (1 : Int32)) (2 : Int32) (0 : Int32)) u1 (1 : Int32))), (.ref ad2), (.int ((own_f22 u0 u1 u2 ss v1 v2) v1))])) rfl (by rw [hml]; rfl) (argsL := [(.ref ad2), (.int (own_last (own_upd (own_upd (own_upd own_zero (0 : Int32) u0) (1 : Int32) u1) (2 : Int32) u2) (own_upd (own_upd (own_upd own_zero (0 : Int32) (1 : Int32)) (1 : Int32) (1 : Int32)) (2 : Int32) (0 : Int32)) u1 (1 : Int32)))]) (rest := [(.int ((own_f22 u0 u1 u2 ss v1 v2) v1))]) (lenOf pd___II_I rfl) rfl (by show 2 * 0 + _ ≤ _; exact Nat.le_of_eq rfl) (hb hby at_407) (fun _ _ => ⟨rfl, e33', (by decide : 8 + 0 ≤ _), (by decide : 23 + 0 ≤ _)⟩)
  dsimp only [Pt.U, Pt.locs, Pt.cells, Pt.slots] at X34 l34 y34 z34 st34 hQ34
  rw [l34, y34, z34] at X34
  obtain ⟨rfl, N34q, q34⟩ := hQ34
  have N34 := Fr.app N33 N34q
  have e34' : T34.heap = T18.heap := q34
  obtain ⟨fs, hr, hrun, hended, hW, hsame⟩ := X34.leave (v := some (.int (1 : Int32))) (fun h => by rw [Bd.returns] at h; cases h)
  refine ⟨_, _, pre0 _ ?_, hrun, hended, _, _, rfl, ?_, ⟨_, rfl⟩, hW, hsame.mono (by decide) (by decide)⟩
  · show Steps p.tables e below (s₁.setTop (mkF m 0 #[.val (.int p1), .val (.int p2), .val (.int p3), .unset, .unset, .unset, .unset, .unset, .unset, .unset] [])) _
    refine XS.iloadN X0.here hx rfl (hb hby at_0) rfl ?_
    show Steps p.tables e below (s₁.setTop (mkF m 1 #[.val (.int p1), .val (.int p2), .val (.int p3), .unset, .unset, .unset, .unset, .unset, .unset, .unset] [(.int p3)])) _
    refine X0.ldcInt hx hown (mvT hZ (own_w hw 0 rfl)) (g := (mkF m 1 #[.val (.int p1), .val (.int p2), .val (.int p3), .unset, .unset, .unset, .unset, .unset, .unset, .unset] [(.int p3)])) rfl (hb hby at_1) _ ?_
    show Steps p.tables e below (s₁.setTop (mkF m 3 #[.val (.int p1), .val (.int p2), .val (.int p3), .unset, .unset, .unset, .unset, .unset, .unset, .unset] [(.int (2147483647 : Int32)), (.int p3)])) _
    refine XS.iand X0.here hx rfl (hb hby at_3) rfl ?_
    show Steps p.tables e below (s₁.setTop (mkF m 4 #[.val (.int p1), .val (.int p2), .val (.int p3), .unset, .unset, .unset, .unset, .unset, .unset, .unset] [(.int (p3 &&& (2147483647 : Int32)))])) _
    refine XS.iconst X0.here hx rfl (hb hby at_4) ?_
    show Steps p.tables e below (s₁.setTop (mkF m 5 #[.val (.int p1), .val (.int p2), .val (.int p3), .unset, .unset, .unset, .unset, .unset, .unset, .unset] [(.int (3 : Int32)), (.int (p3 &&& (2147483647 : Int32)))])) _
    refine iremM X0 hx rfl (hb hby at_5) rfl (by decide) ?_
    rw [← hss]
    show Steps p.tables e below (s₁.setTop (mkF m 6 #[.val (.int p1), .val (.int p2), .val (.int p3), .unset, .unset, .unset, .unset, .unset, .unset, .unset] [(.int ss)])) _
    refine XS.istoreN X0.here hx rfl (hb hby at_6) rfl (l' := #[.val (.int p1), .val (.int p2), .val (.int p3), .val (.int ss), .unset, .unset, .unset, .unset, .unset, .unset]) rfl ?_
    refine XS.iloadN X0.here hx rfl (hb hby at_7) rfl ?_
    show Steps p.tables e below (s₁.setTop (mkF m 8 #[.val (.int p1), .val (.int p2), .val (.int p3), .val (.int ss), .unset, .unset, .unset, .unset, .unset, .unset] [(.int p2)])) _
    refine X0.ldcInt hx hown (mvT hZ (own_w hw 0 rfl)) (g := (mkF m 8 #[.val (.int p1), .val (.int p2), .val (.int p3), .val (.int ss), .unset, .unset, .unset, .unset, .unset, .unset] [(.int p2)])) rfl (hb hby at_8) _ ?_
    show Steps p.tables e below (s₁.setTop (mkF m 10 #[.val (.int p1), .val (.int p2), .val (.int p3), .val (.int ss), .unset, .unset, .unset, .unset, .unset, .unset] [(.int (2147483647 : Int32)), (.int p2)])) _
    refine XS.iand X0.here hx rfl (hb hby at_10) rfl ?_
    show Steps p.tables e below (s₁.setTop (mkF m 11 #[.val (.int p1), .val (.int p2), .val (.int p3), .val (.int ss), .unset, .unset, .unset, .unset, .unset, .unset] [(.int (p2 &&& (2147483647 : Int32)))])) _
    refine XS.iconst X0.here hx rfl (hb hby at_11) ?_
    show Steps p.tables e below (s₁.setTop (mkF m 12 #[.val (.int p1), .val (.int p2), .val (.int p3), .val (.int ss), .unset, .unset, .unset, .unset, .unset, .unset] [(.int (4 : Int32)), (.int (p2 &&& (2147483647 : Int32)))])) _
    refine iremM X0 hx rfl (hb hby at_12) rfl (by decide) ?_
    rw [hR]
    show Steps p.tables e below (s₁.setTop (mkF m 13 #[.val (.int p1), .val (.int p2), .val (.int p3), .val (.int ss), .unset, .unset, .unset, .unset, .unset, .unset] [(.int (2 : Int32))])) _
    refine XS.istore X0.here hx rfl (hb hby at_13) rfl (l' := #[.val (.int p1), .val (.int p2), .val (.int p3), .val (.int ss), .val (.int (2 : Int32)), .unset, .unset, .unset, .unset, .unset]) rfl ?_
    refine XS.iconst X0.here hx rfl (hb hby at_15) ?_
    show Steps p.tables e below (s₁.setTop (mkF m 16 #[.val (.int p1), .val (.int p2), .val (.int p3), .val (.int ss), .val (.int (2 : Int32)), .unset, .unset, .unset, .unset, .unset] [(.int (3 : Int32))])) _
    refine st1 _ ?_
    show Steps p.tables e below (T1.setTop (mkF m 18 #[.val (.int p1), .val (.int p2), .val (.int p3), .val (.int ss), .val (.int (2 : Int32)), .unset, .unset, .unset, .unset, .unset] [(.ref ad1)])) _
    refine XS.astore X1.here hx rfl (hb hby at_18) rfl rfl (l' := #[.val (.int p1), .val (.int p2), .val (.int p3), .val (.int ss), .val (.int (2 : Int32)), .val (.ref ad1), .unset, .unset, .unset, .unset]) rfl ?_
    refine XS.iconst X1.here hx rfl (hb hby at_20) ?_
    show Steps p.tables e below (T1.setTop (mkF m 21 #[.val (.int p1), .val (.int p2), .val (.int p3), .val (.int ss), .val (.int (2 : Int32)), .val (.ref ad1), .unset, .unset, .unset, .unset] [(.int (3 : Int32))])) _
    refine st2 _ ?_
    show Steps p.tables e below (T2.setTop (mkF m 23 #[.val (.int p1), .val (.int p2), .val (.int p3), .val (.int ss), .val (.int (2 : Int32)), .val (.ref ad1), .unset, .unset, .unset, .unset] [(.ref ad2)])) _
    refine XS.astore X2.here hx rfl (hb hby at_23) rfl rfl (l' := #[.val (.int p1), .val (.int p2), .val (.int p3), .val (.int ss), .val (.int (2 : Int32)), .val (.ref ad1), .val (.ref ad2), .unset, .unset, .unset]) rfl ?_
    refine XS.iconst X2.here hx rfl (hb hby at_25) ?_
    show Steps p.tables e below (T2.setTop (mkF m 26 #[.val (.int p1), .val (.int p2), .val (.int p3), .val (.int ss), .val (.int (2 : Int32)), .val (.ref ad1), .val (.ref ad2), .unset, .unset, .unset] [(.int (3 : Int32))])) _
    refine st3 _ ?_
    show Steps p.tables e below (T3.setTop (mkF m 28 #[.val (.int p1), .val (.int p2), .val (.int p3), .val (.int ss), .val (.int (2 : Int32)), .val (.ref ad1), .val (.ref ad2), .unset, .unset, .unset] [(.ref ad3)])) _
    refine XS.astore X3.here hx rfl (hb hby at_28) rfl rfl (l' := #[.val (.int p1), .val (.int p2), .val (.int p3), .val (.int ss), .val (.int (2 : Int32)), .val (.ref ad1), .val (.ref ad2), .val (.ref ad3), .unset, .unset]) rfl ?_
    refine XS.aload X3.here hx rfl (hb hby at_30) rfl rfl ?_
    refine XS.iconst X3.here hx rfl (hb hby at_32) ?_
    refine XS.iloadN X3.here hx rfl (hb hby at_33) rfl ?_
    refine XS.iconst X3.here hx rfl (hb hby at_34) ?_
    show Steps p.tables e below (T3.setTop (mkF m 35 #[.val (.int p1), .val (.int p2), .val (.int p3), .val (.int ss), .val (.int (2 : Int32)), .val (.ref ad1), .val (.ref ad2), .val (.ref ad3), .unset, .unset] [(.int (1 : Int32)), (.int p1), (.int (0 : Int32)), (.ref ad1)])) _
    refine XS.iand X3.here hx rfl (hb hby at_35) rfl ?_
    rw [← hu0]
    show Steps p.tables e below (T3.setTop (mkF m 36 #[.val (.int p1), .val (.int p2), .val (.int p3), .val (.int ss), .val (.int (2 : Int32)), .val (.ref ad1), .val (.ref ad2), .val (.ref ad3), .unset, .unset] [(.int u0), (.int (0 : Int32)), (.ref ad1)])) _
    refine st4 _ ?_
    show Steps p.tables e below (T4.setTop (mkF m 37 #[.val (.int p1), .val (.int p2), .val (.int p3), .val (.int ss), .val (.int (2 : Int32)), .val (.ref ad1), .val (.ref ad2), .val (.ref ad3), .unset, .unset] [])) _
    refine XS.aload X4.here hx rfl (hb hby at_37) rfl rfl ?_
    refine XS.iconst X4.here hx rfl (hb hby at_39) ?_
    refine XS.iloadN X4.here hx rfl (hb hby at_40) rfl ?_
    refine XS.iconst X4.here hx rfl (hb hby at_41) ?_
    show Steps p.tables e below (T4.setTop (mkF m 42 #[.val (.int p1), .val (.int p2), .val (.int p3), .val (.int ss), .val (.int (2 : Int32)), .val (.ref ad1), .val (.ref ad2), .val (.ref ad3), .unset, .unset] [(.int (1 : Int32)), (.int p1), (.int (1 : Int32)), (.ref ad1)])) _
    refine XS.iushr X4.here hx rfl (hb hby at_42) rfl ?_
    show Steps p.tables e below (T4.setTop (mkF m 43 #[.val (.int p1), .val (.int p2), .val (.int p3), .val (.int ss), .val (.int (2 : Int32)), .val (.ref ad1), .val (.ref ad2), .val (.ref ad3), .unset, .unset] [(.int ((p1.toUInt32 >>> ((1 : Int32) &&& 31).toUInt32).toInt32)), (.int (1 : Int32)), (.ref ad1)])) _
    refine XS.iconst X4.here hx rfl (hb hby at_43) ?_
    show Steps p.tables e below (T4.setTop (mkF m 44 #[.val (.int p1), .val (.int p2), .val (.int p3), .val (.int ss), .val (.int (2 : Int32)), .val (.ref ad1), .val (.ref ad2), .val (.ref ad3), .unset, .unset] [(.int (1 : Int32)), (.int ((p1.toUInt32 >>> ((1 : Int32) &&& 31).toUInt32).toInt32)), (.int (1 : Int32)), (.ref ad1)])) _
    refine XS.iand X4.here hx rfl (hb hby at_44) rfl ?_
    rw [← hu1]
    show Steps p.tables e below (T4.setTop (mkF m 45 #[.val (.int p1), .val (.int p2), .val (.int p3), .val (.int ss), .val (.int (2 : Int32)), .val (.ref ad1), .val (.ref ad2), .val (.ref ad3), .unset, .unset] [(.int u1), (.int (1 : Int32)), (.ref ad1)])) _
    refine st5 _ ?_
    show Steps p.tables e below (T5.setTop (mkF m 46 #[.val (.int p1), .val (.int p2), .val (.int p3), .val (.int ss), .val (.int (2 : Int32)), .val (.ref ad1), .val (.ref ad2), .val (.ref ad3), .unset, .unset] [])) _
    refine XS.aload X5.here hx rfl (hb hby at_46) rfl rfl ?_
    refine XS.iconst X5.here hx rfl (hb hby at_48) ?_
    refine XS.iloadN X5.here hx rfl (hb hby at_49) rfl ?_
    refine XS.iconst X5.here hx rfl (hb hby at_50) ?_
    show Steps p.tables e below (T5.setTop (mkF m 51 #[.val (.int p1), .val (.int p2), .val (.int p3), .val (.int ss), .val (.int (2 : Int32)), .val (.ref ad1), .val (.ref ad2), .val (.ref ad3), .unset, .unset] [(.int (2 : Int32)), (.int p1), (.int (2 : Int32)), (.ref ad1)])) _
    refine XS.iushr X5.here hx rfl (hb hby at_51) rfl ?_
    show Steps p.tables e below (T5.setTop (mkF m 52 #[.val (.int p1), .val (.int p2), .val (.int p3), .val (.int ss), .val (.int (2 : Int32)), .val (.ref ad1), .val (.ref ad2), .val (.ref ad3), .unset, .unset] [(.int ((p1.toUInt32 >>> ((2 : Int32) &&& 31).toUInt32).toInt32)), (.int (2 : Int32)), (.ref ad1)])) _
    refine XS.iconst X5.here hx rfl (hb hby at_52) ?_
    show Steps p.tables e below (T5.setTop (mkF m 53 #[.val (.int p1), .val (.int p2), .val (.int p3), .val (.int ss), .val (.int (2 : Int32)), .val (.ref ad1), .val (.ref ad2), .val (.ref ad3), .unset, .unset] [(.int (1 : Int32)), (.int ((p1.toUInt32 >>> ((2 : Int32) &&& 31).toUInt32).toInt32)), (.int (2 : Int32)), (.ref ad1)])) _
    refine XS.iand X5.here hx rfl (hb hby at_53) rfl ?_
    rw [← hu2]
    show Steps p.tables e below (T5.setTop (mkF m 54 #[.val (.int p1), .val (.int p2), .val (.int p3), .val (.int ss), .val (.int (2 : Int32)), .val (.ref ad1), .val (.ref ad2), .val (.ref ad3), .unset, .unset] [(.int u2), (.int (2 : Int32)), (.ref ad1)])) _
    refine st6 _ ?_
    show Steps p.tables e below (T6.setTop (mkF m 55 #[.val (.int p1), .val (.int p2), .val (.int p3), .val (.int ss), .val (.int (2 : Int32)), .val (.ref ad1), .val (.ref ad2), .val (.ref ad3), .unset, .unset] [])) _
    refine XS.aload X6.here hx rfl (hb hby at_55) rfl rfl ?_
    refine XS.iconst X6.here hx rfl (hb hby at_57) ?_
    refine XS.iloadN X6.here hx rfl (hb hby at_58) rfl ?_
    show Steps p.tables e below (T6.setTop (mkF m 59 #[.val (.int p1), .val (.int p2), .val (.int p3), .val (.int ss), .val (.int (2 : Int32)), .val (.ref ad1), .val (.ref ad2), .val (.ref ad3), .unset, .unset] [(.int ss), (.int (0 : Int32)), (.ref ad2)])) _
    refine st7 _ ?_
    show Steps p.tables e below (T7.setTop (mkF m 60 #[.val (.int p1), .val (.int p2), .val (.int p3), .val (.int ss), .val (.int (2 : Int32)), .val (.ref ad1), .val (.ref ad2), .val (.ref ad3), .unset, .unset] [])) _
    refine XS.aload X7.here hx rfl (hb hby at_60) rfl rfl ?_
    refine XS.iconst X7.here hx rfl (hb hby at_62) ?_
    refine XS.iconst X7.here hx rfl (hb hby at_63) ?_
    refine XS.iloadN X7.here hx rfl (hb hby at_64) rfl ?_
    show Steps p.tables e below (T7.setTop (mkF m 65 #[.val (.int p1), .val (.int p2), .val (.int p3), .val (.int ss), .val (.int (2 : Int32)), .val (.ref ad1), .val (.ref ad2), .val (.ref ad3), .unset, .unset] [(.int ss), (.int (1 : Int32)), (.int (1 : Int32)), (.ref ad2)])) _
    refine XS.iadd X7.here hx rfl (hb hby at_65) rfl ?_
    show Steps p.tables e below (T7.setTop (mkF m 66 #[.val (.int p1), .val (.int p2), .val (.int p3), .val (.int ss), .val (.int (2 : Int32)), .val (.ref ad1), .val (.ref ad2), .val (.ref ad3), .unset, .unset] [(.int ((1 : Int32) + ss)), (.int (1 : Int32)), (.ref ad2)])) _
    refine XS.iconst X7.here hx rfl (hb hby at_66) ?_
    show Steps p.tables e below (T7.setTop (mkF m 67 #[.val (.int p1), .val (.int p2), .val (.int p3), .val (.int ss), .val (.int (2 : Int32)), .val (.ref ad1), .val (.ref ad2), .val (.ref ad3), .unset, .unset] [(.int (3 : Int32)), (.int ((1 : Int32) + ss)), (.int (1 : Int32)), (.ref ad2)])) _
    refine iremM X7 hx rfl (hb hby at_67) rfl (by decide) ?_
    rw [← hv1]
    show Steps p.tables e below (T7.setTop (mkF m 68 #[.val (.int p1), .val (.int p2), .val (.int p3), .val (.int ss), .val (.int (2 : Int32)), .val (.ref ad1), .val (.ref ad2), .val (.ref ad3), .unset, .unset] [(.int v1), (.int (1 : Int32)), (.ref ad2)])) _
    refine st8 _ ?_
    show Steps p.tables e below (T8.setTop (mkF m 69 #[.val (.int p1), .val (.int p2), .val (.int p3), .val (.int ss), .val (.int (2 : Int32)), .val (.ref ad1), .val (.ref ad2), .val (.ref ad3), .unset, .unset] [])) _
    refine XS.aload X8.here hx rfl (hb hby at_69) rfl rfl ?_
    refine XS.iconst X8.here hx rfl (hb hby at_71) ?_
    refine XS.iconst X8.here hx rfl (hb hby at_72) ?_
    refine XS.iloadN X8.here hx rfl (hb hby at_73) rfl ?_
    show Steps p.tables e below (T8.setTop (mkF m 74 #[.val (.int p1), .val (.int p2), .val (.int p3), .val (.int ss), .val (.int (2 : Int32)), .val (.ref ad1), .val (.ref ad2), .val (.ref ad3), .unset, .unset] [(.int ss), (.int (2 : Int32)), (.int (2 : Int32)), (.ref ad2)])) _
    refine XS.iadd X8.here hx rfl (hb hby at_74) rfl ?_
    show Steps p.tables e below (T8.setTop (mkF m 75 #[.val (.int p1), .val (.int p2), .val (.int p3), .val (.int ss), .val (.int (2 : Int32)), .val (.ref ad1), .val (.ref ad2), .val (.ref ad3), .unset, .unset] [(.int ((2 : Int32) + ss)), (.int (2 : Int32)), (.ref ad2)])) _
    refine XS.iconst X8.here hx rfl (hb hby at_75) ?_
    show Steps p.tables e below (T8.setTop (mkF m 76 #[.val (.int p1), .val (.int p2), .val (.int p3), .val (.int ss), .val (.int (2 : Int32)), .val (.ref ad1), .val (.ref ad2), .val (.ref ad3), .unset, .unset] [(.int (3 : Int32)), (.int ((2 : Int32) + ss)), (.int (2 : Int32)), (.ref ad2)])) _
    refine iremM X8 hx rfl (hb hby at_76) rfl (by decide) ?_
    rw [← hv2]
    show Steps p.tables e below (T8.setTop (mkF m 77 #[.val (.int p1), .val (.int p2), .val (.int p3), .val (.int ss), .val (.int (2 : Int32)), .val (.ref ad1), .val (.ref ad2), .val (.ref ad3), .unset, .unset] [(.int v2), (.int (2 : Int32)), (.ref ad2)])) _
    refine st9 _ ?_
    show Steps p.tables e below (T9.setTop (mkF m 78 #[.val (.int p1), .val (.int p2), .val (.int p3), .val (.int ss), .val (.int (2 : Int32)), .val (.ref ad1), .val (.ref ad2), .val (.ref ad3), .unset, .unset] [])) _
    refine XS.aload X9.here hx rfl (hb hby at_78) rfl rfl ?_
    refine XS.iconst X9.here hx rfl (hb hby at_80) ?_
    refine XS.iload X9.here hx rfl (hb hby at_81) rfl ?_
    show Steps p.tables e below (T9.setTop (mkF m 83 #[.val (.int p1), .val (.int p2), .val (.int p3), .val (.int ss), .val (.int (2 : Int32)), .val (.ref ad1), .val (.ref ad2), .val (.ref ad3), .unset, .unset] [(.int (2 : Int32)), (.int (0 : Int32)), (.ref ad3)])) _
    refine XS.ifNo X9.here hx rfl (hb hby at_83) rfl ((if0 _ _).trans (feq (by decide : ¬ ((2 : Int32) = (0 : Int32)))).1) ?_
    show Steps p.tables e below (T9.setTop (mkF m 86 #[.val (.int p1), .val (.int p2), .val (.int p3), .val (.int ss), .val (.int (2 : Int32)), .val (.ref ad1), .val (.ref ad2), .val (.ref ad3), .unset, .unset] [(.int (0 : Int32)), (.ref ad3)])) _
    refine XS.iconst X9.here hx rfl (hb hby at_86) ?_
    refine XS.goto X9.here hx rfl (pc0 := 87) (pc' := 91) rfl (hb hby at_87) (by decide) (by decide) ?_
    show Steps p.tables e below (T9.setTop (mkF m 91 #[.val (.int p1), .val (.int p2), .val (.int p3), .val (.int ss), .val (.int (2 : Int32)), .val (.ref ad1), .val (.ref ad2), .val (.ref ad3), .unset, .unset] [(.int (1 : Int32)), (.int (0 : Int32)), (.ref ad3)])) _
    refine st10 _ ?_
    show Steps p.tables e below (T10.setTop (mkF m 92 #[.val (.int p1), .val (.int p2), .val (.int p3), .val (.int ss), .val (.int (2 : Int32)), .val (.ref ad1), .val (.ref ad2), .val (.ref ad3), .unset, .unset] [])) _
    refine XS.aload X10.here hx rfl (hb hby at_92) rfl rfl ?_
    refine XS.iconst X10.here hx rfl (hb hby at_94) ?_
    refine XS.iload X10.here hx rfl (hb hby at_95) rfl ?_
    refine XS.iconst X10.here hx rfl (hb hby at_97) ?_
    show Steps p.tables e below (T10.setTop (mkF m 98 #[.val (.int p1), .val (.int p2), .val (.int p3), .val (.int ss), .val (.int (2 : Int32)), .val (.ref ad1), .val (.ref ad2), .val (.ref ad3), .unset, .unset] [(.int (1 : Int32)), (.int (2 : Int32)), (.int (1 : Int32)), (.ref ad3)])) _
    refine XS.icmpNo X10.here hx rfl (hb hby at_98) rfl (feq (by decide : ¬ ((2 : Int32) = (1 : Int32)))).1 ?_
    show Steps p.tables e below (T10.setTop (mkF m 101 #[.val (.int p1), .val (.int p2), .val (.int p3), .val (.int ss), .val (.int (2 : Int32)), .val (.ref ad1), .val (.ref ad2), .val (.ref ad3), .unset, .unset] [(.int (1 : Int32)), (.ref ad3)])) _
    refine XS.iconst X10.here hx rfl (hb hby at_101) ?_
    refine XS.goto X10.here hx rfl (pc0 := 102) (pc' := 106) rfl (hb hby at_102) (by decide) (by decide) ?_
    show Steps p.tables e below (T10.setTop (mkF m 106 #[.val (.int p1), .val (.int p2), .val (.int p3), .val (.int ss), .val (.int (2 : Int32)), .val (.ref ad1), .val (.ref ad2), .val (.ref ad3), .unset, .unset] [(.int (1 : Int32)), (.int (1 : Int32)), (.ref ad3)])) _
    refine st11 _ ?_
    show Steps p.tables e below (T11.setTop (mkF m 107 #[.val (.int p1), .val (.int p2), .val (.int p3), .val (.int ss), .val (.int (2 : Int32)), .val (.ref ad1), .val (.ref ad2), .val (.ref ad3), .unset, .unset] [])) _
    refine XS.aload X11.here hx rfl (hb hby at_107) rfl rfl ?_
    refine XS.iconst X11.here hx rfl (hb hby at_109) ?_
    refine XS.iload X11.here hx rfl (hb hby at_110) rfl ?_
    refine XS.iconst X11.here hx rfl (hb hby at_112) ?_
    show Steps p.tables e below (T11.setTop (mkF m 113 #[.val (.int p1), .val (.int p2), .val (.int p3), .val (.int ss), .val (.int (2 : Int32)), .val (.ref ad1), .val (.ref ad2), .val (.ref ad3), .unset, .unset] [(.int (2 : Int32)), (.int (2 : Int32)), (.int (2 : Int32)), (.ref ad3)])) _
    refine XS.icmpYes X11.here hx rfl (pc0 := 113) (pc' := 120) rfl (hb hby at_113) rfl (teq (by decide : (2 : Int32) = (2 : Int32))).1 (by decide) (by decide) ?_
    show Steps p.tables e below (T11.setTop (mkF m 120 #[.val (.int p1), .val (.int p2), .val (.int p3), .val (.int ss), .val (.int (2 : Int32)), .val (.ref ad1), .val (.ref ad2), .val (.ref ad3), .unset, .unset] [(.int (2 : Int32)), (.ref ad3)])) _
    refine XS.iconst X11.here hx rfl (hb hby at_120) ?_
    show Steps p.tables e below (T11.setTop (mkF m 121 #[.val (.int p1), .val (.int p2), .val (.int p3), .val (.int ss), .val (.int (2 : Int32)), .val (.ref ad1), .val (.ref ad2), .val (.ref ad3), .unset, .unset] [(.int (0 : Int32)), (.int (2 : Int32)), (.ref ad3)])) _
    refine st12 _ ?_
    show Steps p.tables e below (T12.setTop (mkF m 122 #[.val (.int p1), .val (.int p2), .val (.int p3), .val (.int ss), .val (.int (2 : Int32)), .val (.ref ad1), .val (.ref ad2), .val (.ref ad3), .unset, .unset] [])) _
    refine st13 _ ?_
    show Steps p.tables e below (T13.setTop (mkF m 125 #[.val (.int p1), .val (.int p2), .val (.int p3), .val (.int ss), .val (.int (2 : Int32)), .val (.ref ad1), .val (.ref ad2), .val (.ref ad3), .unset, .unset] [(.ref ad13)])) _
    refine XS.dup X13.here hx rfl (hb hby at_125) rfl rfl ?_
    refine XS.iconst X13.here hx rfl (hb hby at_126) ?_
    refine XS.iconst X13.here hx rfl (hb hby at_127) ?_
    show Steps p.tables e below (T13.setTop (mkF m 128 #[.val (.int p1), .val (.int p2), .val (.int p3), .val (.int ss), .val (.int (2 : Int32)), .val (.ref ad1), .val (.ref ad2), .val (.ref ad3), .unset, .unset] [(.int (3 : Int32)), (.int (2 : Int32)), (.ref ad13), (.ref ad13)])) _
    refine st14.trans ?_
    show Steps p.tables e below (T14.setTop (mkF m 131 #[.val (.int p1), .val (.int p2), .val (.int p3), .val (.int ss), .val (.int (2 : Int32)), .val (.ref ad1), .val (.ref ad2), .val (.ref ad3), .unset, .unset] [(.ref ad13)])) _
    refine XS.astore X14.here hx rfl (hb hby at_131) rfl rfl (l' := #[.val (.int p1), .val (.int p2), .val (.int p3), .val (.int ss), .val (.int (2 : Int32)), .val (.ref ad1), .val (.ref ad2), .val (.ref ad3), .val (.ref ad13), .unset]) rfl ?_
    refine XS.aload X14.here hx rfl (hb hby at_133) rfl rfl ?_
    refine XS.aload X14.here hx rfl (hb hby at_135) rfl rfl ?_
    refine XS.iconst X14.here hx rfl (hb hby at_137) ?_
    show Steps p.tables e below (T14.setTop (mkF m 138 #[.val (.int p1), .val (.int p2), .val (.int p3), .val (.int ss), .val (.int (2 : Int32)), .val (.ref ad1), .val (.ref ad2), .val (.ref ad3), .val (.ref ad13), .unset] [(.int (0 : Int32)), (.ref ad1), (.ref ad13)])) _
    refine own_ld X14 hx hZ rfl A_ad1_14 (by decide) (by decide) (g := (mkF m 138 #[.val (.int p1), .val (.int p2), .val (.int p3), .val (.int ss), .val (.int (2 : Int32)), .val (.ref ad1), .val (.ref ad2), .val (.ref ad3), .val (.ref ad13), .unset] [(.int (0 : Int32)), (.ref ad1), (.ref ad13)])) rfl rfl (hb hby at_138) _ ?_
    show Steps p.tables e below (T14.setTop (mkF m 139 #[.val (.int p1), .val (.int p2), .val (.int p3), .val (.int ss), .val (.int (2 : Int32)), .val (.ref ad1), .val (.ref ad2), .val (.ref ad3), .val (.ref ad13), .unset] [(.int u0), (.ref ad13)])) _
    refine XS.aload X14.here hx rfl (hb hby at_139) rfl rfl ?_
    refine XS.iconst X14.here hx rfl (hb hby at_141) ?_
    show Steps p.tables e below (T14.setTop (mkF m 142 #[.val (.int p1), .val (.int p2), .val (.int p3), .val (.int ss), .val (.int (2 : Int32)), .val (.ref ad1), .val (.ref ad2), .val (.ref ad3), .val (.ref ad13), .unset] [(.int (0 : Int32)), (.ref ad2), (.int u0), (.ref ad13)])) _
    refine own_ld X14 hx hZ rfl A_ad2_14 (by decide) (by decide) (g := (mkF m 142 #[.val (.int p1), .val (.int p2), .val (.int p3), .val (.int ss), .val (.int (2 : Int32)), .val (.ref ad1), .val (.ref ad2), .val (.ref ad3), .val (.ref ad13), .unset] [(.int (0 : Int32)), (.ref ad2), (.int u0), (.ref ad13)])) rfl rfl (hb hby at_142) _ ?_
    show Steps p.tables e below (T14.setTop (mkF m 143 #[.val (.int p1), .val (.int p2), .val (.int p3), .val (.int ss), .val (.int (2 : Int32)), .val (.ref ad1), .val (.ref ad2), .val (.ref ad3), .val (.ref ad13), .unset] [(.int ss), (.int u0), (.ref ad13)])) _
    refine st15.trans ?_
    show Steps p.tables e below (T15.setTop (mkF m 146 #[.val (.int p1), .val (.int p2), .val (.int p3), .val (.int ss), .val (.int (2 : Int32)), .val (.ref ad1), .val (.ref ad2), .val (.ref ad3), .val (.ref ad13), .unset] [])) _
    refine XS.aload X15.here hx rfl (hb hby at_146) rfl rfl ?_
    refine XS.aload X15.here hx rfl (hb hby at_148) rfl rfl ?_
    refine XS.iconst X15.here hx rfl (hb hby at_150) ?_
    show Steps p.tables e below (T15.setTop (mkF m 151 #[.val (.int p1), .val (.int p2), .val (.int p3), .val (.int ss), .val (.int (2 : Int32)), .val (.ref ad1), .val (.ref ad2), .val (.ref ad3), .val (.ref ad13), .unset] [(.int (1 : Int32)), (.ref ad1), (.ref ad13)])) _
    refine own_ld X15 hx hZ rfl A_ad1_15 (by decide) (by decide) (g := (mkF m 151 #[.val (.int p1), .val (.int p2), .val (.int p3), .val (.int ss), .val (.int (2 : Int32)), .val (.ref ad1), .val (.ref ad2), .val (.ref ad3), .val (.ref ad13), .unset] [(.int (1 : Int32)), (.ref ad1), (.ref ad13)])) rfl rfl (hb hby at_151) _ ?_
    show Steps p.tables e below (T15.setTop (mkF m 152 #[.val (.int p1), .val (.int p2), .val (.int p3), .val (.int ss), .val (.int (2 : Int32)), .val (.ref ad1), .val (.ref ad2), .val (.ref ad3), .val (.ref ad13), .unset] [(.int u1), (.ref ad13)])) _
    refine XS.aload X15.here hx rfl (hb hby at_152) rfl rfl ?_
    refine XS.iconst X15.here hx rfl (hb hby at_154) ?_
    show Steps p.tables e below (T15.setTop (mkF m 155 #[.val (.int p1), .val (.int p2), .val (.int p3), .val (.int ss), .val (.int (2 : Int32)), .val (.ref ad1), .val (.ref ad2), .val (.ref ad3), .val (.ref ad13), .unset] [(.int (1 : Int32)), (.ref ad2), (.int u1), (.ref ad13)])) _
    refine own_ld X15 hx hZ rfl A_ad2_15 (by decide) (by decide) (g := (mkF m 155 #[.val (.int p1), .val (.int p2), .val (.int p3), .val (.int ss), .val (.int (2 : Int32)), .val (.ref ad1), .val (.ref ad2), .val (.ref ad3), .val (.ref ad13), .unset] [(.int (1 : Int32)), (.ref ad2), (.int u1), (.ref ad13)])) rfl rfl (hb hby at_155) _ ?_
    show Steps p.tables e below (T15.setTop (mkF m 156 #[.val (.int p1), .val (.int p2), .val (.int p3), .val (.int ss), .val (.int (2 : Int32)), .val (.ref ad1), .val (.ref ad2), .val (.ref ad3), .val (.ref ad13), .unset] [(.int v1), (.int u1), (.ref ad13)])) _
    refine st16.trans ?_
    show Steps p.tables e below (T16.setTop (mkF m 159 #[.val (.int p1), .val (.int p2), .val (.int p3), .val (.int ss), .val (.int (2 : Int32)), .val (.ref ad1), .val (.ref ad2), .val (.ref ad3), .val (.ref ad13), .unset] [])) _
    refine XS.aload X16.here hx rfl (hb hby at_159) rfl rfl ?_
    refine XS.aload X16.here hx rfl (hb hby at_161) rfl rfl ?_
    refine XS.iconst X16.here hx rfl (hb hby at_163) ?_
    show Steps p.tables e below (T16.setTop (mkF m 164 #[.val (.int p1), .val (.int p2), .val (.int p3), .val (.int ss), .val (.int (2 : Int32)), .val (.ref ad1), .val (.ref ad2), .val (.ref ad3), .val (.ref ad13), .unset] [(.int (2 : Int32)), (.ref ad1), (.ref ad13)])) _
    refine own_ld X16 hx hZ rfl A_ad1_16 (by decide) (by decide) (g := (mkF m 164 #[.val (.int p1), .val (.int p2), .val (.int p3), .val (.int ss), .val (.int (2 : Int32)), .val (.ref ad1), .val (.ref ad2), .val (.ref ad3), .val (.ref ad13), .unset] [(.int (2 : Int32)), (.ref ad1), (.ref ad13)])) rfl rfl (hb hby at_164) _ ?_
    show Steps p.tables e below (T16.setTop (mkF m 165 #[.val (.int p1), .val (.int p2), .val (.int p3), .val (.int ss), .val (.int (2 : Int32)), .val (.ref ad1), .val (.ref ad2), .val (.ref ad3), .val (.ref ad13), .unset] [(.int u2), (.ref ad13)])) _
    refine XS.aload X16.here hx rfl (hb hby at_165) rfl rfl ?_
    refine XS.iconst X16.here hx rfl (hb hby at_167) ?_
    show Steps p.tables e below (T16.setTop (mkF m 168 #[.val (.int p1), .val (.int p2), .val (.int p3), .val (.int ss), .val (.int (2 : Int32)), .val (.ref ad1), .val (.ref ad2), .val (.ref ad3), .val (.ref ad13), .unset] [(.int (2 : Int32)), (.ref ad2), (.int u2), (.ref ad13)])) _
    refine own_ld X16 hx hZ rfl A_ad2_16 (by decide) (by decide) (g := (mkF m 168 #[.val (.int p1), .val (.int p2), .val (.int p3), .val (.int ss), .val (.int (2 : Int32)), .val (.ref ad1), .val (.ref ad2), .val (.ref ad3), .val (.ref ad13), .unset] [(.int (2 : Int32)), (.ref ad2), (.int u2), (.ref ad13)])) rfl rfl (hb hby at_168) _ ?_
    show Steps p.tables e below (T16.setTop (mkF m 169 #[.val (.int p1), .val (.int p2), .val (.int p3), .val (.int ss), .val (.int (2 : Int32)), .val (.ref ad1), .val (.ref ad2), .val (.ref ad3), .val (.ref ad13), .unset] [(.int v2), (.int u2), (.ref ad13)])) _
    refine st17.trans ?_
    show Steps p.tables e below (T17.setTop (mkF m 172 #[.val (.int p1), .val (.int p2), .val (.int p3), .val (.int ss), .val (.int (2 : Int32)), .val (.ref ad1), .val (.ref ad2), .val (.ref ad3), .val (.ref ad13), .unset] [])) _
    refine XS.iload X17.here hx rfl (hb hby at_172) rfl ?_
    refine XS.iconst X17.here hx rfl (hb hby at_174) ?_
    show Steps p.tables e below (T17.setTop (mkF m 175 #[.val (.int p1), .val (.int p2), .val (.int p3), .val (.int ss), .val (.int (2 : Int32)), .val (.ref ad1), .val (.ref ad2), .val (.ref ad3), .val (.ref ad13), .unset] [(.int (3 : Int32)), (.int (2 : Int32))])) _
    refine XS.icmpNo X17.here hx rfl (hb hby at_175) rfl (tlt (by decide : (2 : Int32) < (3 : Int32))).2.1 ?_
    show Steps p.tables e below (T17.setTop (mkF m 178 #[.val (.int p1), .val (.int p2), .val (.int p3), .val (.int ss), .val (.int (2 : Int32)), .val (.ref ad1), .val (.ref ad2), .val (.ref ad3), .val (.ref ad13), .unset] [])) _
    refine XS.aload X17.here hx rfl (hb hby at_178) rfl rfl ?_
    refine XS.aload X17.here hx rfl (hb hby at_180) rfl rfl ?_
    refine XS.iload X17.here hx rfl (hb hby at_182) rfl ?_
    show Steps p.tables e below (T17.setTop (mkF m 184 #[.val (.int p1), .val (.int p2), .val (.int p3), .val (.int ss), .val (.int (2 : Int32)), .val (.ref ad1), .val (.ref ad2), .val (.ref ad3), .val (.ref ad13), .unset] [(.int (2 : Int32)), (.ref ad1), (.ref ad13)])) _
    refine own_ld X17 hx hZ rfl A_ad1_17 (by decide) (by decide) (g := (mkF m 184 #[.val (.int p1), .val (.int p2), .val (.int p3), .val (.int ss), .val (.int (2 : Int32)), .val (.ref ad1), .val (.ref ad2), .val (.ref ad3), .val (.ref ad13), .unset] [(.int (2 : Int32)), (.ref ad1), (.ref ad13)])) rfl rfl (hb hby at_184) _ ?_
    show Steps p.tables e below (T17.setTop (mkF m 185 #[.val (.int p1), .val (.int p2), .val (.int p3), .val (.int ss), .val (.int (2 : Int32)), .val (.ref ad1), .val (.ref ad2), .val (.ref ad3), .val (.ref ad13), .unset] [(.int u2), (.ref ad13)])) _
    refine XS.aload X17.here hx rfl (hb hby at_185) rfl rfl ?_
    refine XS.iload X17.here hx rfl (hb hby at_187) rfl ?_
    show Steps p.tables e below (T17.setTop (mkF m 189 #[.val (.int p1), .val (.int p2), .val (.int p3), .val (.int ss), .val (.int (2 : Int32)), .val (.ref ad1), .val (.ref ad2), .val (.ref ad3), .val (.ref ad13), .unset] [(.int (2 : Int32)), (.ref ad2), (.int u2), (.ref ad13)])) _
    refine own_ld X17 hx hZ rfl A_ad2_17 (by decide) (by decide) (g := (mkF m 189 #[.val (.int p1), .val (.int p2), .val (.int p3), .val (.int ss), .val (.int (2 : Int32)), .val (.ref ad1), .val (.ref ad2), .val (.ref ad3), .val (.ref ad13), .unset] [(.int (2 : Int32)), (.ref ad2), (.int u2), (.ref ad13)])) rfl rfl (hb hby at_189) _ ?_
    show Steps p.tables e below (T17.setTop (mkF m 190 #[.val (.int p1), .val (.int p2), .val (.int p3), .val (.int ss), .val (.int (2 : Int32)), .val (.ref ad1), .val (.ref ad2), .val (.ref ad3), .val (.ref ad13), .unset] [(.int v2), (.int u2), (.ref ad13)])) _
    refine st18.trans ?_
    show Steps p.tables e below (T18.setTop (mkF m 193 #[.val (.int p1), .val (.int p2), .val (.int p3), .val (.int ss), .val (.int (2 : Int32)), .val (.ref ad1), .val (.ref ad2), .val (.ref ad3), .val (.ref ad13), .unset] [])) _
    refine XS.iconst X18.here hx rfl (hb hby at_193) ?_
    refine XS.istore X18.here hx rfl (hb hby at_194) rfl (l' := #[.val (.int p1), .val (.int p2), .val (.int p3), .val (.int ss), .val (.int (2 : Int32)), .val (.ref ad1), .val (.ref ad2), .val (.ref ad3), .val (.ref ad13), .val (.int (1 : Int32))]) rfl ?_
    refine XS.iload X18.here hx rfl (hb hby at_196) rfl ?_
    show Steps p.tables e below (T18.setTop (mkF m 198 #[.val (.int p1), .val (.int p2), .val (.int p3), .val (.int ss), .val (.int (2 : Int32)), .val (.ref ad1), .val (.ref ad2), .val (.ref ad3), .val (.ref ad13), .val (.int (1 : Int32))] [(.int (1 : Int32))])) _
    refine XS.ifNo X18.here hx rfl (hb hby at_198) rfl ((if0 _ _).trans (feq (by decide : ¬ ((1 : Int32) = (0 : Int32)))).1) ?_
    show Steps p.tables e below (T18.setTop (mkF m 201 #[.val (.int p1), .val (.int p2), .val (.int p3), .val (.int ss), .val (.int (2 : Int32)), .val (.ref ad1), .val (.ref ad2), .val (.ref ad3), .val (.ref ad13), .val (.int (1 : Int32))] [])) _
    refine XS.aload X18.here hx rfl (hb hby at_201) rfl rfl ?_
    refine XS.iconst X18.here hx rfl (hb hby at_203) ?_
    show Steps p.tables e below (T18.setTop (mkF m 204 #[.val (.int p1), .val (.int p2), .val (.int p3), .val (.int ss), .val (.int (2 : Int32)), .val (.ref ad1), .val (.ref ad2), .val (.ref ad3), .val (.ref ad13), .val (.int (1 : Int32))] [(.int (0 : Int32)), (.ref ad13)])) _
    refine st19.trans ?_
    show Steps p.tables e below (T19.setTop (mkF m 207 #[.val (.int p1), .val (.int p2), .val (.int p3), .val (.int ss), .val (.int (2 : Int32)), .val (.ref ad1), .val (.ref ad2), .val (.ref ad3), .val (.ref ad13), .val (.int (1 : Int32))] [(.int ((own_f20 u0 u1 u2 ss v1 v2) (0 : Int32)))])) _
    refine XS.aload X19.here hx rfl (hb hby at_207) rfl rfl ?_
    refine XS.aload X19.here hx rfl (hb hby at_209) rfl rfl ?_
    refine XS.aload X19.here hx rfl (hb hby at_211) rfl rfl ?_
    refine XS.iconst X19.here hx rfl (hb hby at_213) ?_
    refine XS.iconst X19.here hx rfl (hb hby at_214) ?_
    show Steps p.tables e below (T19.setTop (mkF m 215 #[.val (.int p1), .val (.int p2), .val (.int p3), .val (.int ss), .val (.int (2 : Int32)), .val (.ref ad1), .val (.ref ad2), .val (.ref ad3), .val (.ref ad13), .val (.int (1 : Int32))] [(.int (3 : Int32)), (.int (0 : Int32)), (.ref ad3), (.ref ad1), (.ref ad2), (.int ((own_f20 u0 u1 u2 ss v1 v2) (0 : Int32)))])) _
    refine st20 _ ?_
    show Steps p.tables e below (T20.setTop (mkF m 218 #[.val (.int p1), .val (.int p2), .val (.int p3), .val (.int ss), .val (.int (2 : Int32)), .val (.ref ad1), .val (.ref ad2), .val (.ref ad3), .val (.ref ad13), .val (.int (1 : Int32))] [(.int (own_last (own_upd (own_upd (own_upd own_zero (0 : Int32) u0) (1 : Int32) u1) (2 : Int32) u2) (own_upd (own_upd (own_upd own_zero (0 : Int32) (1 : Int32)) (1 : Int32) (1 : Int32)) (2 : Int32) (0 : Int32)) (0 : Int32) (3 : Int32))), (.ref ad2), (.int ((own_f20 u0 u1 u2 ss v1 v2) (0 : Int32)))])) _
    refine st21 _ ?_
    show Steps p.tables e below (T21.setTop (mkF m 221 #[.val (.int p1), .val (.int p2), .val (.int p3), .val (.int ss), .val (.int (2 : Int32)), .val (.ref ad1), .val (.ref ad2), .val (.ref ad3), .val (.ref ad13), .val (.int (1 : Int32))] [(.int (own_el (own_upd (own_upd (own_upd own_zero (0 : Int32) ss) (1 : Int32) v1) (2 : Int32) v2) (own_last (own_upd (own_upd (own_upd own_zero (0 : Int32) u0) (1 : Int32) u1) (2 : Int32) u2) (own_upd (own_upd (own_upd own_zero (0 : Int32) (1 : Int32)) (1 : Int32) (1 : Int32)) (2 : Int32) (0 : Int32)) (0 : Int32) (3 : Int32)))), (.int ((own_f20 u0 u1 u2 ss v1 v2) (0 : Int32)))])) _
    refine XS.icmpNo X21.here hx rfl (hb hby at_221) rfl (teq (show ((own_f20 u0 u1 u2 ss v1 v2) (0 : Int32)) = (own_el (own_upd (own_upd (own_upd own_zero (0 : Int32) ss) (1 : Int32) v1) (2 : Int32) v2) (own_last (own_upd (own_upd (own_upd own_zero (0 : Int32) u0) (1 : Int32) u1) (2 : Int32) u2) (own_upd (own_upd (own_upd own_zero (0 : Int32) (1 : Int32)) (1 : Int32) (1 : Int32)) (2 : Int32) (0 : Int32)) (0 : Int32) (3 : Int32))) from (own_k33 u0 u1 u2 ss v1 v2 c_u0 c_u1 c_u2 c_s hv1 hv2))).2 ?_
    show Steps p.tables e below (T21.setTop (mkF m 224 #[.val (.int p1), .val (.int p2), .val (.int p3), .val (.int ss), .val (.int (2 : Int32)), .val (.ref ad1), .val (.ref ad2), .val (.ref ad3), .val (.ref ad13), .val (.int (1 : Int32))] [])) _
    refine XS.iconst X21.here hx rfl (hb hby at_224) ?_
    refine XS.goto X21.here hx rfl (pc0 := 225) (pc' := 229) rfl (hb hby at_225) (by decide) (by decide) ?_
    refine XS.istore X21.here hx rfl (hb hby at_229) rfl (l' := #[.val (.int p1), .val (.int p2), .val (.int p3), .val (.int ss), .val (.int (2 : Int32)), .val (.ref ad1), .val (.ref ad2), .val (.ref ad3), .val (.ref ad13), .val (.int (1 : Int32))]) rfl ?_
    refine XS.iload X21.here hx rfl (hb hby at_231) rfl ?_
    show Steps p.tables e below (T21.setTop (mkF m 233 #[.val (.int p1), .val (.int p2), .val (.int p3), .val (.int ss), .val (.int (2 : Int32)), .val (.ref ad1), .val (.ref ad2), .val (.ref ad3), .val (.ref ad13), .val (.int (1 : Int32))] [(.int (1 : Int32))])) _
    refine XS.ifNo X21.here hx rfl (hb hby at_233) rfl ((if0 _ _).trans (feq (by decide : ¬ ((1 : Int32) = (0 : Int32)))).1) ?_
    show Steps p.tables e below (T21.setTop (mkF m 236 #[.val (.int p1), .val (.int p2), .val (.int p3), .val (.int ss), .val (.int (2 : Int32)), .val (.ref ad1), .val (.ref ad2), .val (.ref ad3), .val (.ref ad13), .val (.int (1 : Int32))] [])) _
    refine XS.aload X21.here hx rfl (hb hby at_236) rfl rfl ?_
    refine XS.iconst X21.here hx rfl (hb hby at_238) ?_
    show Steps p.tables e below (T21.setTop (mkF m 239 #[.val (.int p1), .val (.int p2), .val (.int p3), .val (.int ss), .val (.int (2 : Int32)), .val (.ref ad1), .val (.ref ad2), .val (.ref ad3), .val (.ref ad13), .val (.int (1 : Int32))] [(.int (1 : Int32)), (.ref ad13)])) _
    refine st22.trans ?_
    show Steps p.tables e below (T22.setTop (mkF m 242 #[.val (.int p1), .val (.int p2), .val (.int p3), .val (.int ss), .val (.int (2 : Int32)), .val (.ref ad1), .val (.ref ad2), .val (.ref ad3), .val (.ref ad13), .val (.int (1 : Int32))] [(.int ((own_f20 u0 u1 u2 ss v1 v2) (1 : Int32)))])) _
    refine XS.aload X22.here hx rfl (hb hby at_242) rfl rfl ?_
    refine XS.aload X22.here hx rfl (hb hby at_244) rfl rfl ?_
    refine XS.aload X22.here hx rfl (hb hby at_246) rfl rfl ?_
    refine XS.iconst X22.here hx rfl (hb hby at_248) ?_
    refine XS.iconst X22.here hx rfl (hb hby at_249) ?_
    show Steps p.tables e below (T22.setTop (mkF m 250 #[.val (.int p1), .val (.int p2), .val (.int p3), .val (.int ss), .val (.int (2 : Int32)), .val (.ref ad1), .val (.ref ad2), .val (.ref ad3), .val (.ref ad13), .val (.int (1 : Int32))] [(.int (3 : Int32)), (.int (1 : Int32)), (.ref ad3), (.ref ad1), (.ref ad2), (.int ((own_f20 u0 u1 u2 ss v1 v2) (1 : Int32)))])) _
    refine st23 _ ?_
    show Steps p.tables e below (T23.setTop (mkF m 253 #[.val (.int p1), .val (.int p2), .val (.int p3), .val (.int ss), .val (.int (2 : Int32)), .val (.ref ad1), .val (.ref ad2), .val (.ref ad3), .val (.ref ad13), .val (.int (1 : Int32))] [(.int (own_last (own_upd (own_upd (own_upd own_zero (0 : Int32) u0) (1 : Int32) u1) (2 : Int32) u2) (own_upd (own_upd (own_upd own_zero (0 : Int32) (1 : Int32)) (1 : Int32) (1 : Int32)) (2 : Int32) (0 : Int32)) (1 : Int32) (3 : Int32))), (.ref ad2), (.int ((own_f20 u0 u1 u2 ss v1 v2) (1 : Int32)))])) _
    refine st24 _ ?_
    show Steps p.tables e below (T24.setTop (mkF m 256 #[.val (.int p1), .val (.int p2), .val (.int p3), .val (.int ss), .val (.int (2 : Int32)), .val (.ref ad1), .val (.ref ad2), .val (.ref ad3), .val (.ref ad13), .val (.int (1 : Int32))] [(.int (own_el (own_upd (own_upd (own_upd own_zero (0 : Int32) ss) (1 : Int32) v1) (2 : Int32) v2) (own_last (own_upd (own_upd (own_upd own_zero (0 : Int32) u0) (1 : Int32) u1) (2 : Int32) u2) (own_upd (own_upd (own_upd own_zero (0 : Int32) (1 : Int32)) (1 : Int32) (1 : Int32)) (2 : Int32) (0 : Int32)) (1 : Int32) (3 : Int32)))), (.int ((own_f20 u0 u1 u2 ss v1 v2) (1 : Int32)))])) _
    refine XS.icmpNo X24.here hx rfl (hb hby at_256) rfl (teq (show ((own_f20 u0 u1 u2 ss v1 v2) (1 : Int32)) = (own_el (own_upd (own_upd (own_upd own_zero (0 : Int32) ss) (1 : Int32) v1) (2 : Int32) v2) (own_last (own_upd (own_upd (own_upd own_zero (0 : Int32) u0) (1 : Int32) u1) (2 : Int32) u2) (own_upd (own_upd (own_upd own_zero (0 : Int32) (1 : Int32)) (1 : Int32) (1 : Int32)) (2 : Int32) (0 : Int32)) (1 : Int32) (3 : Int32))) from (own_k34 u0 u1 u2 ss v1 v2 c_u0 c_u1 c_u2 c_s hv1 hv2))).2 ?_
    show Steps p.tables e below (T24.setTop (mkF m 259 #[.val (.int p1), .val (.int p2), .val (.int p3), .val (.int ss), .val (.int (2 : Int32)), .val (.ref ad1), .val (.ref ad2), .val (.ref ad3), .val (.ref ad13), .val (.int (1 : Int32))] [])) _
    refine XS.iconst X24.here hx rfl (hb hby at_259) ?_
    refine XS.goto X24.here hx rfl (pc0 := 260) (pc' := 264) rfl (hb hby at_260) (by decide) (by decide) ?_
    refine XS.istore X24.here hx rfl (hb hby at_264) rfl (l' := #[.val (.int p1), .val (.int p2), .val (.int p3), .val (.int ss), .val (.int (2 : Int32)), .val (.ref ad1), .val (.ref ad2), .val (.ref ad3), .val (.ref ad13), .val (.int (1 : Int32))]) rfl ?_
    refine XS.iload X24.here hx rfl (hb hby at_266) rfl ?_
    show Steps p.tables e below (T24.setTop (mkF m 268 #[.val (.int p1), .val (.int p2), .val (.int p3), .val (.int ss), .val (.int (2 : Int32)), .val (.ref ad1), .val (.ref ad2), .val (.ref ad3), .val (.ref ad13), .val (.int (1 : Int32))] [(.int (1 : Int32))])) _
    refine XS.ifNo X24.here hx rfl (hb hby at_268) rfl ((if0 _ _).trans (feq (by decide : ¬ ((1 : Int32) = (0 : Int32)))).1) ?_
    show Steps p.tables e below (T24.setTop (mkF m 271 #[.val (.int p1), .val (.int p2), .val (.int p3), .val (.int ss), .val (.int (2 : Int32)), .val (.ref ad1), .val (.ref ad2), .val (.ref ad3), .val (.ref ad13), .val (.int (1 : Int32))] [])) _
    refine XS.aload X24.here hx rfl (hb hby at_271) rfl rfl ?_
    refine XS.iconst X24.here hx rfl (hb hby at_273) ?_
    show Steps p.tables e below (T24.setTop (mkF m 274 #[.val (.int p1), .val (.int p2), .val (.int p3), .val (.int ss), .val (.int (2 : Int32)), .val (.ref ad1), .val (.ref ad2), .val (.ref ad3), .val (.ref ad13), .val (.int (1 : Int32))] [(.int (0 : Int32)), (.ref ad13)])) _
    refine st25.trans ?_
    show Steps p.tables e below (T25.setTop (mkF m 277 #[.val (.int p1), .val (.int p2), .val (.int p3), .val (.int ss), .val (.int (2 : Int32)), .val (.ref ad1), .val (.ref ad2), .val (.ref ad3), .val (.ref ad13), .val (.int (1 : Int32))] [(.int ((own_f21 u0 u1 u2 ss v1 v2) (0 : Int32)))])) _
    refine XS.aload X25.here hx rfl (hb hby at_277) rfl rfl ?_
    refine XS.aload X25.here hx rfl (hb hby at_279) rfl rfl ?_
    refine XS.iconst X25.here hx rfl (hb hby at_281) ?_
    show Steps p.tables e below (T25.setTop (mkF m 282 #[.val (.int p1), .val (.int p2), .val (.int p3), .val (.int ss), .val (.int (2 : Int32)), .val (.ref ad1), .val (.ref ad2), .val (.ref ad3), .val (.ref ad13), .val (.int (1 : Int32))] [(.int (0 : Int32)), (.ref ad3), (.ref ad1), (.int ((own_f21 u0 u1 u2 ss v1 v2) (0 : Int32)))])) _
    refine st26 _ ?_
    show Steps p.tables e below (T26.setTop (mkF m 285 #[.val (.int p1), .val (.int p2), .val (.int p3), .val (.int ss), .val (.int (2 : Int32)), .val (.ref ad1), .val (.ref ad2), .val (.ref ad3), .val (.ref ad13), .val (.int (1 : Int32))] [(.int (own_cnt (own_upd (own_upd (own_upd own_zero (0 : Int32) u0) (1 : Int32) u1) (2 : Int32) u2) (own_upd (own_upd (own_upd own_zero (0 : Int32) (1 : Int32)) (1 : Int32) (1 : Int32)) (2 : Int32) (0 : Int32)) (0 : Int32))), (.int ((own_f21 u0 u1 u2 ss v1 v2) (0 : Int32)))])) _
    refine XS.icmpNo X26.here hx rfl (hb hby at_285) rfl (teq (show ((own_f21 u0 u1 u2 ss v1 v2) (0 : Int32)) = (own_cnt (own_upd (own_upd (own_upd own_zero (0 : Int32) u0) (1 : Int32) u1) (2 : Int32) u2) (own_upd (own_upd (own_upd own_zero (0 : Int32) (1 : Int32)) (1 : Int32) (1 : Int32)) (2 : Int32) (0 : Int32)) (0 : Int32)) from (own_k35 u0 u1 u2 ss v1 v2 c_u0 c_u1 c_u2 c_s hv1 hv2))).2 ?_
    show Steps p.tables e below (T26.setTop (mkF m 288 #[.val (.int p1), .val (.int p2), .val (.int p3), .val (.int ss), .val (.int (2 : Int32)), .val (.ref ad1), .val (.ref ad2), .val (.ref ad3), .val (.ref ad13), .val (.int (1 : Int32))] [])) _
    refine XS.iconst X26.here hx rfl (hb hby at_288) ?_
    refine XS.goto X26.here hx rfl (pc0 := 289) (pc' := 293) rfl (hb hby at_289) (by decide) (by decide) ?_
    refine XS.istore X26.here hx rfl (hb hby at_293) rfl (l' := #[.val (.int p1), .val (.int p2), .val (.int p3), .val (.int ss), .val (.int (2 : Int32)), .val (.ref ad1), .val (.ref ad2), .val (.ref ad3), .val (.ref ad13), .val (.int (1 : Int32))]) rfl ?_
    refine XS.iload X26.here hx rfl (hb hby at_295) rfl ?_
    show Steps p.tables e below (T26.setTop (mkF m 297 #[.val (.int p1), .val (.int p2), .val (.int p3), .val (.int ss), .val (.int (2 : Int32)), .val (.ref ad1), .val (.ref ad2), .val (.ref ad3), .val (.ref ad13), .val (.int (1 : Int32))] [(.int (1 : Int32))])) _
    refine XS.ifNo X26.here hx rfl (hb hby at_297) rfl ((if0 _ _).trans (feq (by decide : ¬ ((1 : Int32) = (0 : Int32)))).1) ?_
    show Steps p.tables e below (T26.setTop (mkF m 300 #[.val (.int p1), .val (.int p2), .val (.int p3), .val (.int ss), .val (.int (2 : Int32)), .val (.ref ad1), .val (.ref ad2), .val (.ref ad3), .val (.ref ad13), .val (.int (1 : Int32))] [])) _
    refine XS.aload X26.here hx rfl (hb hby at_300) rfl rfl ?_
    refine XS.iconst X26.here hx rfl (hb hby at_302) ?_
    show Steps p.tables e below (T26.setTop (mkF m 303 #[.val (.int p1), .val (.int p2), .val (.int p3), .val (.int ss), .val (.int (2 : Int32)), .val (.ref ad1), .val (.ref ad2), .val (.ref ad3), .val (.ref ad13), .val (.int (1 : Int32))] [(.int (1 : Int32)), (.ref ad13)])) _
    refine st27.trans ?_
    show Steps p.tables e below (T27.setTop (mkF m 306 #[.val (.int p1), .val (.int p2), .val (.int p3), .val (.int ss), .val (.int (2 : Int32)), .val (.ref ad1), .val (.ref ad2), .val (.ref ad3), .val (.ref ad13), .val (.int (1 : Int32))] [(.int ((own_f21 u0 u1 u2 ss v1 v2) (1 : Int32)))])) _
    refine XS.aload X27.here hx rfl (hb hby at_306) rfl rfl ?_
    refine XS.aload X27.here hx rfl (hb hby at_308) rfl rfl ?_
    refine XS.iconst X27.here hx rfl (hb hby at_310) ?_
    show Steps p.tables e below (T27.setTop (mkF m 311 #[.val (.int p1), .val (.int p2), .val (.int p3), .val (.int ss), .val (.int (2 : Int32)), .val (.ref ad1), .val (.ref ad2), .val (.ref ad3), .val (.ref ad13), .val (.int (1 : Int32))] [(.int (1 : Int32)), (.ref ad3), (.ref ad1), (.int ((own_f21 u0 u1 u2 ss v1 v2) (1 : Int32)))])) _
    refine st28 _ ?_
    show Steps p.tables e below (T28.setTop (mkF m 314 #[.val (.int p1), .val (.int p2), .val (.int p3), .val (.int ss), .val (.int (2 : Int32)), .val (.ref ad1), .val (.ref ad2), .val (.ref ad3), .val (.ref ad13), .val (.int (1 : Int32))] [(.int (own_cnt (own_upd (own_upd (own_upd own_zero (0 : Int32) u0) (1 : Int32) u1) (2 : Int32) u2) (own_upd (own_upd (own_upd own_zero (0 : Int32) (1 : Int32)) (1 : Int32) (1 : Int32)) (2 : Int32) (0 : Int32)) (1 : Int32))), (.int ((own_f21 u0 u1 u2 ss v1 v2) (1 : Int32)))])) _
    refine XS.icmpNo X28.here hx rfl (hb hby at_314) rfl (teq (show ((own_f21 u0 u1 u2 ss v1 v2) (1 : Int32)) = (own_cnt (own_upd (own_upd (own_upd own_zero (0 : Int32) u0) (1 : Int32) u1) (2 : Int32) u2) (own_upd (own_upd (own_upd own_zero (0 : Int32) (1 : Int32)) (1 : Int32) (1 : Int32)) (2 : Int32) (0 : Int32)) (1 : Int32)) from (own_k36 u0 u1 u2 ss v1 v2 c_u0 c_u1 c_u2 c_s hv1 hv2))).2 ?_
    show Steps p.tables e below (T28.setTop (mkF m 317 #[.val (.int p1), .val (.int p2), .val (.int p3), .val (.int ss), .val (.int (2 : Int32)), .val (.ref ad1), .val (.ref ad2), .val (.ref ad3), .val (.ref ad13), .val (.int (1 : Int32))] [])) _
    refine XS.iconst X28.here hx rfl (hb hby at_317) ?_
    refine XS.goto X28.here hx rfl (pc0 := 318) (pc' := 322) rfl (hb hby at_318) (by decide) (by decide) ?_
    refine XS.istore X28.here hx rfl (hb hby at_322) rfl (l' := #[.val (.int p1), .val (.int p2), .val (.int p3), .val (.int ss), .val (.int (2 : Int32)), .val (.ref ad1), .val (.ref ad2), .val (.ref ad3), .val (.ref ad13), .val (.int (1 : Int32))]) rfl ?_
    refine XS.aload X28.here hx rfl (hb hby at_324) rfl rfl ?_
    refine XS.iconst X28.here hx rfl (hb hby at_326) ?_
    show Steps p.tables e below (T28.setTop (mkF m 327 #[.val (.int p1), .val (.int p2), .val (.int p3), .val (.int ss), .val (.int (2 : Int32)), .val (.ref ad1), .val (.ref ad2), .val (.ref ad3), .val (.ref ad13), .val (.int (1 : Int32))] [(.int (0 : Int32)), (.ref ad3)])) _
    refine own_ldz X28 hx hZ e28' A_ad3_18 (by decide) (by decide) (g := (mkF m 327 #[.val (.int p1), .val (.int p2), .val (.int p3), .val (.int ss), .val (.int (2 : Int32)), .val (.ref ad1), .val (.ref ad2), .val (.ref ad3), .val (.ref ad13), .val (.int (1 : Int32))] [(.int (0 : Int32)), (.ref ad3)])) rfl rfl (hb hby at_327) _ ?_
    show Steps p.tables e below (T28.setTop (mkF m 328 #[.val (.int p1), .val (.int p2), .val (.int p3), .val (.int ss), .val (.int (2 : Int32)), .val (.ref ad1), .val (.ref ad2), .val (.ref ad3), .val (.ref ad13), .val (.int (1 : Int32))] [(.int (1 : Int32))])) _
    refine XS.ifNo X28.here hx rfl (hb hby at_328) rfl ((if0 _ _).trans (feq (by decide : ¬ ((1 : Int32) = (0 : Int32)))).1) ?_
    show Steps p.tables e below (T28.setTop (mkF m 331 #[.val (.int p1), .val (.int p2), .val (.int p3), .val (.int ss), .val (.int (2 : Int32)), .val (.ref ad1), .val (.ref ad2), .val (.ref ad3), .val (.ref ad13), .val (.int (1 : Int32))] [])) _
    refine XS.iload X28.here hx rfl (hb hby at_331) rfl ?_
    show Steps p.tables e below (T28.setTop (mkF m 333 #[.val (.int p1), .val (.int p2), .val (.int p3), .val (.int ss), .val (.int (2 : Int32)), .val (.ref ad1), .val (.ref ad2), .val (.ref ad3), .val (.ref ad13), .val (.int (1 : Int32))] [(.int (1 : Int32))])) _
    refine XS.ifNo X28.here hx rfl (hb hby at_333) rfl ((if0 _ _).trans (feq (by decide : ¬ ((1 : Int32) = (0 : Int32)))).1) ?_
    show Steps p.tables e below (T28.setTop (mkF m 336 #[.val (.int p1), .val (.int p2), .val (.int p3), .val (.int ss), .val (.int (2 : Int32)), .val (.ref ad1), .val (.ref ad2), .val (.ref ad3), .val (.ref ad13), .val (.int (1 : Int32))] [])) _
    refine XS.aload X28.here hx rfl (hb hby at_336) rfl rfl ?_
    refine XS.aload X28.here hx rfl (hb hby at_338) rfl rfl ?_
    refine XS.iconst X28.here hx rfl (hb hby at_340) ?_
    show Steps p.tables e below (T28.setTop (mkF m 341 #[.val (.int p1), .val (.int p2), .val (.int p3), .val (.int ss), .val (.int (2 : Int32)), .val (.ref ad1), .val (.ref ad2), .val (.ref ad3), .val (.ref ad13), .val (.int (1 : Int32))] [(.int (0 : Int32)), (.ref ad2), (.ref ad13)])) _
    refine own_ld X28 hx hZ e28' A_ad2_18 (by decide) (by decide) (g := (mkF m 341 #[.val (.int p1), .val (.int p2), .val (.int p3), .val (.int ss), .val (.int (2 : Int32)), .val (.ref ad1), .val (.ref ad2), .val (.ref ad3), .val (.ref ad13), .val (.int (1 : Int32))] [(.int (0 : Int32)), (.ref ad2), (.ref ad13)])) rfl rfl (hb hby at_341) _ ?_
    show Steps p.tables e below (T28.setTop (mkF m 342 #[.val (.int p1), .val (.int p2), .val (.int p3), .val (.int ss), .val (.int (2 : Int32)), .val (.ref ad1), .val (.ref ad2), .val (.ref ad3), .val (.ref ad13), .val (.int (1 : Int32))] [(.int ss), (.ref ad13)])) _
    refine st29.trans ?_
    show Steps p.tables e below (T29.setTop (mkF m 345 #[.val (.int p1), .val (.int p2), .val (.int p3), .val (.int ss), .val (.int (2 : Int32)), .val (.ref ad1), .val (.ref ad2), .val (.ref ad3), .val (.ref ad13), .val (.int (1 : Int32))] [(.int ((own_f22 u0 u1 u2 ss v1 v2) ss))])) _
    refine XS.aload X29.here hx rfl (hb hby at_345) rfl rfl ?_
    refine XS.aload X29.here hx rfl (hb hby at_347) rfl rfl ?_
    refine XS.aload X29.here hx rfl (hb hby at_349) rfl rfl ?_
    refine XS.aload X29.here hx rfl (hb hby at_351) rfl rfl ?_
    refine XS.iconst X29.here hx rfl (hb hby at_353) ?_
    show Steps p.tables e below (T29.setTop (mkF m 354 #[.val (.int p1), .val (.int p2), .val (.int p3), .val (.int ss), .val (.int (2 : Int32)), .val (.ref ad1), .val (.ref ad2), .val (.ref ad3), .val (.ref ad13), .val (.int (1 : Int32))] [(.int (0 : Int32)), (.ref ad1), (.ref ad3), (.ref ad1), (.ref ad2), (.int ((own_f22 u0 u1 u2 ss v1 v2) ss))])) _
    refine own_ld X29 hx hZ e29' A_ad1_18 (by decide) (by decide) (g := (mkF m 354 #[.val (.int p1), .val (.int p2), .val (.int p3), .val (.int ss), .val (.int (2 : Int32)), .val (.ref ad1), .val (.ref ad2), .val (.ref ad3), .val (.ref ad13), .val (.int (1 : Int32))] [(.int (0 : Int32)), (.ref ad1), (.ref ad3), (.ref ad1), (.ref ad2), (.int ((own_f22 u0 u1 u2 ss v1 v2) ss))])) rfl rfl (hb hby at_354) _ ?_
    show Steps p.tables e below (T29.setTop (mkF m 355 #[.val (.int p1), .val (.int p2), .val (.int p3), .val (.int ss), .val (.int (2 : Int32)), .val (.ref ad1), .val (.ref ad2), .val (.ref ad3), .val (.ref ad13), .val (.int (1 : Int32))] [(.int u0), (.ref ad3), (.ref ad1), (.ref ad2), (.int ((own_f22 u0 u1 u2 ss v1 v2) ss))])) _
    refine XS.iconst X29.here hx rfl (hb hby at_355) ?_
    show Steps p.tables e below (T29.setTop (mkF m 356 #[.val (.int p1), .val (.int p2), .val (.int p3), .val (.int ss), .val (.int (2 : Int32)), .val (.ref ad1), .val (.ref ad2), .val (.ref ad3), .val (.ref ad13), .val (.int (1 : Int32))] [(.int (0 : Int32)), (.int u0), (.ref ad3), (.ref ad1), (.ref ad2), (.int ((own_f22 u0 u1 u2 ss v1 v2) ss))])) _
    refine st30 _ ?_
    show Steps p.tables e below (T30.setTop (mkF m 359 #[.val (.int p1), .val (.int p2), .val (.int p3), .val (.int ss), .val (.int (2 : Int32)), .val (.ref ad1), .val (.ref ad2), .val (.ref ad3), .val (.ref ad13), .val (.int (1 : Int32))] [(.int (own_last (own_upd (own_upd (own_upd own_zero (0 : Int32) u0) (1 : Int32) u1) (2 : Int32) u2) (own_upd (own_upd (own_upd own_zero (0 : Int32) (1 : Int32)) (1 : Int32) (1 : Int32)) (2 : Int32) (0 : Int32)) u0 (0 : Int32))), (.ref ad2), (.int ((own_f22 u0 u1 u2 ss v1 v2) ss))])) _
    refine st31 _ ?_
    show Steps p.tables e below (T31.setTop (mkF m 362 #[.val (.int p1), .val (.int p2), .val (.int p3), .val (.int ss), .val (.int (2 : Int32)), .val (.ref ad1), .val (.ref ad2), .val (.ref ad3), .val (.ref ad13), .val (.int (1 : Int32))] [(.int (own_el (own_upd (own_upd (own_upd own_zero (0 : Int32) ss) (1 : Int32) v1) (2 : Int32) v2) (own_last (own_upd (own_upd (own_upd own_zero (0 : Int32) u0) (1 : Int32) u1) (2 : Int32) u2) (own_upd (own_upd (own_upd own_zero (0 : Int32) (1 : Int32)) (1 : Int32) (1 : Int32)) (2 : Int32) (0 : Int32)) u0 (0 : Int32)))), (.int ((own_f22 u0 u1 u2 ss v1 v2) ss))])) _
    refine XS.icmpNo X31.here hx rfl (hb hby at_362) rfl (teq (show ((own_f22 u0 u1 u2 ss v1 v2) ss) = (own_el (own_upd (own_upd (own_upd own_zero (0 : Int32) ss) (1 : Int32) v1) (2 : Int32) v2) (own_last (own_upd (own_upd (own_upd own_zero (0 : Int32) u0) (1 : Int32) u1) (2 : Int32) u2) (own_upd (own_upd (own_upd own_zero (0 : Int32) (1 : Int32)) (1 : Int32) (1 : Int32)) (2 : Int32) (0 : Int32)) u0 (0 : Int32))) from (own_k37 u0 u1 u2 ss v1 v2 c_u0 c_u1 c_u2 c_s hv1 hv2))).2 ?_
    show Steps p.tables e below (T31.setTop (mkF m 365 #[.val (.int p1), .val (.int p2), .val (.int p3), .val (.int ss), .val (.int (2 : Int32)), .val (.ref ad1), .val (.ref ad2), .val (.ref ad3), .val (.ref ad13), .val (.int (1 : Int32))] [])) _
    refine XS.iconst X31.here hx rfl (hb hby at_365) ?_
    refine XS.goto X31.here hx rfl (pc0 := 366) (pc' := 370) rfl (hb hby at_366) (by decide) (by decide) ?_
    refine XS.istore X31.here hx rfl (hb hby at_370) rfl (l' := #[.val (.int p1), .val (.int p2), .val (.int p3), .val (.int ss), .val (.int (2 : Int32)), .val (.ref ad1), .val (.ref ad2), .val (.ref ad3), .val (.ref ad13), .val (.int (1 : Int32))]) rfl ?_
    refine XS.aload X31.here hx rfl (hb hby at_372) rfl rfl ?_
    refine XS.iconst X31.here hx rfl (hb hby at_374) ?_
    show Steps p.tables e below (T31.setTop (mkF m 375 #[.val (.int p1), .val (.int p2), .val (.int p3), .val (.int ss), .val (.int (2 : Int32)), .val (.ref ad1), .val (.ref ad2), .val (.ref ad3), .val (.ref ad13), .val (.int (1 : Int32))] [(.int (1 : Int32)), (.ref ad3)])) _
    refine own_ldz X31 hx hZ e31' A_ad3_18 (by decide) (by decide) (g := (mkF m 375 #[.val (.int p1), .val (.int p2), .val (.int p3), .val (.int ss), .val (.int (2 : Int32)), .val (.ref ad1), .val (.ref ad2), .val (.ref ad3), .val (.ref ad13), .val (.int (1 : Int32))] [(.int (1 : Int32)), (.ref ad3)])) rfl rfl (hb hby at_375) _ ?_
    show Steps p.tables e below (T31.setTop (mkF m 376 #[.val (.int p1), .val (.int p2), .val (.int p3), .val (.int ss), .val (.int (2 : Int32)), .val (.ref ad1), .val (.ref ad2), .val (.ref ad3), .val (.ref ad13), .val (.int (1 : Int32))] [(.int (1 : Int32))])) _
    refine XS.ifNo X31.here hx rfl (hb hby at_376) rfl ((if0 _ _).trans (feq (by decide : ¬ ((1 : Int32) = (0 : Int32)))).1) ?_
    show Steps p.tables e below (T31.setTop (mkF m 379 #[.val (.int p1), .val (.int p2), .val (.int p3), .val (.int ss), .val (.int (2 : Int32)), .val (.ref ad1), .val (.ref ad2), .val (.ref ad3), .val (.ref ad13), .val (.int (1 : Int32))] [])) _
    refine XS.iload X31.here hx rfl (hb hby at_379) rfl ?_
    show Steps p.tables e below (T31.setTop (mkF m 381 #[.val (.int p1), .val (.int p2), .val (.int p3), .val (.int ss), .val (.int (2 : Int32)), .val (.ref ad1), .val (.ref ad2), .val (.ref ad3), .val (.ref ad13), .val (.int (1 : Int32))] [(.int (1 : Int32))])) _
    refine XS.ifNo X31.here hx rfl (hb hby at_381) rfl ((if0 _ _).trans (feq (by decide : ¬ ((1 : Int32) = (0 : Int32)))).1) ?_
    show Steps p.tables e below (T31.setTop (mkF m 384 #[.val (.int p1), .val (.int p2), .val (.int p3), .val (.int ss), .val (.int (2 : Int32)), .val (.ref ad1), .val (.ref ad2), .val (.ref ad3), .val (.ref ad13), .val (.int (1 : Int32))] [])) _
    refine XS.aload X31.here hx rfl (hb hby at_384) rfl rfl ?_
    refine XS.aload X31.here hx rfl (hb hby at_386) rfl rfl ?_
    refine XS.iconst X31.here hx rfl (hb hby at_388) ?_
    show Steps p.tables e below (T31.setTop (mkF m 389 #[.val (.int p1), .val (.int p2), .val (.int p3), .val (.int ss), .val (.int (2 : Int32)), .val (.ref ad1), .val (.ref ad2), .val (.ref ad3), .val (.ref ad13), .val (.int (1 : Int32))] [(.int (1 : Int32)), (.ref ad2), (.ref ad13)])) _
    refine own_ld X31 hx hZ e31' A_ad2_18 (by decide) (by decide) (g := (mkF m 389 #[.val (.int p1), .val (.int p2), .val (.int p3), .val (.int ss), .val (.int (2 : Int32)), .val (.ref ad1), .val (.ref ad2), .val (.ref ad3), .val (.ref ad13), .val (.int (1 : Int32))] [(.int (1 : Int32)), (.ref ad2), (.ref ad13)])) rfl rfl (hb hby at_389) _ ?_
    show Steps p.tables e below (T31.setTop (mkF m 390 #[.val (.int p1), .val (.int p2), .val (.int p3), .val (.int ss), .val (.int (2 : Int32)), .val (.ref ad1), .val (.ref ad2), .val (.ref ad3), .val (.ref ad13), .val (.int (1 : Int32))] [(.int v1), (.ref ad13)])) _
    refine st32.trans ?_
    show Steps p.tables e below (T32.setTop (mkF m 393 #[.val (.int p1), .val (.int p2), .val (.int p3), .val (.int ss), .val (.int (2 : Int32)), .val (.ref ad1), .val (.ref ad2), .val (.ref ad3), .val (.ref ad13), .val (.int (1 : Int32))] [(.int ((own_f22 u0 u1 u2 ss v1 v2) v1))])) _
    refine XS.aload X32.here hx rfl (hb hby at_393) rfl rfl ?_
    refine XS.aload X32.here hx rfl (hb hby at_395) rfl rfl ?_
    refine XS.aload X32.here hx rfl (hb hby at_397) rfl rfl ?_
    refine XS.aload X32.here hx rfl (hb hby at_399) rfl rfl ?_
    refine XS.iconst X32.here hx rfl (hb hby at_401) ?_
    show Steps p.tables e below (T32.setTop (mkF m 402 #[.val (.int p1), .val (.int p2), .val (.int p3), .val (.int ss), .val (.int (2 : Int32)), .val (.ref ad1), .val (.ref ad2), .val (.ref ad3), .val (.ref ad13), .val (.int (1 : Int32))] [(.int (1 : Int32)), (.ref ad1), (.ref ad3), (.ref ad1), (.ref ad2), (.int ((own_f22 u0 u1 u2 ss v1 v2) v1))])) _
    refine own_ld X32 hx hZ e32' A_ad1_18 (by decide) (by decide) (g := (mkF m 402 #[.val (.int p1), .val (.int p2), .val (.int p3), .val (.int ss), .val (.int (2 : Int32)), .val (.ref ad1), .val (.ref ad2), .val (.ref ad3), .val (.ref ad13), .val (.int (1 : Int32))] [(.int (1 : Int32)), (.ref ad1), (.ref ad3), (.ref ad1), (.ref ad2), (.int ((own_f22 u0 u1 u2 ss v1 v2) v1))])) rfl rfl (hb hby at_402) _ ?_
    show Steps p.tables e below (T32.setTop (mkF m 403 #[.val (.int p1), .val (.int p2), .val (.int p3), .val (.int ss), .val (.int (2 : Int32)), .val (.ref ad1), .val (.ref ad2), .val (.ref ad3), .val (.ref ad13), .val (.int (1 : Int32))] [(.int u1), (.ref ad3), (.ref ad1), (.ref ad2), (.int ((own_f22 u0 u1 u2 ss v1 v2) v1))])) _
    refine XS.iconst X32.here hx rfl (hb hby at_403) ?_
    show Steps p.tables e below (T32.setTop (mkF m 404 #[.val (.int p1), .val (.int p2), .val (.int p3), .val (.int ss), .val (.int (2 : Int32)), .val (.ref ad1), .val (.ref ad2), .val (.ref ad3), .val (.ref ad13), .val (.int (1 : Int32))] [(.int (1 : Int32)), (.int u1), (.ref ad3), (.ref ad1), (.ref ad2), (.int ((own_f22 u0 u1 u2 ss v1 v2) v1))])) _
    refine st33 _ ?_
    show Steps p.tables e below (T33.setTop (mkF m 407 #[.val (.int p1), .val (.int p2), .val (.int p3), .val (.int ss), .val (.int (2 : Int32)), .val (.ref ad1), .val (.ref ad2), .val (.ref ad3), .val (.ref ad13), .val (.int (1 : Int32))] [(.int (own_last (own_upd (own_upd (own_upd own_zero (0 : Int32) u0) (1 : Int32) u1) (2 : Int32) u2) (own_upd (own_upd (own_upd own_zero (0 : Int32) (1 : Int32)) (1 : Int32) (1 : Int32)) (2 : Int32) (0 : Int32)) u1 (1 : Int32))), (.ref ad2), (.int ((own_f22 u0 u1 u2 ss v1 v2) v1))])) _
    refine st34 _ ?_
    show Steps p.tables e below (T34.setTop (mkF m 410 #[.val (.int p1), .val (.int p2), .val (.int p3), .val (.int ss), .val (.int (2 : Int32)), .val (.ref ad1), .val (.ref ad2), .val (.ref ad3), .val (.ref ad13), .val (.int (1 : Int32))] [(.int (own_el (own_upd (own_upd (own_upd own_zero (0 : Int32) ss) (1 : Int32) v1) (2 : Int32) v2) (own_last (own_upd (own_upd (own_upd own_zero (0 : Int32) u0) (1 : Int32) u1) (2 : Int32) u2) (own_upd (own_upd (own_upd own_zero (0 : Int32) (1 : Int32)) (1 : Int32) (1 : Int32)) (2 : Int32) (0 : Int32)) u1 (1 : Int32)))), (.int ((own_f22 u0 u1 u2 ss v1 v2) v1))])) _
    refine XS.icmpNo X34.here hx rfl (hb hby at_410) rfl (teq (show ((own_f22 u0 u1 u2 ss v1 v2) v1) = (own_el (own_upd (own_upd (own_upd own_zero (0 : Int32) ss) (1 : Int32) v1) (2 : Int32) v2) (own_last (own_upd (own_upd (own_upd own_zero (0 : Int32) u0) (1 : Int32) u1) (2 : Int32) u2) (own_upd (own_upd (own_upd own_zero (0 : Int32) (1 : Int32)) (1 : Int32) (1 : Int32)) (2 : Int32) (0 : Int32)) u1 (1 : Int32))) from (own_k38 u0 u1 u2 ss v1 v2 c_u0 c_u1 c_u2 c_s hv1 hv2))).2 ?_
    show Steps p.tables e below (T34.setTop (mkF m 413 #[.val (.int p1), .val (.int p2), .val (.int p3), .val (.int ss), .val (.int (2 : Int32)), .val (.ref ad1), .val (.ref ad2), .val (.ref ad3), .val (.ref ad13), .val (.int (1 : Int32))] [])) _
    refine XS.iconst X34.here hx rfl (hb hby at_413) ?_
    refine XS.goto X34.here hx rfl (pc0 := 414) (pc' := 418) rfl (hb hby at_414) (by decide) (by decide) ?_
    refine XS.istore X34.here hx rfl (hb hby at_418) rfl (l' := #[.val (.int p1), .val (.int p2), .val (.int p3), .val (.int ss), .val (.int (2 : Int32)), .val (.ref ad1), .val (.ref ad2), .val (.ref ad3), .val (.ref ad13), .val (.int (1 : Int32))]) rfl ?_
    refine XS.aload X34.here hx rfl (hb hby at_420) rfl rfl ?_
    refine XS.iconst X34.here hx rfl (hb hby at_422) ?_
    show Steps p.tables e below (T34.setTop (mkF m 423 #[.val (.int p1), .val (.int p2), .val (.int p3), .val (.int ss), .val (.int (2 : Int32)), .val (.ref ad1), .val (.ref ad2), .val (.ref ad3), .val (.ref ad13), .val (.int (1 : Int32))] [(.int (2 : Int32)), (.ref ad3)])) _
    refine own_ldz X34 hx hZ e34' A_ad3_18 (by decide) (by decide) (g := (mkF m 423 #[.val (.int p1), .val (.int p2), .val (.int p3), .val (.int ss), .val (.int (2 : Int32)), .val (.ref ad1), .val (.ref ad2), .val (.ref ad3), .val (.ref ad13), .val (.int (1 : Int32))] [(.int (2 : Int32)), (.ref ad3)])) rfl rfl (hb hby at_423) _ ?_
    show Steps p.tables e below (T34.setTop (mkF m 424 #[.val (.int p1), .val (.int p2), .val (.int p3), .val (.int ss), .val (.int (2 : Int32)), .val (.ref ad1), .val (.ref ad2), .val (.ref ad3), .val (.ref ad13), .val (.int (1 : Int32))] [(.int (0 : Int32))])) _
    refine XS.ifYes X34.here hx rfl (pc0 := 424) (pc' := 468) rfl (hb hby at_424) rfl ((if0 _ _).trans (teq (by decide : (0 : Int32) = (0 : Int32))).1) (by decide) (by decide) ?_
    show Steps p.tables e below (T34.setTop (mkF m 468 #[.val (.int p1), .val (.int p2), .val (.int p3), .val (.int ss), .val (.int (2 : Int32)), .val (.ref ad1), .val (.ref ad2), .val (.ref ad3), .val (.ref ad13), .val (.int (1 : Int32))] [])) _
    refine XS.iload X34.here hx rfl (hb hby at_468) rfl ?_
    show Steps p.tables e below (T34.setTop (mkF m 470 #[.val (.int p1), .val (.int p2), .val (.int p3), .val (.int ss), .val (.int (2 : Int32)), .val (.ref ad1), .val (.ref ad2), .val (.ref ad3), .val (.ref ad13), .val (.int (1 : Int32))] [(.int (1 : Int32))])) _
    exact retN X34 hx (t := .boolean) Bd.returns (by simp) (hb hby at_470) hr
  · show Q0_2 Z p1 p2 p3 h0 n0 _ T34.heap _
    exact ⟨rfl, N34⟩
def Q0_3 (Z : State) (p1 p2 p3 : Int32) (h0 : Heap) (n0 : Nat) (v : Option Value) (h : Heap) (L : List Loc) : Prop := v = some (.int (1 : Int32)) ∧ Fr n0 L
set_option maxRecDepth 65536 in
set_option maxHeartbeats 40000000 in
theorem rm0_3 (l : Launch) (Z : State) (a0 : Array Value) (hw : ∀ d ∈ tables_1, d.before a0 Z = true) (ws : List Jvm.Cond) (p1 p2 p3 : Int32) (h0 : Heap) (n0 : Nat) (Z0 : n0 ≤ h0.size) (hR : ((p2 &&& (2147483647 : Int32)) % (4 : Int32)) = (3 : Int32)) :
    MetFree l x (head1 (Jvm.Cond.code x code maxLocals ret :: ws) room_1) (fun a U => a = #[(.int p1), (.int p2), (.int p3)] ∧ Z.Warmed39 U.vm ∧ U.heap = h0) (fun _ _ _ _ _ => True) (fun _ U o U' => ∃ v L, o = .returned v ∧ Q0_3 Z p1 p2 p3 h0 n0 v U'.heap L ∧ FrameEnd U o U' L room_1.cells room_1.slots) := by
  refine MetFree.of_bodySF (plainFor_of_name pn_0) hisR ?_
  intro p e s m args below meth c s₁ Bd hml0 hP hK
  obtain ⟨rfl, hZ, hh⟩ := hP
  have hx := Bd.exec
  have hby := Bd.bytes
  have hml : c.maxLocals = 10 := hml0
  have hown : s.vm.findClass "com/example/process_stepper/processstepper/equivalence/IntListsPushPinLaw" = some m.cls := findClass_of_methodNamed Bd.named
  have hnm := (name_of_methodNamed Bd.named Bd.method).1
  have X0 : Stand p l e room_1 s m #[(.int p1), (.int p2), (.int p3)] below meth c s₁ [] 0 0 := Stand.of_body Bd
  have e0 : s₁.heap = h0 := by rw [← hh, Bd.state]; rfl
  have N0 := Fr.nil n0
  have pre0 : ∀ t, Steps p.tables e below (s₁.setTop (mkF m 0 #[.val (.int p1), .val (.int p2), .val (.int p3), .unset, .unset, .unset, .unset, .unset, .unset, .unset] [])) t → Steps p.tables e below (s₁.setTop (entryFrame m #[(.int p1), (.int p2), (.int p3)] maxLocals)) t := fun t k => castTop (ef_0 m p1 p2 p3) k
  obtain ⟨ss, hss⟩ : ∃ z : Int32, z = ((p3 &&& (2147483647 : Int32)) % (3 : Int32)) := ⟨_, rfl⟩
  have c_s := own_three p3 ss hss
  obtain ⟨T1, h1, k1, X1, e1, E1, A1, st1⟩ := newP X0 hx hZ (own_w hw 1 rfl) e0 (g := (mkF m 16 #[.val (.int p1), .val (.int p2), .val (.int p3), .val (.int ss), .val (.int (3 : Int32)), .unset, .unset, .unset, .unset, .unset] [(.int (3 : Int32))])) rfl (hb hby at_16) rfl (by decide) (cap := 3) (by decide) (by decide) (by decide) (by decide)
  obtain ⟨ad1, g1⟩ : ∃ z, z = h0.size := ⟨_, rfl⟩
  rw [← g1] at A1 st1
  have gn_ad1 : n0 ≤ ad1 := Nat.le_trans Z0 (Nat.le_of_eq g1.symm)
  have sz_ad1 : h0.size ≤ ad1 := Nat.le_trans (Keep.refl h0 []).1 (Nat.le_of_eq g1.symm)
  have A_ad1_1 : own_arr Z h1 ad1 (3 : Int32) own_zero := own_arr_new A1 (by decide)
  have K1 : Keep h0 h1 [] := (Keep.refl h0 []).ext E1
  have Zs1 : n0 ≤ h1.size := Nat.le_trans Z0 E1.1
  obtain ⟨T2, h2, k2, X2, e2, E2, A2, st2⟩ := newP X1 hx hZ (own_w hw 1 rfl) e1 (g := (mkF m 21 #[.val (.int p1), .val (.int p2), .val (.int p3), .val (.int ss), .val (.int (3 : Int32)), .val (.ref ad1), .unset, .unset, .unset, .unset] [(.int (3 : Int32))])) rfl (hb hby at_21) rfl (by decide) (cap := 3) (by decide) (by decide) (by decide) (by decide)
  obtain ⟨ad2, g2⟩ : ∃ z, z = h1.size := ⟨_, rfl⟩
  rw [← g2] at A2 st2
  have lt_ad1_ad2 : ad1 < ad2 := Nat.lt_of_lt_of_eq (own_arr_lt A_ad1_1) g2.symm
  have gn_ad2 : n0 ≤ ad2 := Nat.le_trans Zs1 (Nat.le_of_eq g2.symm)
  have sz_ad2 : h0.size ≤ ad2 := Nat.le_trans K1.1 (Nat.le_of_eq g2.symm)
  have A_ad1_2 : own_arr Z h2 ad1 (3 : Int32) own_zero := own_arr_ext A_ad1_1 E2
  have A_ad2_2 : own_arr Z h2 ad2 (3 : Int32) own_zero := own_arr_new A2 (by decide)
  have K2 : Keep h0 h2 [] := K1.ext E2
  have Zs2 : n0 ≤ h2.size := Nat.le_trans Zs1 E2.1
  obtain ⟨T3, h3, k3, X3, e3, E3, A3, st3⟩ := newP X2 hx hZ (own_w hw 2 rfl) e2 (g := (mkF m 26 #[.val (.int p1), .val (.int p2), .val (.int p3), .val (.int ss), .val (.int (3 : Int32)), .val (.ref ad1), .val (.ref ad2), .unset, .unset, .unset] [(.int (3 : Int32))])) rfl (hb hby at_26) rfl (by decide) (cap := 3) (by decide) (by decide) (by decide) (by decide)
  obtain ⟨ad3, g3⟩ : ∃ z, z = h2.size := ⟨_, rfl⟩
  rw [← g3] at A3 st3
  have lt_ad1_ad3 : ad1 < ad3 := Nat.lt_of_lt_of_eq (own_arr_lt A_ad1_2) g3.symm
  have lt_ad2_ad3 : ad2 < ad3 := Nat.lt_of_lt_of_eq (own_arr_lt A_ad2_2) g3.symm
  have gn_ad3 : n0 ≤ ad3 := Nat.le_trans Zs2 (Nat.le_of_eq g3.symm)
  have sz_ad3 : h0.size ≤ ad3 := Nat.le_trans K2.1 (Nat.le_of_eq g3.symm)
  have A_ad1_3 : own_arr Z h3 ad1 (3 : Int32) own_zero := own_arr_ext A_ad1_2 E3
  have A_ad2_3 : own_arr Z h3 ad2 (3 : Int32) own_zero := own_arr_ext A_ad2_2 E3
  have A_ad3_3 : own_arz Z h3 ad3 (3 : Int32) own_zero := own_arr_newz A3 (by decide)
  have K3 : Keep h0 h3 [] := K2.ext E3
  have Zs3 : n0 ≤ h3.size := Nat.le_trans Zs2 E3.1
  obtain ⟨u0, hu0⟩ : ∃ z : Int32, z = (p1 &&& (1 : Int32)) := ⟨_, rfl⟩
  have c_u0 : u0 = (0 : Int32) ∨ u0 = (1 : Int32) := by rw [hu0]; exact own_bit _
  obtain ⟨T4, h4, X4, e4, W4, st4⟩ := own_st X3 hx hZ e3 A_ad1_3 (by decide) (by decide) (g := (mkF m 36 #[.val (.int p1), .val (.int p2), .val (.int p3), .val (.int ss), .val (.int (3 : Int32)), .val (.ref ad1), .val (.ref ad2), .val (.ref ad3), .unset, .unset] [(.int u0), (.int (0 : Int32)), (.ref ad1)])) rfl rfl (hb hby at_36)
  have A_ad1_4 : own_arr Z h4 ad1 (3 : Int32) (own_upd own_zero (0 : Int32) u0) := own_arr_same A_ad1_3 W4 (by decide) (by decide)
  have A_ad2_4 : own_arr Z h4 ad2 (3 : Int32) own_zero := own_arr_other A_ad2_3 W4 (Nat.ne_of_gt lt_ad1_ad2)
  have A_ad3_4 : own_arz Z h4 ad3 (3 : Int32) own_zero := own_arz_other A_ad3_3 W4 (Nat.ne_of_gt lt_ad1_ad3)
  have K4 : Keep h0 h4 [] := K3.wr W4 (Or.inr sz_ad1)
  have N4 := Fr.snoc X4 N0 gn_ad1
  have Zs4 : n0 ≤ h4.size := by rw [W4.size]; exact Zs3
  obtain ⟨u1, hu1⟩ : ∃ z : Int32, z = (((p1.toUInt32 >>> ((1 : Int32) &&& 31).toUInt32).toInt32) &&& (1 : Int32)) := ⟨_, rfl⟩
  have c_u1 : u1 = (0 : Int32) ∨ u1 = (1 : Int32) := by rw [hu1]; exact own_bit _
  obtain ⟨T5, h5, X5, e5, W5, st5⟩ := own_st X4 hx hZ e4 A_ad1_4 (by decide) (by decide) (g := (mkF m 45 #[.val (.int p1), .val (.int p2), .val (.int p3), .val (.int ss), .val (.int (3 : Int32)), .val (.ref ad1), .val (.ref ad2), .val (.ref ad3), .unset, .unset] [(.int u1), (.int (1 : Int32)), (.ref ad1)])) rfl rfl (hb hby at_45)
  have A_ad1_5 : own_arr Z h5 ad1 (3 : Int32) (own_upd (own_upd own_zero (0 : Int32) u0) (1 : Int32) u1) := own_arr_same A_ad1_4 W5 (by decide) (by decide)
  have A_ad2_5 : own_arr Z h5 ad2 (3 : Int32) own_zero := own_arr_other A_ad2_4 W5 (Nat.ne_of_gt lt_ad1_ad2)
  have A_ad3_5 : own_arz Z h5 ad3 (3 : Int32) own_zero := own_arz_other A_ad3_4 W5 (Nat.ne_of_gt lt_ad1_ad3)
  have K5 : Keep h0 h5 [] := K4.wr W5 (Or.inr sz_ad1)
  have N5 := Fr.snoc X5 N4 gn_ad1
  have Zs5 : n0 ≤ h5.size := by rw [W5.size]; exact Zs4
  obtain ⟨u2, hu2⟩ : ∃ z : Int32, z = (((p1.toUInt32 >>> ((2 : Int32) &&& 31).toUInt32).toInt32) &&& (1 : Int32)) := ⟨_, rfl⟩
  have c_u2 : u2 = (0 : Int32) ∨ u2 = (1 : Int32) := by rw [hu2]; exact own_bit _
  obtain ⟨T6, h6, X6, e6, W6, st6⟩ := own_st X5 hx hZ e5 A_ad1_5 (by decide) (by decide) (g := (mkF m 54 #[.val (.int p1), .val (.int p2), .val (.int p3), .val (.int ss), .val (.int (3 : Int32)), .val (.ref ad1), .val (.ref ad2), .val (.ref ad3), .unset, .unset] [(.int u2), (.int (2 : Int32)), (.ref ad1)])) rfl rfl (hb hby at_54)
  have A_ad1_6 : own_arr Z h6 ad1 (3 : Int32) (own_upd (own_upd (own_upd own_zero (0 : Int32) u0) (1 : Int32) u1) (2 : Int32) u2) := own_arr_same A_ad1_5 W6 (by decide) (by decide)
  have A_ad2_6 : own_arr Z h6 ad2 (3 : Int32) own_zero := own_arr_other A_ad2_5 W6 (Nat.ne_of_gt lt_ad1_ad2)
  have A_ad3_6 : own_arz Z h6 ad3 (3 : Int32) own_zero := own_arz_other A_ad3_5 W6 (Nat.ne_of_gt lt_ad1_ad3)
  have K6 : Keep h0 h6 [] := K5.wr W6 (Or.inr sz_ad1)
  have N6 := Fr.snoc X6 N5 gn_ad1
  have Zs6 : n0 ≤ h6.size := by rw [W6.size]; exact Zs5
  obtain ⟨T7, h7, X7, e7, W7, st7⟩ := own_st X6 hx hZ e6 A_ad2_6 (by decide) (by decide) (g := (mkF m 59 #[.val (.int p1), .val (.int p2), .val (.int p3), .val (.int ss), .val (.int (3 : Int32)), .val (.ref ad1), .val (.ref ad2), .val (.ref ad3), .unset, .unset] [(.int ss), (.int (0 : Int32)), (.ref ad2)])) rfl rfl (hb hby at_59)
  have A_ad1_7 : own_arr Z h7 ad1 (3 : Int32) (own_upd (own_upd (own_upd own_zero (0 : Int32) u0) (1 : Int32) u1) (2 : Int32) u2) := own_arr_other A_ad1_6 W7 (Nat.ne_of_lt lt_ad1_ad2)
  have A_ad2_7 : own_arr Z h7 ad2 (3 : Int32) (own_upd own_zero (0 : Int32) ss) := own_arr_same A_ad2_6 W7 (by decide) (by decide)
  have A_ad3_7 : own_arz Z h7 ad3 (3 : Int32) own_zero := own_arz_other A_ad3_6 W7 (Nat.ne_of_gt lt_ad2_ad3)
  have K7 : Keep h0 h7 [] := K6.wr W7 (Or.inr sz_ad2)
  have N7 := Fr.snoc X7 N6 gn_ad2
  have Zs7 : n0 ≤ h7.size := by rw [W7.size]; exact Zs6
  obtain ⟨v1, hv1⟩ : ∃ z : Int32, z = (((1 : Int32) + ss) % (3 : Int32)) := ⟨_, rfl⟩
  obtain ⟨T8, h8, X8, e8, W8, st8⟩ := own_st X7 hx hZ e7 A_ad2_7 (by decide) (by decide) (g := (mkF m 68 #[.val (.int p1), .val (.int p2), .val (.int p3), .val (.int ss), .val (.int (3 : Int32)), .val (.ref ad1), .val (.ref ad2), .val (.ref ad3), .unset, .unset] [(.int v1), (.int (1 : Int32)), (.ref ad2)])) rfl rfl (hb hby at_68)
  have A_ad1_8 : own_arr Z h8 ad1 (3 : Int32) (own_upd (own_upd (own_upd own_zero (0 : Int32) u0) (1 : Int32) u1) (2 : Int32) u2) := own_arr_other A_ad1_7 W8 (Nat.ne_of_lt lt_ad1_ad2)
  have A_ad2_8 : own_arr Z h8 ad2 (3 : Int32) (own_upd (own_upd own_zero (0 : Int32) ss) (1 : Int32) v1) := own_arr_same A_ad2_7 W8 (by decide) (by decide)
  have A_ad3_8 : own_arz Z h8 ad3 (3 : Int32) own_zero := own_arz_other A_ad3_7 W8 (Nat.ne_of_gt lt_ad2_ad3)
  have K8 : Keep h0 h8 [] := K7.wr W8 (Or.inr sz_ad2)
  have N8 := Fr.snoc X8 N7 gn_ad2
  have Zs8 : n0 ≤ h8.size := by rw [W8.size]; exact Zs7
  obtain ⟨v2, hv2⟩ : ∃ z : Int32, z = (((2 : Int32) + ss) % (3 : Int32)) := ⟨_, rfl⟩
  obtain ⟨T9, h9, X9, e9, W9, st9⟩ := own_st X8 hx hZ e8 A_ad2_8 (by decide) (by decide) (g := (mkF m 77 #[.val (.int p1), .val (.int p2), .val (.int p3), .val (.int ss), .val (.int (3 : Int32)), .val (.ref ad1), .val (.ref ad2), .val (.ref ad3), .unset, .unset] [(.int v2), (.int (2 : Int32)), (.ref ad2)])) rfl rfl (hb hby at_77)
  have A_ad1_9 : own_arr Z h9 ad1 (3 : Int32) (own_upd (own_upd (own_upd own_zero (0 : Int32) u0) (1 : Int32) u1) (2 : Int32) u2) := own_arr_other A_ad1_8 W9 (Nat.ne_of_lt lt_ad1_ad2)
  have A_ad2_9 : own_arr Z h9 ad2 (3 : Int32) (own_upd (own_upd (own_upd own_zero (0 : Int32) ss) (1 : Int32) v1) (2 : Int32) v2) := own_arr_same A_ad2_8 W9 (by decide) (by decide)
  have A_ad3_9 : own_arz Z h9 ad3 (3 : Int32) own_zero := own_arz_other A_ad3_8 W9 (Nat.ne_of_gt lt_ad2_ad3)
  have K9 : Keep h0 h9 [] := K8.wr W9 (Or.inr sz_ad2)
  have N9 := Fr.snoc X9 N8 gn_ad2
  have Zs9 : n0 ≤ h9.size := by rw [W9.size]; exact Zs8
  obtain ⟨T10, h10, X10, e10, W10, st10⟩ := own_stz X9 hx hZ e9 A_ad3_9 (by decide) (by decide) (by decide) (g := (mkF m 91 #[.val (.int p1), .val (.int p2), .val (.int p3), .val (.int ss), .val (.int (3 : Int32)), .val (.ref ad1), .val (.ref ad2), .val (.ref ad3), .unset, .unset] [(.int (1 : Int32)), (.int (0 : Int32)), (.ref ad3)])) rfl rfl (hb hby at_91)
  have A_ad1_10 : own_arr Z h10 ad1 (3 : Int32) (own_upd (own_upd (own_upd own_zero (0 : Int32) u0) (1 : Int32) u1) (2 : Int32) u2) := own_arr_other A_ad1_9 W10 (Nat.ne_of_lt lt_ad1_ad3)
  have A_ad2_10 : own_arr Z h10 ad2 (3 : Int32) (own_upd (own_upd (own_upd own_zero (0 : Int32) ss) (1 : Int32) v1) (2 : Int32) v2) := own_arr_other A_ad2_9 W10 (Nat.ne_of_lt lt_ad2_ad3)
  have A_ad3_10 : own_arz Z h10 ad3 (3 : Int32) (own_upd own_zero (0 : Int32) (1 : Int32)) := own_arz_same A_ad3_9 W10 (by decide) (by decide)
  have K10 : Keep h0 h10 [] := K9.wr W10 (Or.inr sz_ad3)
  have N10 := Fr.snoc X10 N9 gn_ad3
  have Zs10 : n0 ≤ h10.size := by rw [W10.size]; exact Zs9
  obtain ⟨T11, h11, X11, e11, W11, st11⟩ := own_stz X10 hx hZ e10 A_ad3_10 (by decide) (by decide) (by decide) (g := (mkF m 106 #[.val (.int p1), .val (.int p2), .val (.int p3), .val (.int ss), .val (.int (3 : Int32)), .val (.ref ad1), .val (.ref ad2), .val (.ref ad3), .unset, .unset] [(.int (1 : Int32)), (.int (1 : Int32)), (.ref ad3)])) rfl rfl (hb hby at_106)
  have A_ad1_11 : own_arr Z h11 ad1 (3 : Int32) (own_upd (own_upd (own_upd own_zero (0 : Int32) u0) (1 : Int32) u1) (2 : Int32) u2) := own_arr_other A_ad1_10 W11 (Nat.ne_of_lt lt_ad1_ad3)
  have A_ad2_11 : own_arr Z h11 ad2 (3 : Int32) (own_upd (own_upd (own_upd own_zero (0 : Int32) ss) (1 : Int32) v1) (2 : Int32) v2) := own_arr_other A_ad2_10 W11 (Nat.ne_of_lt lt_ad2_ad3)
  have A_ad3_11 : own_arz Z h11 ad3 (3 : Int32) (own_upd (own_upd own_zero (0 : Int32) (1 : Int32)) (1 : Int32) (1 : Int32)) := own_arz_same A_ad3_10 W11 (by decide) (by decide)
  have K11 : Keep h0 h11 [] := K10.wr W11 (Or.inr sz_ad3)
  have N11 := Fr.snoc X11 N10 gn_ad3
  have Zs11 : n0 ≤ h11.size := by rw [W11.size]; exact Zs10
  obtain ⟨T12, h12, X12, e12, W12, st12⟩ := own_stz X11 hx hZ e11 A_ad3_11 (by decide) (by decide) (by decide) (g := (mkF m 121 #[.val (.int p1), .val (.int p2), .val (.int p3), .val (.int ss), .val (.int (3 : Int32)), .val (.ref ad1), .val (.ref ad2), .val (.ref ad3), .unset, .unset] [(.int (1 : Int32)), (.int (2 : Int32)), (.ref ad3)])) rfl rfl (hb hby at_121)
  have A_ad1_12 : own_arr Z h12 ad1 (3 : Int32) (own_upd (own_upd (own_upd own_zero (0 : Int32) u0) (1 : Int32) u1) (2 : Int32) u2) := own_arr_other A_ad1_11 W12 (Nat.ne_of_lt lt_ad1_ad3)
  have A_ad2_12 : own_arr Z h12 ad2 (3 : Int32) (own_upd (own_upd (own_upd own_zero (0 : Int32) ss) (1 : Int32) v1) (2 : Int32) v2) := own_arr_other A_ad2_11 W12 (Nat.ne_of_lt lt_ad2_ad3)
  have A_ad3_12 : own_arz Z h12 ad3 (3 : Int32) (own_upd (own_upd (own_upd own_zero (0 : Int32) (1 : Int32)) (1 : Int32) (1 : Int32)) (2 : Int32) (1 : Int32)) := own_arz_same A_ad3_11 W12 (by decide) (by decide)
  have K12 : Keep h0 h12 [] := K11.wr W12 (Or.inr sz_ad3)
  have N12 := Fr.snoc X12 N11 gn_ad3
  have Zs12 : n0 ≤ h12.size := by rw [W12.size]; exact Zs11
  obtain ⟨T13, h13, X13, e13, E13, A13, D13, -, st13⟩ := newO X12 hx hZ hown (own_w hw 3 rfl) (own_w hw 4 rfl) (own_w hw 5 rfl) e12 (g := (mkF m 122 #[.val (.int p1), .val (.int p2), .val (.int p3), .val (.int ss), .val (.int (3 : Int32)), .val (.ref ad1), .val (.ref ad2), .val (.ref ad3), .unset, .unset] [])) rfl (hb hby at_122) (by decide) (by decide)
  obtain ⟨ad13, g13⟩ : ∃ z, z = h12.size := ⟨_, rfl⟩
  rw [← g13] at A13 D13 st13
  have lt_ad1_ad13 : ad1 < ad13 := Nat.lt_of_lt_of_eq (own_arr_lt A_ad1_12) g13.symm
  have lt_ad2_ad13 : ad2 < ad13 := Nat.lt_of_lt_of_eq (own_arr_lt A_ad2_12) g13.symm
  have lt_ad3_ad13 : ad3 < ad13 := Nat.lt_of_lt_of_eq (own_arz_lt A_ad3_12) g13.symm
  have gn_ad13 : n0 ≤ ad13 := Nat.le_trans Zs12 (Nat.le_of_eq g13.symm)
  have sz_ad13 : h0.size ≤ ad13 := Nat.le_trans K12.1 (Nat.le_of_eq g13.symm)
  have A_ad1_13 : own_arr Z h13 ad1 (3 : Int32) (own_upd (own_upd (own_upd own_zero (0 : Int32) u0) (1 : Int32) u1) (2 : Int32) u2) := own_arr_ext A_ad1_12 E13
  have A_ad2_13 : own_arr Z h13 ad2 (3 : Int32) (own_upd (own_upd (own_upd own_zero (0 : Int32) ss) (1 : Int32) v1) (2 : Int32) v2) := own_arr_ext A_ad2_12 E13
  have A_ad3_13 : own_arz Z h13 ad3 (3 : Int32) (own_upd (own_upd (own_upd own_zero (0 : Int32) (1 : Int32)) (1 : Int32) (1 : Int32)) (2 : Int32) (1 : Int32)) := own_arz_ext A_ad3_12 E13
  have E_ad13_13 : Exa Z h13 ad13 "com/example/process_stepper/processstepper/equivalence/IntLists" := A13
  have F_heads_ad13_13 : Fld Z h13 ad13 "com/example/process_stepper/processstepper/equivalence/IntLists" "heads" "[I" .null := D13 (Or.inl (own_w hw 13 rfl)) (ty := (.array .int)) (by decide)
  have F_sizes_ad13_13 : Fld Z h13 ad13 "com/example/process_stepper/processstepper/equivalence/IntLists" "sizes" "[I" .null := D13 (Or.inl (own_w hw 19 rfl)) (ty := (.array .int)) (by decide)
  have F_next_ad13_13 : Fld Z h13 ad13 "com/example/process_stepper/processstepper/equivalence/IntLists" "next" "[I" .null := D13 (Or.inl (own_w hw 21 rfl)) (ty := (.array .int)) (by decide)
  have F_previous_ad13_13 : Fld Z h13 ad13 "com/example/process_stepper/processstepper/equivalence/IntLists" "previous" "[I" .null := D13 (Or.inl (own_w hw 23 rfl)) (ty := (.array .int)) (by decide)
  have K13 : Keep h0 h13 [] := K12.ext E13
  have Zs13 : n0 ≤ h13.size := Nat.le_trans Zs12 E13.1
  obtain ⟨_, _, ⟨T14, L14, k14, n14⟩, -, X14, ⟨Lc14, hQ14, l14, y14, z14⟩, st14⟩ := X13.specialBack hx (y := own_m2) rfl hown (mvT hZ (own_w hw 6 rfl)) (mvT hZ (own_w hw 7 rfl)) (mvT hZ (own_w hw 8 rfl)) (by decide) (backOf (W := 1) (rm1 l Z a0 hw [] ad13 h13 n0 Zs13 E_ad13_13 F_heads_ad13_13 F_sizes_ad13_13 F_next_ad13_13 F_previous_ad13_13 gn_ad13) hZ (own_w hw 8 rfl) (own_w hw 5 rfl) (by decide) (by decide)) (g := (mkF m 128 #[.val (.int p1), .val (.int p2), .val (.int p3), .val (.int ss), .val (.int (3 : Int32)), .val (.ref ad1), .val (.ref ad2), .val (.ref ad3), .unset, .unset] [(.int (3 : Int32)), (.int (2 : Int32)), (.ref ad13), (.ref ad13)])) rfl (by rw [hml]; rfl) (Steps.refl _) (a := ad13) (argsL := [(.int (2 : Int32)), (.int (3 : Int32))]) (rest := [(.ref ad13)]) (lenOf pd__II_V rfl) rfl (by show 2 * 0 + _ ≤ _; exact Nat.le_of_eq rfl) (hb hby at_128) (fun _ _ => ⟨rfl, e13, (by decide : 4 + 4 ≤ _), (by decide : 13 + 10 ≤ _)⟩)
  dsimp only [Pt.U, Pt.locs, Pt.cells, Pt.slots] at X14 l14 y14 z14 st14 hQ14
  rw [l14, y14, z14] at X14
  obtain ⟨rfl, N14q, b1, b2, b3, b4, K14q, z14q, V14⟩ := hQ14
  have N14 := Fr.app N12 N14q
  have lb_ad1 : ad1 < b1 := Nat.lt_of_lt_of_le (own_arr_lt A_ad1_13) z14q
  have lb_ad2 : ad2 < b1 := Nat.lt_of_lt_of_le (own_arr_lt A_ad2_13) z14q
  have lb_ad3 : ad3 < b1 := Nat.lt_of_lt_of_le (own_arz_lt A_ad3_13) z14q
  have A_ad1_14 : own_arr Z T14.heap ad1 (3 : Int32) (own_upd (own_upd (own_upd own_zero (0 : Int32) u0) (1 : Int32) u1) (2 : Int32) u2) := own_arr_keep A_ad1_13 K14q (ninS (Nat.ne_of_lt lt_ad1_ad13) nin0)
  have A_ad2_14 : own_arr Z T14.heap ad2 (3 : Int32) (own_upd (own_upd (own_upd own_zero (0 : Int32) ss) (1 : Int32) v1) (2 : Int32) v2) := own_arr_keep A_ad2_13 K14q (ninS (Nat.ne_of_lt lt_ad2_ad13) nin0)
  have A_ad3_14 : own_arz Z T14.heap ad3 (3 : Int32) (own_upd (own_upd (own_upd own_zero (0 : Int32) (1 : Int32)) (1 : Int32) (1 : Int32)) (2 : Int32) (1 : Int32)) := own_arz_keep A_ad3_13 K14q (ninS (Nat.ne_of_lt lt_ad3_ad13) nin0)
  have Zs14 : n0 ≤ T14.heap.size := Nat.le_trans Zs13 K14q.1
  obtain ⟨cq15, kq15, q15a, q15b, q15c⟩ := isOf hZ rfl (V14.1)
  obtain ⟨_, _, ⟨T15, L15, k15, n15⟩, -, X15, ⟨Lc15, hQ15, l15, y15, z15⟩, st15⟩ := X14.virtualBack hx (y := own_m3) (z := own_m3) hown (mvT hZ (own_w hw 24 rfl)) (mvT hZ (own_w hw 25 rfl)) (notFace_of_selects (args := #[]) (mvT hZ (own_w hw 27 rfl))) (mvT hZ (own_w hw 27 rfl)) (mvT hZ (own_w hw 26 rfl)) (by decide) (backOf (W := 0) (rm4 l Z a0 hw [] ad13 u0 ss b1 b2 b3 b4 own_H0 own_zero own_zero own_zero T14.heap n0 Zs14 V14 (own_k0 u0 u1 u2 ss v1 v2 c_u0 c_u1 c_u2 c_s hv1 hv2) (own_k1 u0 u1 u2 ss v1 v2 c_u0 c_u1 c_u2 c_s hv1 hv2) (own_k2 u0 u1 u2 ss v1 v2 c_u0 c_u1 c_u2 c_s hv1 hv2) (own_k3 u0 u1 u2 ss v1 v2 c_u0 c_u1 c_u2 c_s hv1 hv2) (own_k4 u0 u1 u2 ss v1 v2 c_u0 c_u1 c_u2 c_s hv1 hv2)) hZ (own_w hw 28 rfl) (own_w hw 5 rfl) (by decide) (by decide)) q15a q15c (g := (mkF m 143 #[.val (.int p1), .val (.int p2), .val (.int p3), .val (.int ss), .val (.int (3 : Int32)), .val (.ref ad1), .val (.ref ad2), .val (.ref ad3), .val (.ref ad13), .unset] [(.int ss), (.int u0), (.ref ad13)])) rfl (by rw [hml]; rfl) (Steps.refl _) (argsL := [(.int u0), (.int ss)]) (rest := []) (lenOf pd__II_V rfl) rfl (by show 2 * 0 + _ ≤ _; exact Nat.le_of_eq rfl) (hb hby at_143) (fun _ _ => ⟨rfl, rfl, (by decide : 8 + 0 ≤ _), (by decide : 23 + 0 ≤ _)⟩)
  dsimp only [Pt.U, Pt.locs, Pt.cells, Pt.slots] at X15 l15 y15 z15 st15 hQ15
  rw [l15, y15, z15] at X15
  obtain ⟨rfl, N15q, K15q, V15q⟩ := hQ15
  have N15 := Fr.app N14 N15q
  have A_ad1_15 : own_arr Z T15.heap ad1 (3 : Int32) (own_upd (own_upd (own_upd own_zero (0 : Int32) u0) (1 : Int32) u1) (2 : Int32) u2) := own_arr_keep A_ad1_14 K15q (own_nin4 lb_ad1 V14.2.2.2.1)
  have A_ad2_15 : own_arr Z T15.heap ad2 (3 : Int32) (own_upd (own_upd (own_upd own_zero (0 : Int32) ss) (1 : Int32) v1) (2 : Int32) v2) := own_arr_keep A_ad2_14 K15q (own_nin4 lb_ad2 V14.2.2.2.1)
  have A_ad3_15 : own_arz Z T15.heap ad3 (3 : Int32) (own_upd (own_upd (own_upd own_zero (0 : Int32) (1 : Int32)) (1 : Int32) (1 : Int32)) (2 : Int32) (1 : Int32)) := own_arz_keep A_ad3_14 K15q (own_nin4 lb_ad3 V14.2.2.2.1)
  have V15 : own_L Z n0 T15.heap ad13 b1 b2 b3 b4 (own_f0 u0 u1 u2 ss v1 v2) (own_f1 u0 u1 u2 ss v1 v2) (own_f2 u0 u1 u2 ss v1 v2) (own_f3 u0 u1 u2 ss v1 v2) := V15q
  have Zs15 : n0 ≤ T15.heap.size := Nat.le_trans Zs14 K15q.1
  obtain ⟨cq16, kq16, q16a, q16b, q16c⟩ := isOf hZ rfl (V15.1)
  obtain ⟨_, _, ⟨T16, L16, k16, n16⟩, -, X16, ⟨Lc16, hQ16, l16, y16, z16⟩, st16⟩ := X15.virtualBack hx (y := own_m3) (z := own_m3) hown (mvT hZ (own_w hw 24 rfl)) (mvT hZ (own_w hw 25 rfl)) (notFace_of_selects (args := #[]) (mvT hZ (own_w hw 27 rfl))) (mvT hZ (own_w hw 27 rfl)) (mvT hZ (own_w hw 26 rfl)) (by decide) (backOf (W := 0) (rm4 l Z a0 hw [] ad13 u1 v1 b1 b2 b3 b4 (own_f0 u0 u1 u2 ss v1 v2) (own_f1 u0 u1 u2 ss v1 v2) (own_f2 u0 u1 u2 ss v1 v2) (own_f3 u0 u1 u2 ss v1 v2) T15.heap n0 Zs15 V15 (own_k5 u0 u1 u2 ss v1 v2 c_u0 c_u1 c_u2 c_s hv1 hv2) (own_k6 u0 u1 u2 ss v1 v2 c_u0 c_u1 c_u2 c_s hv1 hv2) (own_k7 u0 u1 u2 ss v1 v2 c_u0 c_u1 c_u2 c_s hv1 hv2) (own_k8 u0 u1 u2 ss v1 v2 c_u0 c_u1 c_u2 c_s hv1 hv2) (own_k9 u0 u1 u2 ss v1 v2 c_u0 c_u1 c_u2 c_s hv1 hv2)) hZ (own_w hw 28 rfl) (own_w hw 5 rfl) (by decide) (by decide)) q16a q16c (g := (mkF m 156 #[.val (.int p1), .val (.int p2), .val (.int p3), .val (.int ss), .val (.int (3 : Int32)), .val (.ref ad1), .val (.ref ad2), .val (.ref ad3), .val (.ref ad13), .unset] [(.int v1), (.int u1), (.ref ad13)])) rfl (by rw [hml]; rfl) (Steps.refl _) (argsL := [(.int u1), (.int v1)]) (rest := []) (lenOf pd__II_V rfl) rfl (by show 2 * 0 + _ ≤ _; exact Nat.le_of_eq rfl) (hb hby at_156) (fun _ _ => ⟨rfl, rfl, (by decide : 8 + 0 ≤ _), (by decide : 23 + 0 ≤ _)⟩)
  dsimp only [Pt.U, Pt.locs, Pt.cells, Pt.slots] at X16 l16 y16 z16 st16 hQ16
  rw [l16, y16, z16] at X16
  obtain ⟨rfl, N16q, K16q, V16q⟩ := hQ16
  have N16 := Fr.app N15 N16q
  have A_ad1_16 : own_arr Z T16.heap ad1 (3 : Int32) (own_upd (own_upd (own_upd own_zero (0 : Int32) u0) (1 : Int32) u1) (2 : Int32) u2) := own_arr_keep A_ad1_15 K16q (own_nin4 lb_ad1 V15.2.2.2.1)
  have A_ad2_16 : own_arr Z T16.heap ad2 (3 : Int32) (own_upd (own_upd (own_upd own_zero (0 : Int32) ss) (1 : Int32) v1) (2 : Int32) v2) := own_arr_keep A_ad2_15 K16q (own_nin4 lb_ad2 V15.2.2.2.1)
  have A_ad3_16 : own_arz Z T16.heap ad3 (3 : Int32) (own_upd (own_upd (own_upd own_zero (0 : Int32) (1 : Int32)) (1 : Int32) (1 : Int32)) (2 : Int32) (1 : Int32)) := own_arz_keep A_ad3_15 K16q (own_nin4 lb_ad3 V15.2.2.2.1)
  have V16 : own_L Z n0 T16.heap ad13 b1 b2 b3 b4 (own_f4 u0 u1 u2 ss v1 v2) (own_f5 u0 u1 u2 ss v1 v2) (own_f6 u0 u1 u2 ss v1 v2) (own_f7 u0 u1 u2 ss v1 v2) := V16q
  have Zs16 : n0 ≤ T16.heap.size := Nat.le_trans Zs15 K16q.1
  obtain ⟨cq17, kq17, q17a, q17b, q17c⟩ := isOf hZ rfl (V16.1)
  obtain ⟨_, _, ⟨T17, L17, k17, n17⟩, -, X17, ⟨Lc17, hQ17, l17, y17, z17⟩, st17⟩ := X16.virtualBack hx (y := own_m3) (z := own_m3) hown (mvT hZ (own_w hw 24 rfl)) (mvT hZ (own_w hw 25 rfl)) (notFace_of_selects (args := #[]) (mvT hZ (own_w hw 27 rfl))) (mvT hZ (own_w hw 27 rfl)) (mvT hZ (own_w hw 26 rfl)) (by decide) (backOf (W := 0) (rm4 l Z a0 hw [] ad13 u2 v2 b1 b2 b3 b4 (own_f4 u0 u1 u2 ss v1 v2) (own_f5 u0 u1 u2 ss v1 v2) (own_f6 u0 u1 u2 ss v1 v2) (own_f7 u0 u1 u2 ss v1 v2) T16.heap n0 Zs16 V16 (own_k10 u0 u1 u2 ss v1 v2 c_u0 c_u1 c_u2 c_s hv1 hv2) (own_k11 u0 u1 u2 ss v1 v2 c_u0 c_u1 c_u2 c_s hv1 hv2) (own_k12 u0 u1 u2 ss v1 v2 c_u0 c_u1 c_u2 c_s hv1 hv2) (own_k13 u0 u1 u2 ss v1 v2 c_u0 c_u1 c_u2 c_s hv1 hv2) (own_k14 u0 u1 u2 ss v1 v2 c_u0 c_u1 c_u2 c_s hv1 hv2)) hZ (own_w hw 28 rfl) (own_w hw 5 rfl) (by decide) (by decide)) q17a q17c (g := (mkF m 169 #[.val (.int p1), .val (.int p2), .val (.int p3), .val (.int ss), .val (.int (3 : Int32)), .val (.ref ad1), .val (.ref ad2), .val (.ref ad3), .val (.ref ad13), .unset] [(.int v2), (.int u2), (.ref ad13)])) rfl (by rw [hml]; rfl) (Steps.refl _) (argsL := [(.int u2), (.int v2)]) (rest := []) (lenOf pd__II_V rfl) rfl (by show 2 * 0 + _ ≤ _; exact Nat.le_of_eq rfl) (hb hby at_169) (fun _ _ => ⟨rfl, rfl, (by decide : 8 + 0 ≤ _), (by decide : 23 + 0 ≤ _)⟩)
  dsimp only [Pt.U, Pt.locs, Pt.cells, Pt.slots] at X17 l17 y17 z17 st17 hQ17
  rw [l17, y17, z17] at X17
  obtain ⟨rfl, N17q, K17q, V17q⟩ := hQ17
  have N17 := Fr.app N16 N17q
  have A_ad1_17 : own_arr Z T17.heap ad1 (3 : Int32) (own_upd (own_upd (own_upd own_zero (0 : Int32) u0) (1 : Int32) u1) (2 : Int32) u2) := own_arr_keep A_ad1_16 K17q (own_nin4 lb_ad1 V16.2.2.2.1)
  have A_ad2_17 : own_arr Z T17.heap ad2 (3 : Int32) (own_upd (own_upd (own_upd own_zero (0 : Int32) ss) (1 : Int32) v1) (2 : Int32) v2) := own_arr_keep A_ad2_16 K17q (own_nin4 lb_ad2 V16.2.2.2.1)
  have A_ad3_17 : own_arz Z T17.heap ad3 (3 : Int32) (own_upd (own_upd (own_upd own_zero (0 : Int32) (1 : Int32)) (1 : Int32) (1 : Int32)) (2 : Int32) (1 : Int32)) := own_arz_keep A_ad3_16 K17q (own_nin4 lb_ad3 V16.2.2.2.1)
  have V17 : own_L Z n0 T17.heap ad13 b1 b2 b3 b4 (own_f8 u0 u1 u2 ss v1 v2) (own_f9 u0 u1 u2 ss v1 v2) (own_f10 u0 u1 u2 ss v1 v2) (own_f11 u0 u1 u2 ss v1 v2) := V17q
  have Zs17 : n0 ≤ T17.heap.size := Nat.le_trans Zs16 K17q.1
  obtain ⟨cq18, kq18, q18a, q18b, q18c⟩ := isOf hZ rfl (V17.1)
  obtain ⟨_, _, ⟨T18, L18, k18, n18⟩, -, X18, ⟨Lc18, hQ18, l18, y18, z18⟩, st18⟩ := X17.virtualBack hx (y := own_m5) (z := own_m5) hown (mvT hZ (own_w hw 29 rfl)) (mvT hZ (own_w hw 30 rfl)) (notFace_of_selects (args := #[]) (mvT hZ (own_w hw 32 rfl))) (mvT hZ (own_w hw 32 rfl)) (mvT hZ (own_w hw 31 rfl)) (by decide) (backOf (W := 0) (rm8 l Z a0 hw [] ad13 (0 : Int32) b1 b2 b3 b4 (own_f8 u0 u1 u2 ss v1 v2) (own_f9 u0 u1 u2 ss v1 v2) (own_f10 u0 u1 u2 ss v1 v2) (own_f11 u0 u1 u2 ss v1 v2) T17.heap n0 Zs17 V17 (by decide) (by decide)) hZ (own_w hw 33 rfl) (own_w hw 5 rfl) (by decide) (by decide)) q18a q18c (g := (mkF m 204 #[.val (.int p1), .val (.int p2), .val (.int p3), .val (.int ss), .val (.int (3 : Int32)), .val (.ref ad1), .val (.ref ad2), .val (.ref ad3), .val (.ref ad13), .val (.int (1 : Int32))] [(.int (0 : Int32)), (.ref ad13)])) rfl (by rw [hml]; rfl) (Steps.refl _) (argsL := [(.int (0 : Int32))]) (rest := []) (lenOf pd__I_I rfl) rfl (by show 2 * 0 + _ ≤ _; exact Nat.le_of_eq rfl) (hb hby at_204) (fun _ _ => ⟨rfl, rfl, (by decide : 8 + 0 ≤ _), (by decide : 23 + 0 ≤ _)⟩)
  dsimp only [Pt.U, Pt.locs, Pt.cells, Pt.slots] at X18 l18 y18 z18 st18 hQ18
  rw [l18, y18, z18] at X18
  obtain ⟨rfl, N18q, q18⟩ := hQ18
  have N18 := Fr.app N17 N18q
  have e18' : T18.heap = T17.heap := q18
  obtain ⟨_, _, ⟨T19, L19, k19, n19⟩, -, X19, ⟨Lc19, hQ19, l19, y19, z19⟩, st19⟩ := Jvm.LawKit.callS X18 hx (y := own_m6) hown (mvT hZ (own_w hw 34 rfl)) (mvT hZ (own_w hw 35 rfl)) (mvT hZ (own_w hw 36 rfl)) (mvT hZ (own_w hw 37 rfl)) (by decide) (backOf (W := 2) (rmL l Z a0 hw [] ad1 ad3 (0 : Int32) (3 : Int32) (own_upd (own_upd (own_upd own_zero (0 : Int32) u0) (1 : Int32) u1) (2 : Int32) u2) (own_upd (own_upd (own_upd own_zero (0 : Int32) (1 : Int32)) (1 : Int32) (1 : Int32)) (2 : Int32) (1 : Int32)) T17.heap n0 Zs17 A_ad1_17 A_ad3_17) hZ (own_w hw 37 rfl) (own_w hw 36 rfl) (by decide) (by decide)) (g := (mkF m 215 #[.val (.int p1), .val (.int p2), .val (.int p3), .val (.int ss), .val (.int (3 : Int32)), .val (.ref ad1), .val (.ref ad2), .val (.ref ad3), .val (.ref ad13), .val (.int (1 : Int32))] [(.int (3 : Int32)), (.int (0 : Int32)), (.ref ad3), (.ref ad1), (.ref ad2), (.int ((own_f8 u0 u1 u2 ss v1 v2) (0 : Int32)))])) rfl (by rw [hml]; rfl) (argsL := [(.ref ad1), (.ref ad3), (.int (0 : Int32)), (.int (3 : Int32))]) (rest := [(.ref ad2), (.int ((own_f8 u0 u1 u2 ss v1 v2) (0 : Int32)))]) (lenOf pd___I_ZII_I rfl) rfl (by show 2 * 0 + _ ≤ _; exact Nat.le_of_eq rfl) (hb hby at_215) (fun _ _ => ⟨rfl, e18', (by decide : 8 + 0 ≤ _), (by decide : 23 + 0 ≤ _)⟩)
  dsimp only [Pt.U, Pt.locs, Pt.cells, Pt.slots] at X19 l19 y19 z19 st19 hQ19
  rw [l19, y19, z19] at X19
  obtain ⟨rfl, N19q, q19⟩ := hQ19
  have N19 := Fr.app N18 N19q
  have e19' : T19.heap = T17.heap := q19
  obtain ⟨_, _, ⟨T20, L20, k20, n20⟩, -, X20, ⟨Lc20, hQ20, l20, y20, z20⟩, st20⟩ := Jvm.LawKit.callS X19 hx (y := own_m7) hown (mvT hZ (own_w hw 38 rfl)) (mvT hZ (own_w hw 39 rfl)) (mvT hZ (own_w hw 36 rfl)) (mvT hZ (own_w hw 40 rfl)) (by decide) (backOf (W := 1) (rmE l Z a0 hw [] ad2 (own_last (own_upd (own_upd (own_upd own_zero (0 : Int32) u0) (1 : Int32) u1) (2 : Int32) u2) (own_upd (own_upd (own_upd own_zero (0 : Int32) (1 : Int32)) (1 : Int32) (1 : Int32)) (2 : Int32) (1 : Int32)) (0 : Int32) (3 : Int32)) (own_upd (own_upd (own_upd own_zero (0 : Int32) ss) (1 : Int32) v1) (2 : Int32) v2) T17.heap n0 Zs17 A_ad2_17 (own_last_lt _ _ _ _)) hZ (own_w hw 40 rfl) (own_w hw 36 rfl) (by decide) (by decide)) (g := (mkF m 218 #[.val (.int p1), .val (.int p2), .val (.int p3), .val (.int ss), .val (.int (3 : Int32)), .val (.ref ad1), .val (.ref ad2), .val (.ref ad3), .val (.ref ad13), .val (.int (1 : Int32))] [(.int (own_last (own_upd (own_upd (own_upd own_zero (0 : Int32) u0) (1 : Int32) u1) (2 : Int32) u2) (own_upd (own_upd (own_upd own_zero (0 : Int32) (1 : Int32)) (1 : Int32) (1 : Int32)) (2 : Int32) (1 : Int32)) (0 : Int32) (3 : Int32))), (.ref ad2), (.int ((own_f8 u0 u1 u2 ss v1 v2) (0 : Int32)))])) rfl (by rw [hml]; rfl) (argsL := [(.ref ad2), (.int (own_last (own_upd (own_upd (own_upd own_zero (0 : Int32) u0) (1 : Int32) u1) (2 : Int32) u2) (own_upd (own_upd (own_upd own_zero (0 : Int32) (1 : Int32)) (1 : Int32) (1 : Int32)) (2 : Int32) (1 : Int32)) (0 : Int32) (3 : Int32)))]) (rest := [(.int ((own_f8 u0 u1 u2 ss v1 v2) (0 : Int32)))]) (lenOf pd___II_I rfl) rfl (by show 2 * 0 + _ ≤ _; exact Nat.le_of_eq rfl) (hb hby at_218) (fun _ _ => ⟨rfl, e19', (by decide : 8 + 0 ≤ _), (by decide : 23 + 0 ≤ _)⟩)
  dsimp only [Pt.U, Pt.locs, Pt.cells, Pt.slots] at X20 l20 y20 z20 st20 hQ20
  rw [l20, y20, z20] at X20
  obtain ⟨rfl, N20q, q20⟩ := hQ20
  have N20 := Fr.app N19 N20q
  have e20' : T20.heap = T17.heap := q20
  obtain ⟨cq21, kq21, q21a, q21b, q21c⟩ := isOf hZ e20' (V17.1)
  obtain ⟨_, _, ⟨T21, L21, k21, n21⟩, -, X21, ⟨Lc21, hQ21, l21, y21, z21⟩, st21⟩ := X20.virtualBack hx (y := own_m5) (z := own_m5) hown (mvT hZ (own_w hw 29 rfl)) (mvT hZ (own_w hw 30 rfl)) (notFace_of_selects (args := #[]) (mvT hZ (own_w hw 32 rfl))) (mvT hZ (own_w hw 32 rfl)) (mvT hZ (own_w hw 31 rfl)) (by decide) (backOf (W := 0) (rm8 l Z a0 hw [] ad13 (1 : Int32) b1 b2 b3 b4 (own_f8 u0 u1 u2 ss v1 v2) (own_f9 u0 u1 u2 ss v1 v2) (own_f10 u0 u1 u2 ss v1 v2) (own_f11 u0 u1 u2 ss v1 v2) T17.heap n0 Zs17 V17 (by decide) (by decide)) hZ (own_w hw 33 rfl) (own_w hw 5 rfl) (by decide) (by decide)) q21a q21c (g := (mkF m 239 #[.val (.int p1), .val (.int p2), .val (.int p3), .val (.int ss), .val (.int (3 : Int32)), .val (.ref ad1), .val (.ref ad2), .val (.ref ad3), .val (.ref ad13), .val (.int (1 : Int32))] [(.int (1 : Int32)), (.ref ad13)])) rfl (by rw [hml]; rfl) (Steps.refl _) (argsL := [(.int (1 : Int32))]) (rest := []) (lenOf pd__I_I rfl) rfl (by show 2 * 0 + _ ≤ _; exact Nat.le_of_eq rfl) (hb hby at_239) (fun _ _ => ⟨rfl, e20', (by decide : 8 + 0 ≤ _), (by decide : 23 + 0 ≤ _)⟩)
  dsimp only [Pt.U, Pt.locs, Pt.cells, Pt.slots] at X21 l21 y21 z21 st21 hQ21
  rw [l21, y21, z21] at X21
  obtain ⟨rfl, N21q, q21⟩ := hQ21
  have N21 := Fr.app N20 N21q
  have e21' : T21.heap = T17.heap := q21
  obtain ⟨_, _, ⟨T22, L22, k22, n22⟩, -, X22, ⟨Lc22, hQ22, l22, y22, z22⟩, st22⟩ := Jvm.LawKit.callS X21 hx (y := own_m6) hown (mvT hZ (own_w hw 34 rfl)) (mvT hZ (own_w hw 35 rfl)) (mvT hZ (own_w hw 36 rfl)) (mvT hZ (own_w hw 37 rfl)) (by decide) (backOf (W := 2) (rmL l Z a0 hw [] ad1 ad3 (1 : Int32) (3 : Int32) (own_upd (own_upd (own_upd own_zero (0 : Int32) u0) (1 : Int32) u1) (2 : Int32) u2) (own_upd (own_upd (own_upd own_zero (0 : Int32) (1 : Int32)) (1 : Int32) (1 : Int32)) (2 : Int32) (1 : Int32)) T17.heap n0 Zs17 A_ad1_17 A_ad3_17) hZ (own_w hw 37 rfl) (own_w hw 36 rfl) (by decide) (by decide)) (g := (mkF m 250 #[.val (.int p1), .val (.int p2), .val (.int p3), .val (.int ss), .val (.int (3 : Int32)), .val (.ref ad1), .val (.ref ad2), .val (.ref ad3), .val (.ref ad13), .val (.int (1 : Int32))] [(.int (3 : Int32)), (.int (1 : Int32)), (.ref ad3), (.ref ad1), (.ref ad2), (.int ((own_f8 u0 u1 u2 ss v1 v2) (1 : Int32)))])) rfl (by rw [hml]; rfl) (argsL := [(.ref ad1), (.ref ad3), (.int (1 : Int32)), (.int (3 : Int32))]) (rest := [(.ref ad2), (.int ((own_f8 u0 u1 u2 ss v1 v2) (1 : Int32)))]) (lenOf pd___I_ZII_I rfl) rfl (by show 2 * 0 + _ ≤ _; exact Nat.le_of_eq rfl) (hb hby at_250) (fun _ _ => ⟨rfl, e21', (by decide : 8 + 0 ≤ _), (by decide : 23 + 0 ≤ _)⟩)
  dsimp only [Pt.U, Pt.locs, Pt.cells, Pt.slots] at X22 l22 y22 z22 st22 hQ22
  rw [l22, y22, z22] at X22
  obtain ⟨rfl, N22q, q22⟩ := hQ22
  have N22 := Fr.app N21 N22q
  have e22' : T22.heap = T17.heap := q22
  obtain ⟨_, _, ⟨T23, L23, k23, n23⟩, -, X23, ⟨Lc23, hQ23, l23, y23, z23⟩, st23⟩ := Jvm.LawKit.callS X22 hx (y := own_m7) hown (mvT hZ (own_w hw 38 rfl)) (mvT hZ (own_w hw 39 rfl)) (mvT hZ (own_w hw 36 rfl)) (mvT hZ (own_w hw 40 rfl)) (by decide) (backOf (W := 1) (rmE l Z a0 hw [] ad2 (own_last (own_upd (own_upd (own_upd own_zero (0 : Int32) u0) (1 : Int32) u1) (2 : Int32) u2) (own_upd (own_upd (own_upd own_zero (0 : Int32) (1 : Int32)) (1 : Int32) (1 : Int32)) (2 : Int32) (1 : Int32)) (1 : Int32) (3 : Int32)) (own_upd (own_upd (own_upd own_zero (0 : Int32) ss) (1 : Int32) v1) (2 : Int32) v2) T17.heap n0 Zs17 A_ad2_17 (own_last_lt _ _ _ _)) hZ (own_w hw 40 rfl) (own_w hw 36 rfl) (by decide) (by decide)) (g := (mkF m 253 #[.val (.int p1), .val (.int p2), .val (.int p3), .val (.int ss), .val (.int (3 : Int32)), .val (.ref ad1), .val (.ref ad2), .val (.ref ad3), .val (.ref ad13), .val (.int (1 : Int32))] [(.int (own_last (own_upd (own_upd (own_upd own_zero (0 : Int32) u0) (1 : Int32) u1) (2 : Int32) u2) (own_upd (own_upd (own_upd own_zero (0 : Int32) (1 : Int32)) (1 : Int32) (1 : Int32)) (2 : Int32) (1 : Int32)) (1 : Int32) (3 : Int32))), (.ref ad2), (.int ((own_f8 u0 u1 u2 ss v1 v2) (1 : Int32)))])) rfl (by rw [hml]; rfl) (argsL := [(.ref ad2), (.int (own_last (own_upd (own_upd (own_upd own_zero (0 : Int32) u0) (1 : Int32) u1) (2 : Int32) u2) (own_upd (own_upd (own_upd own_zero (0 : Int32) (1 : Int32)) (1 : Int32) (1 : Int32)) (2 : Int32) (1 : Int32)) (1 : Int32) (3 : Int32)))]) (rest := [(.int ((own_f8 u0 u1 u2 ss v1 v2) (1 : Int32)))]) (lenOf pd___II_I rfl) rfl (by show 2 * 0 + _ ≤ _; exact Nat.le_of_eq rfl) (hb hby at_253) (fun _ _ => ⟨rfl, e22', (by decide : 8 + 0 ≤ _), (by decide : 23 + 0 ≤ _)⟩)
  dsimp only [Pt.U, Pt.locs, Pt.cells, Pt.slots] at X23 l23 y23 z23 st23 hQ23
  rw [l23, y23, z23] at X23
  obtain ⟨rfl, N23q, q23⟩ := hQ23
  have N23 := Fr.app N22 N23q
  have e23' : T23.heap = T17.heap := q23
  obtain ⟨cq24, kq24, q24a, q24b, q24c⟩ := isOf hZ e23' (V17.1)
  obtain ⟨_, _, ⟨T24, L24, k24, n24⟩, -, X24, ⟨Lc24, hQ24, l24, y24, z24⟩, st24⟩ := X23.virtualBack hx (y := own_m8) (z := own_m8) hown (mvT hZ (own_w hw 41 rfl)) (mvT hZ (own_w hw 42 rfl)) (notFace_of_selects (args := #[]) (mvT hZ (own_w hw 44 rfl))) (mvT hZ (own_w hw 44 rfl)) (mvT hZ (own_w hw 43 rfl)) (by decide) (backOf (W := 0) (rm7 l Z a0 hw [] ad13 (0 : Int32) b1 b2 b3 b4 (own_f8 u0 u1 u2 ss v1 v2) (own_f9 u0 u1 u2 ss v1 v2) (own_f10 u0 u1 u2 ss v1 v2) (own_f11 u0 u1 u2 ss v1 v2) T17.heap n0 Zs17 V17 (by decide) (by decide)) hZ (own_w hw 45 rfl) (own_w hw 5 rfl) (by decide) (by decide)) q24a q24c (g := (mkF m 274 #[.val (.int p1), .val (.int p2), .val (.int p3), .val (.int ss), .val (.int (3 : Int32)), .val (.ref ad1), .val (.ref ad2), .val (.ref ad3), .val (.ref ad13), .val (.int (1 : Int32))] [(.int (0 : Int32)), (.ref ad13)])) rfl (by rw [hml]; rfl) (Steps.refl _) (argsL := [(.int (0 : Int32))]) (rest := []) (lenOf pd__I_I rfl) rfl (by show 2 * 0 + _ ≤ _; exact Nat.le_of_eq rfl) (hb hby at_274) (fun _ _ => ⟨rfl, e23', (by decide : 8 + 0 ≤ _), (by decide : 23 + 0 ≤ _)⟩)
  dsimp only [Pt.U, Pt.locs, Pt.cells, Pt.slots] at X24 l24 y24 z24 st24 hQ24
  rw [l24, y24, z24] at X24
  obtain ⟨rfl, N24q, q24⟩ := hQ24
  have N24 := Fr.app N23 N24q
  have e24' : T24.heap = T17.heap := q24
  obtain ⟨_, _, ⟨T25, L25, k25, n25⟩, -, X25, ⟨Lc25, hQ25, l25, y25, z25⟩, st25⟩ := Jvm.LawKit.callS X24 hx (y := own_m9) hown (mvT hZ (own_w hw 46 rfl)) (mvT hZ (own_w hw 47 rfl)) (mvT hZ (own_w hw 36 rfl)) (mvT hZ (own_w hw 48 rfl)) (by decide) (backOf (W := 1) (rmC l Z a0 hw [] ad1 ad3 (0 : Int32) (own_upd (own_upd (own_upd own_zero (0 : Int32) u0) (1 : Int32) u1) (2 : Int32) u2) (own_upd (own_upd (own_upd own_zero (0 : Int32) (1 : Int32)) (1 : Int32) (1 : Int32)) (2 : Int32) (1 : Int32)) T17.heap n0 Zs17 A_ad1_17 A_ad3_17) hZ (own_w hw 48 rfl) (own_w hw 36 rfl) (by decide) (by decide)) (g := (mkF m 282 #[.val (.int p1), .val (.int p2), .val (.int p3), .val (.int ss), .val (.int (3 : Int32)), .val (.ref ad1), .val (.ref ad2), .val (.ref ad3), .val (.ref ad13), .val (.int (1 : Int32))] [(.int (0 : Int32)), (.ref ad3), (.ref ad1), (.int ((own_f9 u0 u1 u2 ss v1 v2) (0 : Int32)))])) rfl (by rw [hml]; rfl) (argsL := [(.ref ad1), (.ref ad3), (.int (0 : Int32))]) (rest := [(.int ((own_f9 u0 u1 u2 ss v1 v2) (0 : Int32)))]) (lenOf pd___I_ZI_I rfl) rfl (by show 2 * 0 + _ ≤ _; exact Nat.le_of_eq rfl) (hb hby at_282) (fun _ _ => ⟨rfl, e24', (by decide : 8 + 0 ≤ _), (by decide : 23 + 0 ≤ _)⟩)
  dsimp only [Pt.U, Pt.locs, Pt.cells, Pt.slots] at X25 l25 y25 z25 st25 hQ25
  rw [l25, y25, z25] at X25
  obtain ⟨rfl, N25q, q25⟩ := hQ25
  have N25 := Fr.app N24 N25q
  have e25' : T25.heap = T17.heap := q25
  obtain ⟨cq26, kq26, q26a, q26b, q26c⟩ := isOf hZ e25' (V17.1)
  obtain ⟨_, _, ⟨T26, L26, k26, n26⟩, -, X26, ⟨Lc26, hQ26, l26, y26, z26⟩, st26⟩ := X25.virtualBack hx (y := own_m8) (z := own_m8) hown (mvT hZ (own_w hw 41 rfl)) (mvT hZ (own_w hw 42 rfl)) (notFace_of_selects (args := #[]) (mvT hZ (own_w hw 44 rfl))) (mvT hZ (own_w hw 44 rfl)) (mvT hZ (own_w hw 43 rfl)) (by decide) (backOf (W := 0) (rm7 l Z a0 hw [] ad13 (1 : Int32) b1 b2 b3 b4 (own_f8 u0 u1 u2 ss v1 v2) (own_f9 u0 u1 u2 ss v1 v2) (own_f10 u0 u1 u2 ss v1 v2) (own_f11 u0 u1 u2 ss v1 v2) T17.heap n0 Zs17 V17 (by decide) (by decide)) hZ (own_w hw 45 rfl) (own_w hw 5 rfl) (by decide) (by decide)) q26a q26c (g := (mkF m 303 #[.val (.int p1), .val (.int p2), .val (.int p3), .val (.int ss), .val (.int (3 : Int32)), .val (.ref ad1), .val (.ref ad2), .val (.ref ad3), .val (.ref ad13), .val (.int (1 : Int32))] [(.int (1 : Int32)), (.ref ad13)])) rfl (by rw [hml]; rfl) (Steps.refl _) (argsL := [(.int (1 : Int32))]) (rest := []) (lenOf pd__I_I rfl) rfl (by show 2 * 0 + _ ≤ _; exact Nat.le_of_eq rfl) (hb hby at_303) (fun _ _ => ⟨rfl, e25', (by decide : 8 + 0 ≤ _), (by decide : 23 + 0 ≤ _)⟩)
  dsimp only [Pt.U, Pt.locs, Pt.cells, Pt.slots] at X26 l26 y26 z26 st26 hQ26
  rw [l26, y26, z26] at X26
  obtain ⟨rfl, N26q, q26⟩ := hQ26
  have N26 := Fr.app N25 N26q
  have e26' : T26.heap = T17.heap := q26
  obtain ⟨_, _, ⟨T27, L27, k27, n27⟩, -, X27, ⟨Lc27, hQ27, l27, y27, z27⟩, st27⟩ := Jvm.LawKit.callS X26 hx (y := own_m9) hown (mvT hZ (own_w hw 46 rfl)) (mvT hZ (own_w hw 47 rfl)) (mvT hZ (own_w hw 36 rfl)) (mvT hZ (own_w hw 48 rfl)) (by decide) (backOf (W := 1) (rmC l Z a0 hw [] ad1 ad3 (1 : Int32) (own_upd (own_upd (own_upd own_zero (0 : Int32) u0) (1 : Int32) u1) (2 : Int32) u2) (own_upd (own_upd (own_upd own_zero (0 : Int32) (1 : Int32)) (1 : Int32) (1 : Int32)) (2 : Int32) (1 : Int32)) T17.heap n0 Zs17 A_ad1_17 A_ad3_17) hZ (own_w hw 48 rfl) (own_w hw 36 rfl) (by decide) (by decide)) (g := (mkF m 311 #[.val (.int p1), .val (.int p2), .val (.int p3), .val (.int ss), .val (.int (3 : Int32)), .val (.ref ad1), .val (.ref ad2), .val (.ref ad3), .val (.ref ad13), .val (.int (1 : Int32))] [(.int (1 : Int32)), (.ref ad3), (.ref ad1), (.int ((own_f9 u0 u1 u2 ss v1 v2) (1 : Int32)))])) rfl (by rw [hml]; rfl) (argsL := [(.ref ad1), (.ref ad3), (.int (1 : Int32))]) (rest := [(.int ((own_f9 u0 u1 u2 ss v1 v2) (1 : Int32)))]) (lenOf pd___I_ZI_I rfl) rfl (by show 2 * 0 + _ ≤ _; exact Nat.le_of_eq rfl) (hb hby at_311) (fun _ _ => ⟨rfl, e26', (by decide : 8 + 0 ≤ _), (by decide : 23 + 0 ≤ _)⟩)
  dsimp only [Pt.U, Pt.locs, Pt.cells, Pt.slots] at X27 l27 y27 z27 st27 hQ27
  rw [l27, y27, z27] at X27
  obtain ⟨rfl, N27q, q27⟩ := hQ27
  have N27 := Fr.app N26 N27q
  have e27' : T27.heap = T17.heap := q27
  obtain ⟨cq28, kq28, q28a, q28b, q28c⟩ := isOf hZ e27' (V17.1)
  obtain ⟨_, _, ⟨T28, L28, k28, n28⟩, -, X28, ⟨Lc28, hQ28, l28, y28, z28⟩, st28⟩ := X27.virtualBack hx (y := own_m10) (z := own_m10) hown (mvT hZ (own_w hw 49 rfl)) (mvT hZ (own_w hw 50 rfl)) (notFace_of_selects (args := #[]) (mvT hZ (own_w hw 52 rfl))) (mvT hZ (own_w hw 52 rfl)) (mvT hZ (own_w hw 51 rfl)) (by decide) (backOf (W := 0) (rm9 l Z a0 hw [] ad13 ss b1 b2 b3 b4 (own_f8 u0 u1 u2 ss v1 v2) (own_f9 u0 u1 u2 ss v1 v2) (own_f10 u0 u1 u2 ss v1 v2) (own_f11 u0 u1 u2 ss v1 v2) T17.heap n0 Zs17 V17 (own_k2 u0 u1 u2 ss v1 v2 c_u0 c_u1 c_u2 c_s hv1 hv2) (own_k3 u0 u1 u2 ss v1 v2 c_u0 c_u1 c_u2 c_s hv1 hv2)) hZ (own_w hw 53 rfl) (own_w hw 5 rfl) (by decide) (by decide)) q28a q28c (g := (mkF m 342 #[.val (.int p1), .val (.int p2), .val (.int p3), .val (.int ss), .val (.int (3 : Int32)), .val (.ref ad1), .val (.ref ad2), .val (.ref ad3), .val (.ref ad13), .val (.int (1 : Int32))] [(.int ss), (.ref ad13)])) rfl (by rw [hml]; rfl) (Steps.refl _) (argsL := [(.int ss)]) (rest := []) (lenOf pd__I_I rfl) rfl (by show 2 * 0 + _ ≤ _; exact Nat.le_of_eq rfl) (hb hby at_342) (fun _ _ => ⟨rfl, e27', (by decide : 8 + 0 ≤ _), (by decide : 23 + 0 ≤ _)⟩)
  dsimp only [Pt.U, Pt.locs, Pt.cells, Pt.slots] at X28 l28 y28 z28 st28 hQ28
  rw [l28, y28, z28] at X28
  obtain ⟨rfl, N28q, q28⟩ := hQ28
  have N28 := Fr.app N27 N28q
  have e28' : T28.heap = T17.heap := q28
  obtain ⟨_, _, ⟨T29, L29, k29, n29⟩, -, X29, ⟨Lc29, hQ29, l29, y29, z29⟩, st29⟩ := Jvm.LawKit.callS X28 hx (y := own_m6) hown (mvT hZ (own_w hw 34 rfl)) (mvT hZ (own_w hw 35 rfl)) (mvT hZ (own_w hw 36 rfl)) (mvT hZ (own_w hw 37 rfl)) (by decide) (backOf (W := 2) (rmL l Z a0 hw [] ad1 ad3 u0 (0 : Int32) (own_upd (own_upd (own_upd own_zero (0 : Int32) u0) (1 : Int32) u1) (2 : Int32) u2) (own_upd (own_upd (own_upd own_zero (0 : Int32) (1 : Int32)) (1 : Int32) (1 : Int32)) (2 : Int32) (1 : Int32)) T17.heap n0 Zs17 A_ad1_17 A_ad3_17) hZ (own_w hw 37 rfl) (own_w hw 36 rfl) (by decide) (by decide)) (g := (mkF m 356 #[.val (.int p1), .val (.int p2), .val (.int p3), .val (.int ss), .val (.int (3 : Int32)), .val (.ref ad1), .val (.ref ad2), .val (.ref ad3), .val (.ref ad13), .val (.int (1 : Int32))] [(.int (0 : Int32)), (.int u0), (.ref ad3), (.ref ad1), (.ref ad2), (.int ((own_f10 u0 u1 u2 ss v1 v2) ss))])) rfl (by rw [hml]; rfl) (argsL := [(.ref ad1), (.ref ad3), (.int u0), (.int (0 : Int32))]) (rest := [(.ref ad2), (.int ((own_f10 u0 u1 u2 ss v1 v2) ss))]) (lenOf pd___I_ZII_I rfl) rfl (by show 2 * 0 + _ ≤ _; exact Nat.le_of_eq rfl) (hb hby at_356) (fun _ _ => ⟨rfl, e28', (by decide : 8 + 0 ≤ _), (by decide : 23 + 0 ≤ _)⟩)
  dsimp only [Pt.U, Pt.locs, Pt.cells, Pt.slots] at X29 l29 y29 z29 st29 hQ29
  rw [l29, y29, z29] at X29
  obtain ⟨rfl, N29q, q29⟩ := hQ29
  have N29 := Fr.app N28 N29q
  have e29' : T29.heap = T17.heap := q29
  obtain ⟨_, _, ⟨T30, L30, k30, n30⟩, -, X30, ⟨Lc30, hQ30, l30, y30, z30⟩, st30⟩ := Jvm.LawKit.callS X29 hx (y := own_m7) hown (mvT hZ (own_w hw 38 rfl)) (mvT hZ (own_w hw 39 rfl)) (mvT hZ (own_w hw 36 rfl)) (mvT hZ (own_w hw 40 rfl)) (by decide) (backOf (W := 1) (rmE l Z a0 hw [] ad2 (own_last (own_upd (own_upd (own_upd own_zero (0 : Int32) u0) (1 : Int32) u1) (2 : Int32) u2) (own_upd (own_upd (own_upd own_zero (0 : Int32) (1 : Int32)) (1 : Int32) (1 : Int32)) (2 : Int32) (1 : Int32)) u0 (0 : Int32)) (own_upd (own_upd (own_upd own_zero (0 : Int32) ss) (1 : Int32) v1) (2 : Int32) v2) T17.heap n0 Zs17 A_ad2_17 (own_last_lt _ _ _ _)) hZ (own_w hw 40 rfl) (own_w hw 36 rfl) (by decide) (by decide)) (g := (mkF m 359 #[.val (.int p1), .val (.int p2), .val (.int p3), .val (.int ss), .val (.int (3 : Int32)), .val (.ref ad1), .val (.ref ad2), .val (.ref ad3), .val (.ref ad13), .val (.int (1 : Int32))] [(.int (own_last (own_upd (own_upd (own_upd own_zero (0 : Int32) u0) (1 : Int32) u1) (2 : Int32) u2) (own_upd (own_upd (own_upd own_zero (0 : Int32) (1 : Int32)) (1 : Int32) (1 : Int32)) (2 : Int32) (1 : Int32)) u0 (0 : Int32))), (.ref ad2), (.int ((own_f10 u0 u1 u2 ss v1 v2) ss))])) rfl (by rw [hml]; rfl) (argsL := [(.ref ad2), (.int (own_last (own_upd (own_upd (own_upd own_zero (0 : Int32) u0) (1 : Int32) u1) (2 : Int32) u2) (own_upd (own_upd (own_upd own_zero (0 : Int32) (1 : Int32)) (1 : Int32) (1 : Int32)) (2 : Int32) (1 : Int32)) u0 (0 : Int32)))]) (rest := [(.int ((own_f10 u0 u1 u2 ss v1 v2) ss))]) (lenOf pd___II_I rfl) rfl (by show 2 * 0 + _ ≤ _; exact Nat.le_of_eq rfl) (hb hby at_359) (fun _ _ => ⟨rfl, e29', (by decide : 8 + 0 ≤ _), (by decide : 23 + 0 ≤ _)⟩)
  dsimp only [Pt.U, Pt.locs, Pt.cells, Pt.slots] at X30 l30 y30 z30 st30 hQ30
  rw [l30, y30, z30] at X30
  obtain ⟨rfl, N30q, q30⟩ := hQ30
  have N30 := Fr.app N29 N30q
  have e30' : T30.heap = T17.heap := q30
  obtain ⟨cq31, kq31, q31a, q31b, q31c⟩ := isOf hZ e30' (V17.1)
  obtain ⟨_, _, ⟨T31, L31, k31, n31⟩, -, X31, ⟨Lc31, hQ31, l31, y31, z31⟩, st31⟩ := X30.virtualBack hx (y := own_m10) (z := own_m10) hown (mvT hZ (own_w hw 49 rfl)) (mvT hZ (own_w hw 50 rfl)) (notFace_of_selects (args := #[]) (mvT hZ (own_w hw 52 rfl))) (mvT hZ (own_w hw 52 rfl)) (mvT hZ (own_w hw 51 rfl)) (by decide) (backOf (W := 0) (rm9 l Z a0 hw [] ad13 v1 b1 b2 b3 b4 (own_f8 u0 u1 u2 ss v1 v2) (own_f9 u0 u1 u2 ss v1 v2) (own_f10 u0 u1 u2 ss v1 v2) (own_f11 u0 u1 u2 ss v1 v2) T17.heap n0 Zs17 V17 (own_k7 u0 u1 u2 ss v1 v2 c_u0 c_u1 c_u2 c_s hv1 hv2) (own_k8 u0 u1 u2 ss v1 v2 c_u0 c_u1 c_u2 c_s hv1 hv2)) hZ (own_w hw 53 rfl) (own_w hw 5 rfl) (by decide) (by decide)) q31a q31c (g := (mkF m 390 #[.val (.int p1), .val (.int p2), .val (.int p3), .val (.int ss), .val (.int (3 : Int32)), .val (.ref ad1), .val (.ref ad2), .val (.ref ad3), .val (.ref ad13), .val (.int (1 : Int32))] [(.int v1), (.ref ad13)])) rfl (by rw [hml]; rfl) (Steps.refl _) (argsL := [(.int v1)]) (rest := []) (lenOf pd__I_I rfl) rfl (by show 2 * 0 + _ ≤ _; exact Nat.le_of_eq rfl) (hb hby at_390) (fun _ _ => ⟨rfl, e30', (by decide : 8 + 0 ≤ _), (by decide : 23 + 0 ≤ _)⟩)
  dsimp only [Pt.U, Pt.locs, Pt.cells, Pt.slots] at X31 l31 y31 z31 st31 hQ31
  rw [l31, y31, z31] at X31
  obtain ⟨rfl, N31q, q31⟩ := hQ31
  have N31 := Fr.app N30 N31q
  have e31' : T31.heap = T17.heap := q31
  obtain ⟨_, _, ⟨T32, L32, k32, n32⟩, -, X32, ⟨Lc32, hQ32, l32, y32, z32⟩, st32⟩ := Jvm.LawKit.callS X31 hx (y := own_m6) hown (mvT hZ (own_w hw 34 rfl)) (mvT hZ (own_w hw 35 rfl)) (mvT hZ (own_w hw 36 rfl)) (mvT hZ (own_w hw 37 rfl)) (by decide) (backOf (W := 2) (rmL l Z a0 hw [] ad1 ad3 u1 (1 : Int32) (own_upd (own_upd (own_upd own_zero (0 : Int32) u0) (1 : Int32) u1) (2 : Int32) u2) (own_upd (own_upd (own_upd own_zero (0 : Int32) (1 : Int32)) (1 : Int32) (1 : Int32)) (2 : Int32) (1 : Int32)) T17.heap n0 Zs17 A_ad1_17 A_ad3_17) hZ (own_w hw 37 rfl) (own_w hw 36 rfl) (by decide) (by decide)) (g := (mkF m 404 #[.val (.int p1), .val (.int p2), .val (.int p3), .val (.int ss), .val (.int (3 : Int32)), .val (.ref ad1), .val (.ref ad2), .val (.ref ad3), .val (.ref ad13), .val (.int (1 : Int32))] [(.int (1 : Int32)), (.int u1), (.ref ad3), (.ref ad1), (.ref ad2), (.int ((own_f10 u0 u1 u2 ss v1 v2) v1))])) rfl (by rw [hml]; rfl) (argsL := [(.ref ad1), (.ref ad3), (.int u1), (.int (1 : Int32))]) (rest := [(.ref ad2), (.int ((own_f10 u0 u1 u2 ss v1 v2) v1))]) (lenOf pd___I_ZII_I rfl) rfl (by show 2 * 0 + _ ≤ _; exact Nat.le_of_eq rfl) (hb hby at_404) (fun _ _ => ⟨rfl, e31', (by decide : 8 + 0 ≤ _), (by decide : 23 + 0 ≤ _)⟩)
  dsimp only [Pt.U, Pt.locs, Pt.cells, Pt.slots] at X32 l32 y32 z32 st32 hQ32
  rw [l32, y32, z32] at X32
  obtain ⟨rfl, N32q, q32⟩ := hQ32
  have N32 := Fr.app N31 N32q
  have e32' : T32.heap = T17.heap := q32
  obtain ⟨_, _, ⟨T33, L33, k33, n33⟩, -, X33, ⟨Lc33, hQ33, l33, y33, z33⟩, st33⟩ := Jvm.LawKit.callS X32 hx (y := own_m7) hown (mvT hZ (own_w hw 38 rfl)) (mvT hZ (own_w hw 39 rfl)) (mvT hZ (own_w hw 36 rfl)) (mvT hZ (own_w hw 40 rfl)) (by decide) (backOf (W := 1) (rmE l Z a0 hw [] ad2 (own_last (own_upd (own_upd (own_upd own_zero (0 : Int32) u0) (1 : Int32) u1) (2 : Int32) u2) (own_upd (own_upd (own_upd own_zero (0 : Int32) (1 : Int32)) (1 : Int32) (1 : Int32)) (2 : Int32) (1 : Int32)) u1 (1 : Int32)) (own_upd (own_upd (own_upd own_zero (0 : Int32) ss) (1 : Int32) v1) (2 : Int32) v2) T17.heap n0 Zs17 A_ad2_17 (own_last_lt _ _ _ _)) hZ (own_w hw 40 rfl) (own_w hw 36 rfl) (by decide) (by decide)) (g := (mkF m 407 #[.val (.int p1), .val (.int p2), .val (.int p3), .val (.int ss), .val (.int (3 : Int32)), .val (.ref ad1), .val (.ref ad2), .val (.ref ad3), .val (.ref ad13), .val (.int (1 : Int32))] [(.int (own_last (own_upd (own_upd (own_upd own_zero (0 : Int32) u0) (1 : Int32) u1) (2 : Int32) u2) (own_upd (own_upd (own_upd own_zero (0 : Int32) (1 : Int32)) (1 : Int32) (1 : Int32)) (2 : Int32) (1 : Int32)) u1 (1 : Int32))), (.ref ad2), (.int ((own_f10 u0 u1 u2 ss v1 v2) v1))])) rfl (by rw [hml]; rfl) (argsL := [(.ref ad2), (.int (own_last (own_upd (own_upd (own_upd own_zero (0 : Int32) u0) (1 : Int32) u1) (2 : Int32) u2) (own_upd (own_upd (own_upd own_zero (0 : Int32) (1 : Int32)) (1 : Int32) (1 : Int32)) (2 : Int32) (1 : Int32)) u1 (1 : Int32)))]) (rest := [(.int ((own_f10 u0 u1 u2 ss v1 v2) v1))]) (lenOf pd___II_I rfl) rfl (by show 2 * 0 + _ ≤ _; exact Nat.le_of_eq rfl) (hb hby at_407) (fun _ _ => ⟨rfl, e32', (by decide : 8 + 0 ≤ _), (by decide : 23 + 0 ≤ _)⟩)
  dsimp only [Pt.U, Pt.locs, Pt.cells, Pt.slots] at X33 l33 y33 z33 st33 hQ33
  rw [l33, y33, z33] at X33
  obtain ⟨rfl, N33q, q33⟩ := hQ33
  have N33 := Fr.app N32 N33q
  have e33' : T33.heap = T17.heap := q33
  obtain ⟨cq34, kq34, q34a, q34b, q34c⟩ := isOf hZ e33' (V17.1)
  obtain ⟨_, _, ⟨T34, L34, k34, n34⟩, -, X34, ⟨Lc34, hQ34, l34, y34, z34⟩, st34⟩ := X33.virtualBack hx (y := own_m10) (z := own_m10) hown (mvT hZ (own_w hw 49 rfl)) (mvT hZ (own_w hw 50 rfl)) (notFace_of_selects (args := #[]) (mvT hZ (own_w hw 52 rfl))) (mvT hZ (own_w hw 52 rfl)) (mvT hZ (own_w hw 51 rfl)) (by decide) (backOf (W := 0) (rm9 l Z a0 hw [] ad13 v2 b1 b2 b3 b4 (own_f8 u0 u1 u2 ss v1 v2) (own_f9 u0 u1 u2 ss v1 v2) (own_f10 u0 u1 u2 ss v1 v2) (own_f11 u0 u1 u2 ss v1 v2) T17.heap n0 Zs17 V17 (own_k12 u0 u1 u2 ss v1 v2 c_u0 c_u1 c_u2 c_s hv1 hv2) (own_k13 u0 u1 u2 ss v1 v2 c_u0 c_u1 c_u2 c_s hv1 hv2)) hZ (own_w hw 53 rfl) (own_w hw 5 rfl) (by decide) (by decide)) q34a q34c (g := (mkF m 438 #[.val (.int p1), .val (.int p2), .val (.int p3), .val (.int ss), .val (.int (3 : Int32)), .val (.ref ad1), .val (.ref ad2), .val (.ref ad3), .val (.ref ad13), .val (.int (1 : Int32))] [(.int v2), (.ref ad13)])) rfl (by rw [hml]; rfl) (Steps.refl _) (argsL := [(.int v2)]) (rest := []) (lenOf pd__I_I rfl) rfl (by show 2 * 0 + _ ≤ _; exact Nat.le_of_eq rfl) (hb hby at_438) (fun _ _ => ⟨rfl, e33', (by decide : 8 + 0 ≤ _), (by decide : 23 + 0 ≤ _)⟩)
  dsimp only [Pt.U, Pt.locs, Pt.cells, Pt.slots] at X34 l34 y34 z34 st34 hQ34
  rw [l34, y34, z34] at X34
  obtain ⟨rfl, N34q, q34⟩ := hQ34
  have N34 := Fr.app N33 N34q
  have e34' : T34.heap = T17.heap := q34
  obtain ⟨_, _, ⟨T35, L35, k35, n35⟩, -, X35, ⟨Lc35, hQ35, l35, y35, z35⟩, st35⟩ := Jvm.LawKit.callS X34 hx (y := own_m6) hown (mvT hZ (own_w hw 34 rfl)) (mvT hZ (own_w hw 35 rfl)) (mvT hZ (own_w hw 36 rfl)) (mvT hZ (own_w hw 37 rfl)) (by decide) (backOf (W := 2) (rmL l Z a0 hw [] ad1 ad3 u2 (2 : Int32) (own_upd (own_upd (own_upd own_zero (0 : Int32) u0) (1 : Int32) u1) (2 : Int32) u2) (own_upd (own_upd (own_upd own_zero (0 : Int32) (1 : Int32)) (1 : Int32) (1 : Int32)) (2 : Int32) (1 : Int32)) T17.heap n0 Zs17 A_ad1_17 A_ad3_17) hZ (own_w hw 37 rfl) (own_w hw 36 rfl) (by decide) (by decide)) (g := (mkF m 452 #[.val (.int p1), .val (.int p2), .val (.int p3), .val (.int ss), .val (.int (3 : Int32)), .val (.ref ad1), .val (.ref ad2), .val (.ref ad3), .val (.ref ad13), .val (.int (1 : Int32))] [(.int (2 : Int32)), (.int u2), (.ref ad3), (.ref ad1), (.ref ad2), (.int ((own_f10 u0 u1 u2 ss v1 v2) v2))])) rfl (by rw [hml]; rfl) (argsL := [(.ref ad1), (.ref ad3), (.int u2), (.int (2 : Int32))]) (rest := [(.ref ad2), (.int ((own_f10 u0 u1 u2 ss v1 v2) v2))]) (lenOf pd___I_ZII_I rfl) rfl (by show 2 * 0 + _ ≤ _; exact Nat.le_of_eq rfl) (hb hby at_452) (fun _ _ => ⟨rfl, e34', (by decide : 8 + 0 ≤ _), (by decide : 23 + 0 ≤ _)⟩)
  dsimp only [Pt.U, Pt.locs, Pt.cells, Pt.slots] at X35 l35 y35 z35 st35 hQ35
  rw [l35, y35, z35] at X35
  obtain ⟨rfl, N35q, q35⟩ := hQ35
  have N35 := Fr.app N34 N35q
  have e35' : T35.heap = T17.heap := q35
  obtain ⟨_, _, ⟨T36, L36, k36, n36⟩, -, X36, ⟨Lc36, hQ36, l36, y36, z36⟩, st36⟩ := Jvm.LawKit.callS X35 hx (y := own_m7) hown (mvT hZ (own_w hw 38 rfl)) (mvT hZ (own_w hw 39 rfl)) (mvT hZ (own_w hw 36 rfl)) (mvT hZ (own_w hw 40 rfl)) (by decide) (backOf (W := 1) (rmE l Z a0 hw [] ad2 (own_last (own_upd (own_upd (own_upd own_zero (0 : Int32) u0) (1 : Int32) u1) (2 : Int32) u2) (own_upd (own_upd (own_upd own_zero (0 : Int32) (1 : Int32)) (1 : Int32) (1 : Int32)) (2 : Int32) (1 : Int32)) u2 (2 : Int32)) (own_upd (own_upd (own_upd own_zero (0 : Int32) ss) (1 : Int32) v1) (2 : Int32) v2) T17.heap n0 Zs17 A_ad2_17 (own_last_lt _ _ _ _)) hZ (own_w hw 40 rfl) (own_w hw 36 rfl) (by decide) (by decide)) (g := (mkF m 455 #[.val (.int p1), .val (.int p2), .val (.int p3), .val (.int ss), .val (.int (3 : Int32)), .val (.ref ad1), .val (.ref ad2), .val (.ref ad3), .val (.ref ad13), .val (.int (1 : Int32))] [(.int (own_last (own_upd (own_upd (own_upd own_zero (0 : Int32) u0) (1 : Int32) u1) (2 : Int32) u2) (own_upd (own_upd (own_upd own_zero (0 : Int32) (1 : Int32)) (1 : Int32) (1 : Int32)) (2 : Int32) (1 : Int32)) u2 (2 : Int32))), (.ref ad2), (.int ((own_f10 u0 u1 u2 ss v1 v2) v2))])) rfl (by rw [hml]; rfl) (argsL := [(.ref ad2), (.int (own_last (own_upd (own_upd (own_upd own_zero (0 : Int32) u0) (1 : Int32) u1) (2 : Int32) u2) (own_upd (own_upd (own_upd own_zero (0 : Int32) (1 : Int32)) (1 : Int32) (1 : Int32)) (2 : Int32) (1 : Int32)) u2 (2 : Int32)))]) (rest := [(.int ((own_f10 u0 u1 u2 ss v1 v2) v2))]) (lenOf pd___II_I rfl) rfl (by show 2 * 0 + _ ≤ _; exact Nat.le_of_eq rfl) (hb hby at_455) (fun _ _ => ⟨rfl, e35', (by decide : 8 + 0 ≤ _), (by decide : 23 + 0 ≤ _)⟩)
  dsimp only [Pt.U, Pt.locs, Pt.cells, Pt.slots] at X36 l36 y36 z36 st36 hQ36
  rw [l36, y36, z36] at X36
  obtain ⟨rfl, N36q, q36⟩ := hQ36
  have N36 := Fr.app N35 N36q
  have e36' : T36.heap = T17.heap := q36
  obtain ⟨fs, hr, hrun, hended, hW, hsame⟩ := X36.leave (v := some (.int (1 : Int32))) (fun h => by rw [Bd.returns] at h; cases h)
  refine ⟨_, _, pre0 _ ?_, hrun, hended, _, _, rfl, ?_, ⟨_, rfl⟩, hW, hsame.mono (by decide) (by decide)⟩
  · show Steps p.tables e below (s₁.setTop (mkF m 0 #[.val (.int p1), .val (.int p2), .val (.int p3), .unset, .unset, .unset, .unset, .unset, .unset, .unset] [])) _
    refine XS.iloadN X0.here hx rfl (hb hby at_0) rfl ?_
    show Steps p.tables e below (s₁.setTop (mkF m 1 #[.val (.int p1), .val (.int p2), .val (.int p3), .unset, .unset, .unset, .unset, .unset, .unset, .unset] [(.int p3)])) _
    refine X0.ldcInt hx hown (mvT hZ (own_w hw 0 rfl)) (g := (mkF m 1 #[.val (.int p1), .val (.int p2), .val (.int p3), .unset, .unset, .unset, .unset, .unset, .unset, .unset] [(.int p3)])) rfl (hb hby at_1) _ ?_
    show Steps p.tables e below (s₁.setTop (mkF m 3 #[.val (.int p1), .val (.int p2), .val (.int p3), .unset, .unset, .unset, .unset, .unset, .unset, .unset] [(.int (2147483647 : Int32)), (.int p3)])) _
    refine XS.iand X0.here hx rfl (hb hby at_3) rfl ?_
    show Steps p.tables e below (s₁.setTop (mkF m 4 #[.val (.int p1), .val (.int p2), .val (.int p3), .unset, .unset, .unset, .unset, .unset, .unset, .unset] [(.int (p3 &&& (2147483647 : Int32)))])) _
    refine XS.iconst X0.here hx rfl (hb hby at_4) ?_
    show Steps p.tables e below (s₁.setTop (mkF m 5 #[.val (.int p1), .val (.int p2), .val (.int p3), .unset, .unset, .unset, .unset, .unset, .unset, .unset] [(.int (3 : Int32)), (.int (p3 &&& (2147483647 : Int32)))])) _
    refine iremM X0 hx rfl (hb hby at_5) rfl (by decide) ?_
    rw [← hss]
    show Steps p.tables e below (s₁.setTop (mkF m 6 #[.val (.int p1), .val (.int p2), .val (.int p3), .unset, .unset, .unset, .unset, .unset, .unset, .unset] [(.int ss)])) _
    refine XS.istoreN X0.here hx rfl (hb hby at_6) rfl (l' := #[.val (.int p1), .val (.int p2), .val (.int p3), .val (.int ss), .unset, .unset, .unset, .unset, .unset, .unset]) rfl ?_
    refine XS.iloadN X0.here hx rfl (hb hby at_7) rfl ?_
    show Steps p.tables e below (s₁.setTop (mkF m 8 #[.val (.int p1), .val (.int p2), .val (.int p3), .val (.int ss), .unset, .unset, .unset, .unset, .unset, .unset] [(.int p2)])) _
    refine X0.ldcInt hx hown (mvT hZ (own_w hw 0 rfl)) (g := (mkF m 8 #[.val (.int p1), .val (.int p2), .val (.int p3), .val (.int ss), .unset, .unset, .unset, .unset, .unset, .unset] [(.int p2)])) rfl (hb hby at_8) _ ?_
    show Steps p.tables e below (s₁.setTop (mkF m 10 #[.val (.int p1), .val (.int p2), .val (.int p3), .val (.int ss), .unset, .unset, .unset, .unset, .unset, .unset] [(.int (2147483647 : Int32)), (.int p2)])) _
    refine XS.iand X0.here hx rfl (hb hby at_10) rfl ?_
    show Steps p.tables e below (s₁.setTop (mkF m 11 #[.val (.int p1), .val (.int p2), .val (.int p3), .val (.int ss), .unset, .unset, .unset, .unset, .unset, .unset] [(.int (p2 &&& (2147483647 : Int32)))])) _
    refine XS.iconst X0.here hx rfl (hb hby at_11) ?_
    show Steps p.tables e below (s₁.setTop (mkF m 12 #[.val (.int p1), .val (.int p2), .val (.int p3), .val (.int ss), .unset, .unset, .unset, .unset, .unset, .unset] [(.int (4 : Int32)), (.int (p2 &&& (2147483647 : Int32)))])) _
    refine iremM X0 hx rfl (hb hby at_12) rfl (by decide) ?_
    rw [hR]
    show Steps p.tables e below (s₁.setTop (mkF m 13 #[.val (.int p1), .val (.int p2), .val (.int p3), .val (.int ss), .unset, .unset, .unset, .unset, .unset, .unset] [(.int (3 : Int32))])) _
    refine XS.istore X0.here hx rfl (hb hby at_13) rfl (l' := #[.val (.int p1), .val (.int p2), .val (.int p3), .val (.int ss), .val (.int (3 : Int32)), .unset, .unset, .unset, .unset, .unset]) rfl ?_
    refine XS.iconst X0.here hx rfl (hb hby at_15) ?_
    show Steps p.tables e below (s₁.setTop (mkF m 16 #[.val (.int p1), .val (.int p2), .val (.int p3), .val (.int ss), .val (.int (3 : Int32)), .unset, .unset, .unset, .unset, .unset] [(.int (3 : Int32))])) _
    refine st1 _ ?_
    show Steps p.tables e below (T1.setTop (mkF m 18 #[.val (.int p1), .val (.int p2), .val (.int p3), .val (.int ss), .val (.int (3 : Int32)), .unset, .unset, .unset, .unset, .unset] [(.ref ad1)])) _
    refine XS.astore X1.here hx rfl (hb hby at_18) rfl rfl (l' := #[.val (.int p1), .val (.int p2), .val (.int p3), .val (.int ss), .val (.int (3 : Int32)), .val (.ref ad1), .unset, .unset, .unset, .unset]) rfl ?_
    refine XS.iconst X1.here hx rfl (hb hby at_20) ?_
    show Steps p.tables e below (T1.setTop (mkF m 21 #[.val (.int p1), .val (.int p2), .val (.int p3), .val (.int ss), .val (.int (3 : Int32)), .val (.ref ad1), .unset, .unset, .unset, .unset] [(.int (3 : Int32))])) _
    refine st2 _ ?_
    show Steps p.tables e below (T2.setTop (mkF m 23 #[.val (.int p1), .val (.int p2), .val (.int p3), .val (.int ss), .val (.int (3 : Int32)), .val (.ref ad1), .unset, .unset, .unset, .unset] [(.ref ad2)])) _
    refine XS.astore X2.here hx rfl (hb hby at_23) rfl rfl (l' := #[.val (.int p1), .val (.int p2), .val (.int p3), .val (.int ss), .val (.int (3 : Int32)), .val (.ref ad1), .val (.ref ad2), .unset, .unset, .unset]) rfl ?_
    refine XS.iconst X2.here hx rfl (hb hby at_25) ?_
    show Steps p.tables e below (T2.setTop (mkF m 26 #[.val (.int p1), .val (.int p2), .val (.int p3), .val (.int ss), .val (.int (3 : Int32)), .val (.ref ad1), .val (.ref ad2), .unset, .unset, .unset] [(.int (3 : Int32))])) _
    refine st3 _ ?_
    show Steps p.tables e below (T3.setTop (mkF m 28 #[.val (.int p1), .val (.int p2), .val (.int p3), .val (.int ss), .val (.int (3 : Int32)), .val (.ref ad1), .val (.ref ad2), .unset, .unset, .unset] [(.ref ad3)])) _
    refine XS.astore X3.here hx rfl (hb hby at_28) rfl rfl (l' := #[.val (.int p1), .val (.int p2), .val (.int p3), .val (.int ss), .val (.int (3 : Int32)), .val (.ref ad1), .val (.ref ad2), .val (.ref ad3), .unset, .unset]) rfl ?_
    refine XS.aload X3.here hx rfl (hb hby at_30) rfl rfl ?_
    refine XS.iconst X3.here hx rfl (hb hby at_32) ?_
    refine XS.iloadN X3.here hx rfl (hb hby at_33) rfl ?_
    refine XS.iconst X3.here hx rfl (hb hby at_34) ?_
    show Steps p.tables e below (T3.setTop (mkF m 35 #[.val (.int p1), .val (.int p2), .val (.int p3), .val (.int ss), .val (.int (3 : Int32)), .val (.ref ad1), .val (.ref ad2), .val (.ref ad3), .unset, .unset] [(.int (1 : Int32)), (.int p1), (.int (0 : Int32)), (.ref ad1)])) _
    refine XS.iand X3.here hx rfl (hb hby at_35) rfl ?_
    rw [← hu0]
    show Steps p.tables e below (T3.setTop (mkF m 36 #[.val (.int p1), .val (.int p2), .val (.int p3), .val (.int ss), .val (.int (3 : Int32)), .val (.ref ad1), .val (.ref ad2), .val (.ref ad3), .unset, .unset] [(.int u0), (.int (0 : Int32)), (.ref ad1)])) _
    refine st4 _ ?_
    show Steps p.tables e below (T4.setTop (mkF m 37 #[.val (.int p1), .val (.int p2), .val (.int p3), .val (.int ss), .val (.int (3 : Int32)), .val (.ref ad1), .val (.ref ad2), .val (.ref ad3), .unset, .unset] [])) _
    refine XS.aload X4.here hx rfl (hb hby at_37) rfl rfl ?_
    refine XS.iconst X4.here hx rfl (hb hby at_39) ?_
    refine XS.iloadN X4.here hx rfl (hb hby at_40) rfl ?_
    refine XS.iconst X4.here hx rfl (hb hby at_41) ?_
    show Steps p.tables e below (T4.setTop (mkF m 42 #[.val (.int p1), .val (.int p2), .val (.int p3), .val (.int ss), .val (.int (3 : Int32)), .val (.ref ad1), .val (.ref ad2), .val (.ref ad3), .unset, .unset] [(.int (1 : Int32)), (.int p1), (.int (1 : Int32)), (.ref ad1)])) _
    refine XS.iushr X4.here hx rfl (hb hby at_42) rfl ?_
    show Steps p.tables e below (T4.setTop (mkF m 43 #[.val (.int p1), .val (.int p2), .val (.int p3), .val (.int ss), .val (.int (3 : Int32)), .val (.ref ad1), .val (.ref ad2), .val (.ref ad3), .unset, .unset] [(.int ((p1.toUInt32 >>> ((1 : Int32) &&& 31).toUInt32).toInt32)), (.int (1 : Int32)), (.ref ad1)])) _
    refine XS.iconst X4.here hx rfl (hb hby at_43) ?_
    show Steps p.tables e below (T4.setTop (mkF m 44 #[.val (.int p1), .val (.int p2), .val (.int p3), .val (.int ss), .val (.int (3 : Int32)), .val (.ref ad1), .val (.ref ad2), .val (.ref ad3), .unset, .unset] [(.int (1 : Int32)), (.int ((p1.toUInt32 >>> ((1 : Int32) &&& 31).toUInt32).toInt32)), (.int (1 : Int32)), (.ref ad1)])) _
    refine XS.iand X4.here hx rfl (hb hby at_44) rfl ?_
    rw [← hu1]
    show Steps p.tables e below (T4.setTop (mkF m 45 #[.val (.int p1), .val (.int p2), .val (.int p3), .val (.int ss), .val (.int (3 : Int32)), .val (.ref ad1), .val (.ref ad2), .val (.ref ad3), .unset, .unset] [(.int u1), (.int (1 : Int32)), (.ref ad1)])) _
    refine st5 _ ?_
    show Steps p.tables e below (T5.setTop (mkF m 46 #[.val (.int p1), .val (.int p2), .val (.int p3), .val (.int ss), .val (.int (3 : Int32)), .val (.ref ad1), .val (.ref ad2), .val (.ref ad3), .unset, .unset] [])) _
    refine XS.aload X5.here hx rfl (hb hby at_46) rfl rfl ?_
    refine XS.iconst X5.here hx rfl (hb hby at_48) ?_
    refine XS.iloadN X5.here hx rfl (hb hby at_49) rfl ?_
    refine XS.iconst X5.here hx rfl (hb hby at_50) ?_
    show Steps p.tables e below (T5.setTop (mkF m 51 #[.val (.int p1), .val (.int p2), .val (.int p3), .val (.int ss), .val (.int (3 : Int32)), .val (.ref ad1), .val (.ref ad2), .val (.ref ad3), .unset, .unset] [(.int (2 : Int32)), (.int p1), (.int (2 : Int32)), (.ref ad1)])) _
    refine XS.iushr X5.here hx rfl (hb hby at_51) rfl ?_
    show Steps p.tables e below (T5.setTop (mkF m 52 #[.val (.int p1), .val (.int p2), .val (.int p3), .val (.int ss), .val (.int (3 : Int32)), .val (.ref ad1), .val (.ref ad2), .val (.ref ad3), .unset, .unset] [(.int ((p1.toUInt32 >>> ((2 : Int32) &&& 31).toUInt32).toInt32)), (.int (2 : Int32)), (.ref ad1)])) _
    refine XS.iconst X5.here hx rfl (hb hby at_52) ?_
    show Steps p.tables e below (T5.setTop (mkF m 53 #[.val (.int p1), .val (.int p2), .val (.int p3), .val (.int ss), .val (.int (3 : Int32)), .val (.ref ad1), .val (.ref ad2), .val (.ref ad3), .unset, .unset] [(.int (1 : Int32)), (.int ((p1.toUInt32 >>> ((2 : Int32) &&& 31).toUInt32).toInt32)), (.int (2 : Int32)), (.ref ad1)])) _
    refine XS.iand X5.here hx rfl (hb hby at_53) rfl ?_
    rw [← hu2]
    show Steps p.tables e below (T5.setTop (mkF m 54 #[.val (.int p1), .val (.int p2), .val (.int p3), .val (.int ss), .val (.int (3 : Int32)), .val (.ref ad1), .val (.ref ad2), .val (.ref ad3), .unset, .unset] [(.int u2), (.int (2 : Int32)), (.ref ad1)])) _
    refine st6 _ ?_
    show Steps p.tables e below (T6.setTop (mkF m 55 #[.val (.int p1), .val (.int p2), .val (.int p3), .val (.int ss), .val (.int (3 : Int32)), .val (.ref ad1), .val (.ref ad2), .val (.ref ad3), .unset, .unset] [])) _
    refine XS.aload X6.here hx rfl (hb hby at_55) rfl rfl ?_
    refine XS.iconst X6.here hx rfl (hb hby at_57) ?_
    refine XS.iloadN X6.here hx rfl (hb hby at_58) rfl ?_
    show Steps p.tables e below (T6.setTop (mkF m 59 #[.val (.int p1), .val (.int p2), .val (.int p3), .val (.int ss), .val (.int (3 : Int32)), .val (.ref ad1), .val (.ref ad2), .val (.ref ad3), .unset, .unset] [(.int ss), (.int (0 : Int32)), (.ref ad2)])) _
    refine st7 _ ?_
    show Steps p.tables e below (T7.setTop (mkF m 60 #[.val (.int p1), .val (.int p2), .val (.int p3), .val (.int ss), .val (.int (3 : Int32)), .val (.ref ad1), .val (.ref ad2), .val (.ref ad3), .unset, .unset] [])) _
    refine XS.aload X7.here hx rfl (hb hby at_60) rfl rfl ?_
    refine XS.iconst X7.here hx rfl (hb hby at_62) ?_
    refine XS.iconst X7.here hx rfl (hb hby at_63) ?_
    refine XS.iloadN X7.here hx rfl (hb hby at_64) rfl ?_
    show Steps p.tables e below (T7.setTop (mkF m 65 #[.val (.int p1), .val (.int p2), .val (.int p3), .val (.int ss), .val (.int (3 : Int32)), .val (.ref ad1), .val (.ref ad2), .val (.ref ad3), .unset, .unset] [(.int ss), (.int (1 : Int32)), (.int (1 : Int32)), (.ref ad2)])) _
    refine XS.iadd X7.here hx rfl (hb hby at_65) rfl ?_
    show Steps p.tables e below (T7.setTop (mkF m 66 #[.val (.int p1), .val (.int p2), .val (.int p3), .val (.int ss), .val (.int (3 : Int32)), .val (.ref ad1), .val (.ref ad2), .val (.ref ad3), .unset, .unset] [(.int ((1 : Int32) + ss)), (.int (1 : Int32)), (.ref ad2)])) _
    refine XS.iconst X7.here hx rfl (hb hby at_66) ?_
    show Steps p.tables e below (T7.setTop (mkF m 67 #[.val (.int p1), .val (.int p2), .val (.int p3), .val (.int ss), .val (.int (3 : Int32)), .val (.ref ad1), .val (.ref ad2), .val (.ref ad3), .unset, .unset] [(.int (3 : Int32)), (.int ((1 : Int32) + ss)), (.int (1 : Int32)), (.ref ad2)])) _
    refine iremM X7 hx rfl (hb hby at_67) rfl (by decide) ?_
    rw [← hv1]
    show Steps p.tables e below (T7.setTop (mkF m 68 #[.val (.int p1), .val (.int p2), .val (.int p3), .val (.int ss), .val (.int (3 : Int32)), .val (.ref ad1), .val (.ref ad2), .val (.ref ad3), .unset, .unset] [(.int v1), (.int (1 : Int32)), (.ref ad2)])) _
    refine st8 _ ?_
    show Steps p.tables e below (T8.setTop (mkF m 69 #[.val (.int p1), .val (.int p2), .val (.int p3), .val (.int ss), .val (.int (3 : Int32)), .val (.ref ad1), .val (.ref ad2), .val (.ref ad3), .unset, .unset] [])) _
    refine XS.aload X8.here hx rfl (hb hby at_69) rfl rfl ?_
    refine XS.iconst X8.here hx rfl (hb hby at_71) ?_
    refine XS.iconst X8.here hx rfl (hb hby at_72) ?_
    refine XS.iloadN X8.here hx rfl (hb hby at_73) rfl ?_
    show Steps p.tables e below (T8.setTop (mkF m 74 #[.val (.int p1), .val (.int p2), .val (.int p3), .val (.int ss), .val (.int (3 : Int32)), .val (.ref ad1), .val (.ref ad2), .val (.ref ad3), .unset, .unset] [(.int ss), (.int (2 : Int32)), (.int (2 : Int32)), (.ref ad2)])) _
    refine XS.iadd X8.here hx rfl (hb hby at_74) rfl ?_
    show Steps p.tables e below (T8.setTop (mkF m 75 #[.val (.int p1), .val (.int p2), .val (.int p3), .val (.int ss), .val (.int (3 : Int32)), .val (.ref ad1), .val (.ref ad2), .val (.ref ad3), .unset, .unset] [(.int ((2 : Int32) + ss)), (.int (2 : Int32)), (.ref ad2)])) _
    refine XS.iconst X8.here hx rfl (hb hby at_75) ?_
    show Steps p.tables e below (T8.setTop (mkF m 76 #[.val (.int p1), .val (.int p2), .val (.int p3), .val (.int ss), .val (.int (3 : Int32)), .val (.ref ad1), .val (.ref ad2), .val (.ref ad3), .unset, .unset] [(.int (3 : Int32)), (.int ((2 : Int32) + ss)), (.int (2 : Int32)), (.ref ad2)])) _
    refine iremM X8 hx rfl (hb hby at_76) rfl (by decide) ?_
    rw [← hv2]
    show Steps p.tables e below (T8.setTop (mkF m 77 #[.val (.int p1), .val (.int p2), .val (.int p3), .val (.int ss), .val (.int (3 : Int32)), .val (.ref ad1), .val (.ref ad2), .val (.ref ad3), .unset, .unset] [(.int v2), (.int (2 : Int32)), (.ref ad2)])) _
    refine st9 _ ?_
    show Steps p.tables e below (T9.setTop (mkF m 78 #[.val (.int p1), .val (.int p2), .val (.int p3), .val (.int ss), .val (.int (3 : Int32)), .val (.ref ad1), .val (.ref ad2), .val (.ref ad3), .unset, .unset] [])) _
    refine XS.aload X9.here hx rfl (hb hby at_78) rfl rfl ?_
    refine XS.iconst X9.here hx rfl (hb hby at_80) ?_
    refine XS.iload X9.here hx rfl (hb hby at_81) rfl ?_
    show Steps p.tables e below (T9.setTop (mkF m 83 #[.val (.int p1), .val (.int p2), .val (.int p3), .val (.int ss), .val (.int (3 : Int32)), .val (.ref ad1), .val (.ref ad2), .val (.ref ad3), .unset, .unset] [(.int (3 : Int32)), (.int (0 : Int32)), (.ref ad3)])) _
    refine XS.ifNo X9.here hx rfl (hb hby at_83) rfl ((if0 _ _).trans (feq (by decide : ¬ ((3 : Int32) = (0 : Int32)))).1) ?_
    show Steps p.tables e below (T9.setTop (mkF m 86 #[.val (.int p1), .val (.int p2), .val (.int p3), .val (.int ss), .val (.int (3 : Int32)), .val (.ref ad1), .val (.ref ad2), .val (.ref ad3), .unset, .unset] [(.int (0 : Int32)), (.ref ad3)])) _
    refine XS.iconst X9.here hx rfl (hb hby at_86) ?_
    refine XS.goto X9.here hx rfl (pc0 := 87) (pc' := 91) rfl (hb hby at_87) (by decide) (by decide) ?_
    show Steps p.tables e below (T9.setTop (mkF m 91 #[.val (.int p1), .val (.int p2), .val (.int p3), .val (.int ss), .val (.int (3 : Int32)), .val (.ref ad1), .val (.ref ad2), .val (.ref ad3), .unset, .unset] [(.int (1 : Int32)), (.int (0 : Int32)), (.ref ad3)])) _
    refine st10 _ ?_
    show Steps p.tables e below (T10.setTop (mkF m 92 #[.val (.int p1), .val (.int p2), .val (.int p3), .val (.int ss), .val (.int (3 : Int32)), .val (.ref ad1), .val (.ref ad2), .val (.ref ad3), .unset, .unset] [])) _
    refine XS.aload X10.here hx rfl (hb hby at_92) rfl rfl ?_
    refine XS.iconst X10.here hx rfl (hb hby at_94) ?_
    refine XS.iload X10.here hx rfl (hb hby at_95) rfl ?_
    refine XS.iconst X10.here hx rfl (hb hby at_97) ?_
    show Steps p.tables e below (T10.setTop (mkF m 98 #[.val (.int p1), .val (.int p2), .val (.int p3), .val (.int ss), .val (.int (3 : Int32)), .val (.ref ad1), .val (.ref ad2), .val (.ref ad3), .unset, .unset] [(.int (1 : Int32)), (.int (3 : Int32)), (.int (1 : Int32)), (.ref ad3)])) _
    refine XS.icmpNo X10.here hx rfl (hb hby at_98) rfl (feq (by decide : ¬ ((3 : Int32) = (1 : Int32)))).1 ?_
    show Steps p.tables e below (T10.setTop (mkF m 101 #[.val (.int p1), .val (.int p2), .val (.int p3), .val (.int ss), .val (.int (3 : Int32)), .val (.ref ad1), .val (.ref ad2), .val (.ref ad3), .unset, .unset] [(.int (1 : Int32)), (.ref ad3)])) _
    refine XS.iconst X10.here hx rfl (hb hby at_101) ?_
    refine XS.goto X10.here hx rfl (pc0 := 102) (pc' := 106) rfl (hb hby at_102) (by decide) (by decide) ?_
    show Steps p.tables e below (T10.setTop (mkF m 106 #[.val (.int p1), .val (.int p2), .val (.int p3), .val (.int ss), .val (.int (3 : Int32)), .val (.ref ad1), .val (.ref ad2), .val (.ref ad3), .unset, .unset] [(.int (1 : Int32)), (.int (1 : Int32)), (.ref ad3)])) _
    refine st11 _ ?_
    show Steps p.tables e below (T11.setTop (mkF m 107 #[.val (.int p1), .val (.int p2), .val (.int p3), .val (.int ss), .val (.int (3 : Int32)), .val (.ref ad1), .val (.ref ad2), .val (.ref ad3), .unset, .unset] [])) _
    refine XS.aload X11.here hx rfl (hb hby at_107) rfl rfl ?_
    refine XS.iconst X11.here hx rfl (hb hby at_109) ?_
    refine XS.iload X11.here hx rfl (hb hby at_110) rfl ?_
    refine XS.iconst X11.here hx rfl (hb hby at_112) ?_
    show Steps p.tables e below (T11.setTop (mkF m 113 #[.val (.int p1), .val (.int p2), .val (.int p3), .val (.int ss), .val (.int (3 : Int32)), .val (.ref ad1), .val (.ref ad2), .val (.ref ad3), .unset, .unset] [(.int (2 : Int32)), (.int (3 : Int32)), (.int (2 : Int32)), (.ref ad3)])) _
    refine XS.icmpNo X11.here hx rfl (hb hby at_113) rfl (feq (by decide : ¬ ((3 : Int32) = (2 : Int32)))).1 ?_
    show Steps p.tables e below (T11.setTop (mkF m 116 #[.val (.int p1), .val (.int p2), .val (.int p3), .val (.int ss), .val (.int (3 : Int32)), .val (.ref ad1), .val (.ref ad2), .val (.ref ad3), .unset, .unset] [(.int (2 : Int32)), (.ref ad3)])) _
    refine XS.iconst X11.here hx rfl (hb hby at_116) ?_
    refine XS.goto X11.here hx rfl (pc0 := 117) (pc' := 121) rfl (hb hby at_117) (by decide) (by decide) ?_
    show Steps p.tables e below (T11.setTop (mkF m 121 #[.val (.int p1), .val (.int p2), .val (.int p3), .val (.int ss), .val (.int (3 : Int32)), .val (.ref ad1), .val (.ref ad2), .val (.ref ad3), .unset, .unset] [(.int (1 : Int32)), (.int (2 : Int32)), (.ref ad3)])) _
    refine st12 _ ?_
    show Steps p.tables e below (T12.setTop (mkF m 122 #[.val (.int p1), .val (.int p2), .val (.int p3), .val (.int ss), .val (.int (3 : Int32)), .val (.ref ad1), .val (.ref ad2), .val (.ref ad3), .unset, .unset] [])) _
    refine st13 _ ?_
    show Steps p.tables e below (T13.setTop (mkF m 125 #[.val (.int p1), .val (.int p2), .val (.int p3), .val (.int ss), .val (.int (3 : Int32)), .val (.ref ad1), .val (.ref ad2), .val (.ref ad3), .unset, .unset] [(.ref ad13)])) _
    refine XS.dup X13.here hx rfl (hb hby at_125) rfl rfl ?_
    refine XS.iconst X13.here hx rfl (hb hby at_126) ?_
    refine XS.iconst X13.here hx rfl (hb hby at_127) ?_
    show Steps p.tables e below (T13.setTop (mkF m 128 #[.val (.int p1), .val (.int p2), .val (.int p3), .val (.int ss), .val (.int (3 : Int32)), .val (.ref ad1), .val (.ref ad2), .val (.ref ad3), .unset, .unset] [(.int (3 : Int32)), (.int (2 : Int32)), (.ref ad13), (.ref ad13)])) _
    refine st14.trans ?_
    show Steps p.tables e below (T14.setTop (mkF m 131 #[.val (.int p1), .val (.int p2), .val (.int p3), .val (.int ss), .val (.int (3 : Int32)), .val (.ref ad1), .val (.ref ad2), .val (.ref ad3), .unset, .unset] [(.ref ad13)])) _
    refine XS.astore X14.here hx rfl (hb hby at_131) rfl rfl (l' := #[.val (.int p1), .val (.int p2), .val (.int p3), .val (.int ss), .val (.int (3 : Int32)), .val (.ref ad1), .val (.ref ad2), .val (.ref ad3), .val (.ref ad13), .unset]) rfl ?_
    refine XS.aload X14.here hx rfl (hb hby at_133) rfl rfl ?_
    refine XS.aload X14.here hx rfl (hb hby at_135) rfl rfl ?_
    refine XS.iconst X14.here hx rfl (hb hby at_137) ?_
    show Steps p.tables e below (T14.setTop (mkF m 138 #[.val (.int p1), .val (.int p2), .val (.int p3), .val (.int ss), .val (.int (3 : Int32)), .val (.ref ad1), .val (.ref ad2), .val (.ref ad3), .val (.ref ad13), .unset] [(.int (0 : Int32)), (.ref ad1), (.ref ad13)])) _
    refine own_ld X14 hx hZ rfl A_ad1_14 (by decide) (by decide) (g := (mkF m 138 #[.val (.int p1), .val (.int p2), .val (.int p3), .val (.int ss), .val (.int (3 : Int32)), .val (.ref ad1), .val (.ref ad2), .val (.ref ad3), .val (.ref ad13), .unset] [(.int (0 : Int32)), (.ref ad1), (.ref ad13)])) rfl rfl (hb hby at_138) _ ?_
    show Steps p.tables e below (T14.setTop (mkF m 139 #[.val (.int p1), .val (.int p2), .val (.int p3), .val (.int ss), .val (.int (3 : Int32)), .val (.ref ad1), .val (.ref ad2), .val (.ref ad3), .val (.ref ad13), .unset] [(.int u0), (.ref ad13)])) _
    refine XS.aload X14.here hx rfl (hb hby at_139) rfl rfl ?_
    refine XS.iconst X14.here hx rfl (hb hby at_141) ?_
    show Steps p.tables e below (T14.setTop (mkF m 142 #[.val (.int p1), .val (.int p2), .val (.int p3), .val (.int ss), .val (.int (3 : Int32)), .val (.ref ad1), .val (.ref ad2), .val (.ref ad3), .val (.ref ad13), .unset] [(.int (0 : Int32)), (.ref ad2), (.int u0), (.ref ad13)])) _
    refine own_ld X14 hx hZ rfl A_ad2_14 (by decide) (by decide) (g := (mkF m 142 #[.val (.int p1), .val (.int p2), .val (.int p3), .val (.int ss), .val (.int (3 : Int32)), .val (.ref ad1), .val (.ref ad2), .val (.ref ad3), .val (.ref ad13), .unset] [(.int (0 : Int32)), (.ref ad2), (.int u0), (.ref ad13)])) rfl rfl (hb hby at_142) _ ?_
    show Steps p.tables e below (T14.setTop (mkF m 143 #[.val (.int p1), .val (.int p2), .val (.int p3), .val (.int ss), .val (.int (3 : Int32)), .val (.ref ad1), .val (.ref ad2), .val (.ref ad3), .val (.ref ad13), .unset] [(.int ss), (.int u0), (.ref ad13)])) _
    refine st15.trans ?_
    show Steps p.tables e below (T15.setTop (mkF m 146 #[.val (.int p1), .val (.int p2), .val (.int p3), .val (.int ss), .val (.int (3 : Int32)), .val (.ref ad1), .val (.ref ad2), .val (.ref ad3), .val (.ref ad13), .unset] [])) _
    refine XS.aload X15.here hx rfl (hb hby at_146) rfl rfl ?_
    refine XS.aload X15.here hx rfl (hb hby at_148) rfl rfl ?_
    refine XS.iconst X15.here hx rfl (hb hby at_150) ?_
    show Steps p.tables e below (T15.setTop (mkF m 151 #[.val (.int p1), .val (.int p2), .val (.int p3), .val (.int ss), .val (.int (3 : Int32)), .val (.ref ad1), .val (.ref ad2), .val (.ref ad3), .val (.ref ad13), .unset] [(.int (1 : Int32)), (.ref ad1), (.ref ad13)])) _
    refine own_ld X15 hx hZ rfl A_ad1_15 (by decide) (by decide) (g := (mkF m 151 #[.val (.int p1), .val (.int p2), .val (.int p3), .val (.int ss), .val (.int (3 : Int32)), .val (.ref ad1), .val (.ref ad2), .val (.ref ad3), .val (.ref ad13), .unset] [(.int (1 : Int32)), (.ref ad1), (.ref ad13)])) rfl rfl (hb hby at_151) _ ?_
    show Steps p.tables e below (T15.setTop (mkF m 152 #[.val (.int p1), .val (.int p2), .val (.int p3), .val (.int ss), .val (.int (3 : Int32)), .val (.ref ad1), .val (.ref ad2), .val (.ref ad3), .val (.ref ad13), .unset] [(.int u1), (.ref ad13)])) _
    refine XS.aload X15.here hx rfl (hb hby at_152) rfl rfl ?_
    refine XS.iconst X15.here hx rfl (hb hby at_154) ?_
    show Steps p.tables e below (T15.setTop (mkF m 155 #[.val (.int p1), .val (.int p2), .val (.int p3), .val (.int ss), .val (.int (3 : Int32)), .val (.ref ad1), .val (.ref ad2), .val (.ref ad3), .val (.ref ad13), .unset] [(.int (1 : Int32)), (.ref ad2), (.int u1), (.ref ad13)])) _
    refine own_ld X15 hx hZ rfl A_ad2_15 (by decide) (by decide) (g := (mkF m 155 #[.val (.int p1), .val (.int p2), .val (.int p3), .val (.int ss), .val (.int (3 : Int32)), .val (.ref ad1), .val (.ref ad2), .val (.ref ad3), .val (.ref ad13), .unset] [(.int (1 : Int32)), (.ref ad2), (.int u1), (.ref ad13)])) rfl rfl (hb hby at_155) _ ?_
    show Steps p.tables e below (T15.setTop (mkF m 156 #[.val (.int p1), .val (.int p2), .val (.int p3), .val (.int ss), .val (.int (3 : Int32)), .val (.ref ad1), .val (.ref ad2), .val (.ref ad3), .val (.ref ad13), .unset] [(.int v1), (.int u1), (.ref ad13)])) _
    refine st16.trans ?_
    show Steps p.tables e below (T16.setTop (mkF m 159 #[.val (.int p1), .val (.int p2), .val (.int p3), .val (.int ss), .val (.int (3 : Int32)), .val (.ref ad1), .val (.ref ad2), .val (.ref ad3), .val (.ref ad13), .unset] [])) _
    refine XS.aload X16.here hx rfl (hb hby at_159) rfl rfl ?_
    refine XS.aload X16.here hx rfl (hb hby at_161) rfl rfl ?_
    refine XS.iconst X16.here hx rfl (hb hby at_163) ?_
    show Steps p.tables e below (T16.setTop (mkF m 164 #[.val (.int p1), .val (.int p2), .val (.int p3), .val (.int ss), .val (.int (3 : Int32)), .val (.ref ad1), .val (.ref ad2), .val (.ref ad3), .val (.ref ad13), .unset] [(.int (2 : Int32)), (.ref ad1), (.ref ad13)])) _
    refine own_ld X16 hx hZ rfl A_ad1_16 (by decide) (by decide) (g := (mkF m 164 #[.val (.int p1), .val (.int p2), .val (.int p3), .val (.int ss), .val (.int (3 : Int32)), .val (.ref ad1), .val (.ref ad2), .val (.ref ad3), .val (.ref ad13), .unset] [(.int (2 : Int32)), (.ref ad1), (.ref ad13)])) rfl rfl (hb hby at_164) _ ?_
    show Steps p.tables e below (T16.setTop (mkF m 165 #[.val (.int p1), .val (.int p2), .val (.int p3), .val (.int ss), .val (.int (3 : Int32)), .val (.ref ad1), .val (.ref ad2), .val (.ref ad3), .val (.ref ad13), .unset] [(.int u2), (.ref ad13)])) _
    refine XS.aload X16.here hx rfl (hb hby at_165) rfl rfl ?_
    refine XS.iconst X16.here hx rfl (hb hby at_167) ?_
    show Steps p.tables e below (T16.setTop (mkF m 168 #[.val (.int p1), .val (.int p2), .val (.int p3), .val (.int ss), .val (.int (3 : Int32)), .val (.ref ad1), .val (.ref ad2), .val (.ref ad3), .val (.ref ad13), .unset] [(.int (2 : Int32)), (.ref ad2), (.int u2), (.ref ad13)])) _
    refine own_ld X16 hx hZ rfl A_ad2_16 (by decide) (by decide) (g := (mkF m 168 #[.val (.int p1), .val (.int p2), .val (.int p3), .val (.int ss), .val (.int (3 : Int32)), .val (.ref ad1), .val (.ref ad2), .val (.ref ad3), .val (.ref ad13), .unset] [(.int (2 : Int32)), (.ref ad2), (.int u2), (.ref ad13)])) rfl rfl (hb hby at_168) _ ?_
    show Steps p.tables e below (T16.setTop (mkF m 169 #[.val (.int p1), .val (.int p2), .val (.int p3), .val (.int ss), .val (.int (3 : Int32)), .val (.ref ad1), .val (.ref ad2), .val (.ref ad3), .val (.ref ad13), .unset] [(.int v2), (.int u2), (.ref ad13)])) _
    refine st17.trans ?_
    show Steps p.tables e below (T17.setTop (mkF m 172 #[.val (.int p1), .val (.int p2), .val (.int p3), .val (.int ss), .val (.int (3 : Int32)), .val (.ref ad1), .val (.ref ad2), .val (.ref ad3), .val (.ref ad13), .unset] [])) _
    refine XS.iload X17.here hx rfl (hb hby at_172) rfl ?_
    refine XS.iconst X17.here hx rfl (hb hby at_174) ?_
    show Steps p.tables e below (T17.setTop (mkF m 175 #[.val (.int p1), .val (.int p2), .val (.int p3), .val (.int ss), .val (.int (3 : Int32)), .val (.ref ad1), .val (.ref ad2), .val (.ref ad3), .val (.ref ad13), .unset] [(.int (3 : Int32)), (.int (3 : Int32))])) _
    refine XS.icmpYes X17.here hx rfl (pc0 := 175) (pc' := 193) rfl (hb hby at_175) rfl (flt (by decide : ¬ ((3 : Int32) < (3 : Int32)))).2.1 (by decide) (by decide) ?_
    show Steps p.tables e below (T17.setTop (mkF m 193 #[.val (.int p1), .val (.int p2), .val (.int p3), .val (.int ss), .val (.int (3 : Int32)), .val (.ref ad1), .val (.ref ad2), .val (.ref ad3), .val (.ref ad13), .unset] [])) _
    refine XS.iconst X17.here hx rfl (hb hby at_193) ?_
    refine XS.istore X17.here hx rfl (hb hby at_194) rfl (l' := #[.val (.int p1), .val (.int p2), .val (.int p3), .val (.int ss), .val (.int (3 : Int32)), .val (.ref ad1), .val (.ref ad2), .val (.ref ad3), .val (.ref ad13), .val (.int (1 : Int32))]) rfl ?_
    refine XS.iload X17.here hx rfl (hb hby at_196) rfl ?_
    show Steps p.tables e below (T17.setTop (mkF m 198 #[.val (.int p1), .val (.int p2), .val (.int p3), .val (.int ss), .val (.int (3 : Int32)), .val (.ref ad1), .val (.ref ad2), .val (.ref ad3), .val (.ref ad13), .val (.int (1 : Int32))] [(.int (1 : Int32))])) _
    refine XS.ifNo X17.here hx rfl (hb hby at_198) rfl ((if0 _ _).trans (feq (by decide : ¬ ((1 : Int32) = (0 : Int32)))).1) ?_
    show Steps p.tables e below (T17.setTop (mkF m 201 #[.val (.int p1), .val (.int p2), .val (.int p3), .val (.int ss), .val (.int (3 : Int32)), .val (.ref ad1), .val (.ref ad2), .val (.ref ad3), .val (.ref ad13), .val (.int (1 : Int32))] [])) _
    refine XS.aload X17.here hx rfl (hb hby at_201) rfl rfl ?_
    refine XS.iconst X17.here hx rfl (hb hby at_203) ?_
    show Steps p.tables e below (T17.setTop (mkF m 204 #[.val (.int p1), .val (.int p2), .val (.int p3), .val (.int ss), .val (.int (3 : Int32)), .val (.ref ad1), .val (.ref ad2), .val (.ref ad3), .val (.ref ad13), .val (.int (1 : Int32))] [(.int (0 : Int32)), (.ref ad13)])) _
    refine st18.trans ?_
    show Steps p.tables e below (T18.setTop (mkF m 207 #[.val (.int p1), .val (.int p2), .val (.int p3), .val (.int ss), .val (.int (3 : Int32)), .val (.ref ad1), .val (.ref ad2), .val (.ref ad3), .val (.ref ad13), .val (.int (1 : Int32))] [(.int ((own_f8 u0 u1 u2 ss v1 v2) (0 : Int32)))])) _
    refine XS.aload X18.here hx rfl (hb hby at_207) rfl rfl ?_
    refine XS.aload X18.here hx rfl (hb hby at_209) rfl rfl ?_
    refine XS.aload X18.here hx rfl (hb hby at_211) rfl rfl ?_
    refine XS.iconst X18.here hx rfl (hb hby at_213) ?_
    refine XS.iconst X18.here hx rfl (hb hby at_214) ?_
    show Steps p.tables e below (T18.setTop (mkF m 215 #[.val (.int p1), .val (.int p2), .val (.int p3), .val (.int ss), .val (.int (3 : Int32)), .val (.ref ad1), .val (.ref ad2), .val (.ref ad3), .val (.ref ad13), .val (.int (1 : Int32))] [(.int (3 : Int32)), (.int (0 : Int32)), (.ref ad3), (.ref ad1), (.ref ad2), (.int ((own_f8 u0 u1 u2 ss v1 v2) (0 : Int32)))])) _
    refine st19 _ ?_
    show Steps p.tables e below (T19.setTop (mkF m 218 #[.val (.int p1), .val (.int p2), .val (.int p3), .val (.int ss), .val (.int (3 : Int32)), .val (.ref ad1), .val (.ref ad2), .val (.ref ad3), .val (.ref ad13), .val (.int (1 : Int32))] [(.int (own_last (own_upd (own_upd (own_upd own_zero (0 : Int32) u0) (1 : Int32) u1) (2 : Int32) u2) (own_upd (own_upd (own_upd own_zero (0 : Int32) (1 : Int32)) (1 : Int32) (1 : Int32)) (2 : Int32) (1 : Int32)) (0 : Int32) (3 : Int32))), (.ref ad2), (.int ((own_f8 u0 u1 u2 ss v1 v2) (0 : Int32)))])) _
    refine st20 _ ?_
    show Steps p.tables e below (T20.setTop (mkF m 221 #[.val (.int p1), .val (.int p2), .val (.int p3), .val (.int ss), .val (.int (3 : Int32)), .val (.ref ad1), .val (.ref ad2), .val (.ref ad3), .val (.ref ad13), .val (.int (1 : Int32))] [(.int (own_el (own_upd (own_upd (own_upd own_zero (0 : Int32) ss) (1 : Int32) v1) (2 : Int32) v2) (own_last (own_upd (own_upd (own_upd own_zero (0 : Int32) u0) (1 : Int32) u1) (2 : Int32) u2) (own_upd (own_upd (own_upd own_zero (0 : Int32) (1 : Int32)) (1 : Int32) (1 : Int32)) (2 : Int32) (1 : Int32)) (0 : Int32) (3 : Int32)))), (.int ((own_f8 u0 u1 u2 ss v1 v2) (0 : Int32)))])) _
    refine XS.icmpNo X20.here hx rfl (hb hby at_221) rfl (teq (show ((own_f8 u0 u1 u2 ss v1 v2) (0 : Int32)) = (own_el (own_upd (own_upd (own_upd own_zero (0 : Int32) ss) (1 : Int32) v1) (2 : Int32) v2) (own_last (own_upd (own_upd (own_upd own_zero (0 : Int32) u0) (1 : Int32) u1) (2 : Int32) u2) (own_upd (own_upd (own_upd own_zero (0 : Int32) (1 : Int32)) (1 : Int32) (1 : Int32)) (2 : Int32) (1 : Int32)) (0 : Int32) (3 : Int32))) from (own_k39 u0 u1 u2 ss v1 v2 c_u0 c_u1 c_u2 c_s hv1 hv2))).2 ?_
    show Steps p.tables e below (T20.setTop (mkF m 224 #[.val (.int p1), .val (.int p2), .val (.int p3), .val (.int ss), .val (.int (3 : Int32)), .val (.ref ad1), .val (.ref ad2), .val (.ref ad3), .val (.ref ad13), .val (.int (1 : Int32))] [])) _
    refine XS.iconst X20.here hx rfl (hb hby at_224) ?_
    refine XS.goto X20.here hx rfl (pc0 := 225) (pc' := 229) rfl (hb hby at_225) (by decide) (by decide) ?_
    refine XS.istore X20.here hx rfl (hb hby at_229) rfl (l' := #[.val (.int p1), .val (.int p2), .val (.int p3), .val (.int ss), .val (.int (3 : Int32)), .val (.ref ad1), .val (.ref ad2), .val (.ref ad3), .val (.ref ad13), .val (.int (1 : Int32))]) rfl ?_
    refine XS.iload X20.here hx rfl (hb hby at_231) rfl ?_
    show Steps p.tables e below (T20.setTop (mkF m 233 #[.val (.int p1), .val (.int p2), .val (.int p3), .val (.int ss), .val (.int (3 : Int32)), .val (.ref ad1), .val (.ref ad2), .val (.ref ad3), .val (.ref ad13), .val (.int (1 : Int32))] [(.int (1 : Int32))])) _
    refine XS.ifNo X20.here hx rfl (hb hby at_233) rfl ((if0 _ _).trans (feq (by decide : ¬ ((1 : Int32) = (0 : Int32)))).1) ?_
    show Steps p.tables e below (T20.setTop (mkF m 236 #[.val (.int p1), .val (.int p2), .val (.int p3), .val (.int ss), .val (.int (3 : Int32)), .val (.ref ad1), .val (.ref ad2), .val (.ref ad3), .val (.ref ad13), .val (.int (1 : Int32))] [])) _
    refine XS.aload X20.here hx rfl (hb hby at_236) rfl rfl ?_
    refine XS.iconst X20.here hx rfl (hb hby at_238) ?_
    show Steps p.tables e below (T20.setTop (mkF m 239 #[.val (.int p1), .val (.int p2), .val (.int p3), .val (.int ss), .val (.int (3 : Int32)), .val (.ref ad1), .val (.ref ad2), .val (.ref ad3), .val (.ref ad13), .val (.int (1 : Int32))] [(.int (1 : Int32)), (.ref ad13)])) _
    refine st21.trans ?_
    show Steps p.tables e below (T21.setTop (mkF m 242 #[.val (.int p1), .val (.int p2), .val (.int p3), .val (.int ss), .val (.int (3 : Int32)), .val (.ref ad1), .val (.ref ad2), .val (.ref ad3), .val (.ref ad13), .val (.int (1 : Int32))] [(.int ((own_f8 u0 u1 u2 ss v1 v2) (1 : Int32)))])) _
    refine XS.aload X21.here hx rfl (hb hby at_242) rfl rfl ?_
    refine XS.aload X21.here hx rfl (hb hby at_244) rfl rfl ?_
    refine XS.aload X21.here hx rfl (hb hby at_246) rfl rfl ?_
    refine XS.iconst X21.here hx rfl (hb hby at_248) ?_
    refine XS.iconst X21.here hx rfl (hb hby at_249) ?_
    show Steps p.tables e below (T21.setTop (mkF m 250 #[.val (.int p1), .val (.int p2), .val (.int p3), .val (.int ss), .val (.int (3 : Int32)), .val (.ref ad1), .val (.ref ad2), .val (.ref ad3), .val (.ref ad13), .val (.int (1 : Int32))] [(.int (3 : Int32)), (.int (1 : Int32)), (.ref ad3), (.ref ad1), (.ref ad2), (.int ((own_f8 u0 u1 u2 ss v1 v2) (1 : Int32)))])) _
    refine st22 _ ?_
    show Steps p.tables e below (T22.setTop (mkF m 253 #[.val (.int p1), .val (.int p2), .val (.int p3), .val (.int ss), .val (.int (3 : Int32)), .val (.ref ad1), .val (.ref ad2), .val (.ref ad3), .val (.ref ad13), .val (.int (1 : Int32))] [(.int (own_last (own_upd (own_upd (own_upd own_zero (0 : Int32) u0) (1 : Int32) u1) (2 : Int32) u2) (own_upd (own_upd (own_upd own_zero (0 : Int32) (1 : Int32)) (1 : Int32) (1 : Int32)) (2 : Int32) (1 : Int32)) (1 : Int32) (3 : Int32))), (.ref ad2), (.int ((own_f8 u0 u1 u2 ss v1 v2) (1 : Int32)))])) _
    refine st23 _ ?_
    show Steps p.tables e below (T23.setTop (mkF m 256 #[.val (.int p1), .val (.int p2), .val (.int p3), .val (.int ss), .val (.int (3 : Int32)), .val (.ref ad1), .val (.ref ad2), .val (.ref ad3), .val (.ref ad13), .val (.int (1 : Int32))] [(.int (own_el (own_upd (own_upd (own_upd own_zero (0 : Int32) ss) (1 : Int32) v1) (2 : Int32) v2) (own_last (own_upd (own_upd (own_upd own_zero (0 : Int32) u0) (1 : Int32) u1) (2 : Int32) u2) (own_upd (own_upd (own_upd own_zero (0 : Int32) (1 : Int32)) (1 : Int32) (1 : Int32)) (2 : Int32) (1 : Int32)) (1 : Int32) (3 : Int32)))), (.int ((own_f8 u0 u1 u2 ss v1 v2) (1 : Int32)))])) _
    refine XS.icmpNo X23.here hx rfl (hb hby at_256) rfl (teq (show ((own_f8 u0 u1 u2 ss v1 v2) (1 : Int32)) = (own_el (own_upd (own_upd (own_upd own_zero (0 : Int32) ss) (1 : Int32) v1) (2 : Int32) v2) (own_last (own_upd (own_upd (own_upd own_zero (0 : Int32) u0) (1 : Int32) u1) (2 : Int32) u2) (own_upd (own_upd (own_upd own_zero (0 : Int32) (1 : Int32)) (1 : Int32) (1 : Int32)) (2 : Int32) (1 : Int32)) (1 : Int32) (3 : Int32))) from (own_k40 u0 u1 u2 ss v1 v2 c_u0 c_u1 c_u2 c_s hv1 hv2))).2 ?_
    show Steps p.tables e below (T23.setTop (mkF m 259 #[.val (.int p1), .val (.int p2), .val (.int p3), .val (.int ss), .val (.int (3 : Int32)), .val (.ref ad1), .val (.ref ad2), .val (.ref ad3), .val (.ref ad13), .val (.int (1 : Int32))] [])) _
    refine XS.iconst X23.here hx rfl (hb hby at_259) ?_
    refine XS.goto X23.here hx rfl (pc0 := 260) (pc' := 264) rfl (hb hby at_260) (by decide) (by decide) ?_
    refine XS.istore X23.here hx rfl (hb hby at_264) rfl (l' := #[.val (.int p1), .val (.int p2), .val (.int p3), .val (.int ss), .val (.int (3 : Int32)), .val (.ref ad1), .val (.ref ad2), .val (.ref ad3), .val (.ref ad13), .val (.int (1 : Int32))]) rfl ?_
    refine XS.iload X23.here hx rfl (hb hby at_266) rfl ?_
    show Steps p.tables e below (T23.setTop (mkF m 268 #[.val (.int p1), .val (.int p2), .val (.int p3), .val (.int ss), .val (.int (3 : Int32)), .val (.ref ad1), .val (.ref ad2), .val (.ref ad3), .val (.ref ad13), .val (.int (1 : Int32))] [(.int (1 : Int32))])) _
    refine XS.ifNo X23.here hx rfl (hb hby at_268) rfl ((if0 _ _).trans (feq (by decide : ¬ ((1 : Int32) = (0 : Int32)))).1) ?_
    show Steps p.tables e below (T23.setTop (mkF m 271 #[.val (.int p1), .val (.int p2), .val (.int p3), .val (.int ss), .val (.int (3 : Int32)), .val (.ref ad1), .val (.ref ad2), .val (.ref ad3), .val (.ref ad13), .val (.int (1 : Int32))] [])) _
    refine XS.aload X23.here hx rfl (hb hby at_271) rfl rfl ?_
    refine XS.iconst X23.here hx rfl (hb hby at_273) ?_
    show Steps p.tables e below (T23.setTop (mkF m 274 #[.val (.int p1), .val (.int p2), .val (.int p3), .val (.int ss), .val (.int (3 : Int32)), .val (.ref ad1), .val (.ref ad2), .val (.ref ad3), .val (.ref ad13), .val (.int (1 : Int32))] [(.int (0 : Int32)), (.ref ad13)])) _
    refine st24.trans ?_
    show Steps p.tables e below (T24.setTop (mkF m 277 #[.val (.int p1), .val (.int p2), .val (.int p3), .val (.int ss), .val (.int (3 : Int32)), .val (.ref ad1), .val (.ref ad2), .val (.ref ad3), .val (.ref ad13), .val (.int (1 : Int32))] [(.int ((own_f9 u0 u1 u2 ss v1 v2) (0 : Int32)))])) _
    refine XS.aload X24.here hx rfl (hb hby at_277) rfl rfl ?_
    refine XS.aload X24.here hx rfl (hb hby at_279) rfl rfl ?_
    refine XS.iconst X24.here hx rfl (hb hby at_281) ?_
    show Steps p.tables e below (T24.setTop (mkF m 282 #[.val (.int p1), .val (.int p2), .val (.int p3), .val (.int ss), .val (.int (3 : Int32)), .val (.ref ad1), .val (.ref ad2), .val (.ref ad3), .val (.ref ad13), .val (.int (1 : Int32))] [(.int (0 : Int32)), (.ref ad3), (.ref ad1), (.int ((own_f9 u0 u1 u2 ss v1 v2) (0 : Int32)))])) _
    refine st25 _ ?_
    show Steps p.tables e below (T25.setTop (mkF m 285 #[.val (.int p1), .val (.int p2), .val (.int p3), .val (.int ss), .val (.int (3 : Int32)), .val (.ref ad1), .val (.ref ad2), .val (.ref ad3), .val (.ref ad13), .val (.int (1 : Int32))] [(.int (own_cnt (own_upd (own_upd (own_upd own_zero (0 : Int32) u0) (1 : Int32) u1) (2 : Int32) u2) (own_upd (own_upd (own_upd own_zero (0 : Int32) (1 : Int32)) (1 : Int32) (1 : Int32)) (2 : Int32) (1 : Int32)) (0 : Int32))), (.int ((own_f9 u0 u1 u2 ss v1 v2) (0 : Int32)))])) _
    refine XS.icmpNo X25.here hx rfl (hb hby at_285) rfl (teq (show ((own_f9 u0 u1 u2 ss v1 v2) (0 : Int32)) = (own_cnt (own_upd (own_upd (own_upd own_zero (0 : Int32) u0) (1 : Int32) u1) (2 : Int32) u2) (own_upd (own_upd (own_upd own_zero (0 : Int32) (1 : Int32)) (1 : Int32) (1 : Int32)) (2 : Int32) (1 : Int32)) (0 : Int32)) from (own_k41 u0 u1 u2 ss v1 v2 c_u0 c_u1 c_u2 c_s hv1 hv2))).2 ?_
    show Steps p.tables e below (T25.setTop (mkF m 288 #[.val (.int p1), .val (.int p2), .val (.int p3), .val (.int ss), .val (.int (3 : Int32)), .val (.ref ad1), .val (.ref ad2), .val (.ref ad3), .val (.ref ad13), .val (.int (1 : Int32))] [])) _
    refine XS.iconst X25.here hx rfl (hb hby at_288) ?_
    refine XS.goto X25.here hx rfl (pc0 := 289) (pc' := 293) rfl (hb hby at_289) (by decide) (by decide) ?_
    refine XS.istore X25.here hx rfl (hb hby at_293) rfl (l' := #[.val (.int p1), .val (.int p2), .val (.int p3), .val (.int ss), .val (.int (3 : Int32)), .val (.ref ad1), .val (.ref ad2), .val (.ref ad3), .val (.ref ad13), .val (.int (1 : Int32))]) rfl ?_
    refine XS.iload X25.here hx rfl (hb hby at_295) rfl ?_
    show Steps p.tables e below (T25.setTop (mkF m 297 #[.val (.int p1), .val (.int p2), .val (.int p3), .val (.int ss), .val (.int (3 : Int32)), .val (.ref ad1), .val (.ref ad2), .val (.ref ad3), .val (.ref ad13), .val (.int (1 : Int32))] [(.int (1 : Int32))])) _
    refine XS.ifNo X25.here hx rfl (hb hby at_297) rfl ((if0 _ _).trans (feq (by decide : ¬ ((1 : Int32) = (0 : Int32)))).1) ?_
    show Steps p.tables e below (T25.setTop (mkF m 300 #[.val (.int p1), .val (.int p2), .val (.int p3), .val (.int ss), .val (.int (3 : Int32)), .val (.ref ad1), .val (.ref ad2), .val (.ref ad3), .val (.ref ad13), .val (.int (1 : Int32))] [])) _
    refine XS.aload X25.here hx rfl (hb hby at_300) rfl rfl ?_
    refine XS.iconst X25.here hx rfl (hb hby at_302) ?_
    show Steps p.tables e below (T25.setTop (mkF m 303 #[.val (.int p1), .val (.int p2), .val (.int p3), .val (.int ss), .val (.int (3 : Int32)), .val (.ref ad1), .val (.ref ad2), .val (.ref ad3), .val (.ref ad13), .val (.int (1 : Int32))] [(.int (1 : Int32)), (.ref ad13)])) _
    refine st26.trans ?_
    show Steps p.tables e below (T26.setTop (mkF m 306 #[.val (.int p1), .val (.int p2), .val (.int p3), .val (.int ss), .val (.int (3 : Int32)), .val (.ref ad1), .val (.ref ad2), .val (.ref ad3), .val (.ref ad13), .val (.int (1 : Int32))] [(.int ((own_f9 u0 u1 u2 ss v1 v2) (1 : Int32)))])) _
    refine XS.aload X26.here hx rfl (hb hby at_306) rfl rfl ?_
    refine XS.aload X26.here hx rfl (hb hby at_308) rfl rfl ?_
    refine XS.iconst X26.here hx rfl (hb hby at_310) ?_
    show Steps p.tables e below (T26.setTop (mkF m 311 #[.val (.int p1), .val (.int p2), .val (.int p3), .val (.int ss), .val (.int (3 : Int32)), .val (.ref ad1), .val (.ref ad2), .val (.ref ad3), .val (.ref ad13), .val (.int (1 : Int32))] [(.int (1 : Int32)), (.ref ad3), (.ref ad1), (.int ((own_f9 u0 u1 u2 ss v1 v2) (1 : Int32)))])) _
    refine st27 _ ?_
    show Steps p.tables e below (T27.setTop (mkF m 314 #[.val (.int p1), .val (.int p2), .val (.int p3), .val (.int ss), .val (.int (3 : Int32)), .val (.ref ad1), .val (.ref ad2), .val (.ref ad3), .val (.ref ad13), .val (.int (1 : Int32))] [(.int (own_cnt (own_upd (own_upd (own_upd own_zero (0 : Int32) u0) (1 : Int32) u1) (2 : Int32) u2) (own_upd (own_upd (own_upd own_zero (0 : Int32) (1 : Int32)) (1 : Int32) (1 : Int32)) (2 : Int32) (1 : Int32)) (1 : Int32))), (.int ((own_f9 u0 u1 u2 ss v1 v2) (1 : Int32)))])) _
    refine XS.icmpNo X27.here hx rfl (hb hby at_314) rfl (teq (show ((own_f9 u0 u1 u2 ss v1 v2) (1 : Int32)) = (own_cnt (own_upd (own_upd (own_upd own_zero (0 : Int32) u0) (1 : Int32) u1) (2 : Int32) u2) (own_upd (own_upd (own_upd own_zero (0 : Int32) (1 : Int32)) (1 : Int32) (1 : Int32)) (2 : Int32) (1 : Int32)) (1 : Int32)) from (own_k42 u0 u1 u2 ss v1 v2 c_u0 c_u1 c_u2 c_s hv1 hv2))).2 ?_
    show Steps p.tables e below (T27.setTop (mkF m 317 #[.val (.int p1), .val (.int p2), .val (.int p3), .val (.int ss), .val (.int (3 : Int32)), .val (.ref ad1), .val (.ref ad2), .val (.ref ad3), .val (.ref ad13), .val (.int (1 : Int32))] [])) _
    refine XS.iconst X27.here hx rfl (hb hby at_317) ?_
    refine XS.goto X27.here hx rfl (pc0 := 318) (pc' := 322) rfl (hb hby at_318) (by decide) (by decide) ?_
    refine XS.istore X27.here hx rfl (hb hby at_322) rfl (l' := #[.val (.int p1), .val (.int p2), .val (.int p3), .val (.int ss), .val (.int (3 : Int32)), .val (.ref ad1), .val (.ref ad2), .val (.ref ad3), .val (.ref ad13), .val (.int (1 : Int32))]) rfl ?_
    refine XS.aload X27.here hx rfl (hb hby at_324) rfl rfl ?_
    refine XS.iconst X27.here hx rfl (hb hby at_326) ?_
    show Steps p.tables e below (T27.setTop (mkF m 327 #[.val (.int p1), .val (.int p2), .val (.int p3), .val (.int ss), .val (.int (3 : Int32)), .val (.ref ad1), .val (.ref ad2), .val (.ref ad3), .val (.ref ad13), .val (.int (1 : Int32))] [(.int (0 : Int32)), (.ref ad3)])) _
    refine own_ldz X27 hx hZ e27' A_ad3_17 (by decide) (by decide) (g := (mkF m 327 #[.val (.int p1), .val (.int p2), .val (.int p3), .val (.int ss), .val (.int (3 : Int32)), .val (.ref ad1), .val (.ref ad2), .val (.ref ad3), .val (.ref ad13), .val (.int (1 : Int32))] [(.int (0 : Int32)), (.ref ad3)])) rfl rfl (hb hby at_327) _ ?_
    show Steps p.tables e below (T27.setTop (mkF m 328 #[.val (.int p1), .val (.int p2), .val (.int p3), .val (.int ss), .val (.int (3 : Int32)), .val (.ref ad1), .val (.ref ad2), .val (.ref ad3), .val (.ref ad13), .val (.int (1 : Int32))] [(.int (1 : Int32))])) _
    refine XS.ifNo X27.here hx rfl (hb hby at_328) rfl ((if0 _ _).trans (feq (by decide : ¬ ((1 : Int32) = (0 : Int32)))).1) ?_
    show Steps p.tables e below (T27.setTop (mkF m 331 #[.val (.int p1), .val (.int p2), .val (.int p3), .val (.int ss), .val (.int (3 : Int32)), .val (.ref ad1), .val (.ref ad2), .val (.ref ad3), .val (.ref ad13), .val (.int (1 : Int32))] [])) _
    refine XS.iload X27.here hx rfl (hb hby at_331) rfl ?_
    show Steps p.tables e below (T27.setTop (mkF m 333 #[.val (.int p1), .val (.int p2), .val (.int p3), .val (.int ss), .val (.int (3 : Int32)), .val (.ref ad1), .val (.ref ad2), .val (.ref ad3), .val (.ref ad13), .val (.int (1 : Int32))] [(.int (1 : Int32))])) _
    refine XS.ifNo X27.here hx rfl (hb hby at_333) rfl ((if0 _ _).trans (feq (by decide : ¬ ((1 : Int32) = (0 : Int32)))).1) ?_
    show Steps p.tables e below (T27.setTop (mkF m 336 #[.val (.int p1), .val (.int p2), .val (.int p3), .val (.int ss), .val (.int (3 : Int32)), .val (.ref ad1), .val (.ref ad2), .val (.ref ad3), .val (.ref ad13), .val (.int (1 : Int32))] [])) _
    refine XS.aload X27.here hx rfl (hb hby at_336) rfl rfl ?_
    refine XS.aload X27.here hx rfl (hb hby at_338) rfl rfl ?_
    refine XS.iconst X27.here hx rfl (hb hby at_340) ?_
    show Steps p.tables e below (T27.setTop (mkF m 341 #[.val (.int p1), .val (.int p2), .val (.int p3), .val (.int ss), .val (.int (3 : Int32)), .val (.ref ad1), .val (.ref ad2), .val (.ref ad3), .val (.ref ad13), .val (.int (1 : Int32))] [(.int (0 : Int32)), (.ref ad2), (.ref ad13)])) _
    refine own_ld X27 hx hZ e27' A_ad2_17 (by decide) (by decide) (g := (mkF m 341 #[.val (.int p1), .val (.int p2), .val (.int p3), .val (.int ss), .val (.int (3 : Int32)), .val (.ref ad1), .val (.ref ad2), .val (.ref ad3), .val (.ref ad13), .val (.int (1 : Int32))] [(.int (0 : Int32)), (.ref ad2), (.ref ad13)])) rfl rfl (hb hby at_341) _ ?_
    show Steps p.tables e below (T27.setTop (mkF m 342 #[.val (.int p1), .val (.int p2), .val (.int p3), .val (.int ss), .val (.int (3 : Int32)), .val (.ref ad1), .val (.ref ad2), .val (.ref ad3), .val (.ref ad13), .val (.int (1 : Int32))] [(.int ss), (.ref ad13)])) _
    refine st28.trans ?_
    show Steps p.tables e below (T28.setTop (mkF m 345 #[.val (.int p1), .val (.int p2), .val (.int p3), .val (.int ss), .val (.int (3 : Int32)), .val (.ref ad1), .val (.ref ad2), .val (.ref ad3), .val (.ref ad13), .val (.int (1 : Int32))] [(.int ((own_f10 u0 u1 u2 ss v1 v2) ss))])) _
    refine XS.aload X28.here hx rfl (hb hby at_345) rfl rfl ?_
    refine XS.aload X28.here hx rfl (hb hby at_347) rfl rfl ?_
    refine XS.aload X28.here hx rfl (hb hby at_349) rfl rfl ?_
    refine XS.aload X28.here hx rfl (hb hby at_351) rfl rfl ?_
    refine XS.iconst X28.here hx rfl (hb hby at_353) ?_
    show Steps p.tables e below (T28.setTop (mkF m 354 #[.val (.int p1), .val (.int p2), .val (.int p3), .val (.int ss), .val (.int (3 : Int32)), .val (.ref ad1), .val (.ref ad2), .val (.ref ad3), .val (.ref ad13), .val (.int (1 : Int32))] [(.int (0 : Int32)), (.ref ad1), (.ref ad3), (.ref ad1), (.ref ad2), (.int ((own_f10 u0 u1 u2 ss v1 v2) ss))])) _
    refine own_ld X28 hx hZ e28' A_ad1_17 (by decide) (by decide) (g := (mkF m 354 #[.val (.int p1), .val (.int p2), .val (.int p3), .val (.int ss), .val (.int (3 : Int32)), .val (.ref ad1), .val (.ref ad2), .val (.ref ad3), .val (.ref ad13), .val (.int (1 : Int32))] [(.int (0 : Int32)), (.ref ad1), (.ref ad3), (.ref ad1), (.ref ad2), (.int ((own_f10 u0 u1 u2 ss v1 v2) ss))])) rfl rfl (hb hby at_354) _ ?_
    show Steps p.tables e below (T28.setTop (mkF m 355 #[.val (.int p1), .val (.int p2), .val (.int p3), .val (.int ss), .val (.int (3 : Int32)), .val (.ref ad1), .val (.ref ad2), .val (.ref ad3), .val (.ref ad13), .val (.int (1 : Int32))] [(.int u0), (.ref ad3), (.ref ad1), (.ref ad2), (.int ((own_f10 u0 u1 u2 ss v1 v2) ss))])) _
    refine XS.iconst X28.here hx rfl (hb hby at_355) ?_
    show Steps p.tables e below (T28.setTop (mkF m 356 #[.val (.int p1), .val (.int p2), .val (.int p3), .val (.int ss), .val (.int (3 : Int32)), .val (.ref ad1), .val (.ref ad2), .val (.ref ad3), .val (.ref ad13), .val (.int (1 : Int32))] [(.int (0 : Int32)), (.int u0), (.ref ad3), (.ref ad1), (.ref ad2), (.int ((own_f10 u0 u1 u2 ss v1 v2) ss))])) _
    refine st29 _ ?_
    show Steps p.tables e below (T29.setTop (mkF m 359 #[.val (.int p1), .val (.int p2), .val (.int p3), .val (.int ss), .val (.int (3 : Int32)), .val (.ref ad1), .val (.ref ad2), .val (.ref ad3), .val (.ref ad13), .val (.int (1 : Int32))] [(.int (own_last (own_upd (own_upd (own_upd own_zero (0 : Int32) u0) (1 : Int32) u1) (2 : Int32) u2) (own_upd (own_upd (own_upd own_zero (0 : Int32) (1 : Int32)) (1 : Int32) (1 : Int32)) (2 : Int32) (1 : Int32)) u0 (0 : Int32))), (.ref ad2), (.int ((own_f10 u0 u1 u2 ss v1 v2) ss))])) _
    refine st30 _ ?_
    show Steps p.tables e below (T30.setTop (mkF m 362 #[.val (.int p1), .val (.int p2), .val (.int p3), .val (.int ss), .val (.int (3 : Int32)), .val (.ref ad1), .val (.ref ad2), .val (.ref ad3), .val (.ref ad13), .val (.int (1 : Int32))] [(.int (own_el (own_upd (own_upd (own_upd own_zero (0 : Int32) ss) (1 : Int32) v1) (2 : Int32) v2) (own_last (own_upd (own_upd (own_upd own_zero (0 : Int32) u0) (1 : Int32) u1) (2 : Int32) u2) (own_upd (own_upd (own_upd own_zero (0 : Int32) (1 : Int32)) (1 : Int32) (1 : Int32)) (2 : Int32) (1 : Int32)) u0 (0 : Int32)))), (.int ((own_f10 u0 u1 u2 ss v1 v2) ss))])) _
    refine XS.icmpNo X30.here hx rfl (hb hby at_362) rfl (teq (show ((own_f10 u0 u1 u2 ss v1 v2) ss) = (own_el (own_upd (own_upd (own_upd own_zero (0 : Int32) ss) (1 : Int32) v1) (2 : Int32) v2) (own_last (own_upd (own_upd (own_upd own_zero (0 : Int32) u0) (1 : Int32) u1) (2 : Int32) u2) (own_upd (own_upd (own_upd own_zero (0 : Int32) (1 : Int32)) (1 : Int32) (1 : Int32)) (2 : Int32) (1 : Int32)) u0 (0 : Int32))) from (own_k43 u0 u1 u2 ss v1 v2 c_u0 c_u1 c_u2 c_s hv1 hv2))).2 ?_
    show Steps p.tables e below (T30.setTop (mkF m 365 #[.val (.int p1), .val (.int p2), .val (.int p3), .val (.int ss), .val (.int (3 : Int32)), .val (.ref ad1), .val (.ref ad2), .val (.ref ad3), .val (.ref ad13), .val (.int (1 : Int32))] [])) _
    refine XS.iconst X30.here hx rfl (hb hby at_365) ?_
    refine XS.goto X30.here hx rfl (pc0 := 366) (pc' := 370) rfl (hb hby at_366) (by decide) (by decide) ?_
    refine XS.istore X30.here hx rfl (hb hby at_370) rfl (l' := #[.val (.int p1), .val (.int p2), .val (.int p3), .val (.int ss), .val (.int (3 : Int32)), .val (.ref ad1), .val (.ref ad2), .val (.ref ad3), .val (.ref ad13), .val (.int (1 : Int32))]) rfl ?_
    refine XS.aload X30.here hx rfl (hb hby at_372) rfl rfl ?_
    refine XS.iconst X30.here hx rfl (hb hby at_374) ?_
    show Steps p.tables e below (T30.setTop (mkF m 375 #[.val (.int p1), .val (.int p2), .val (.int p3), .val (.int ss), .val (.int (3 : Int32)), .val (.ref ad1), .val (.ref ad2), .val (.ref ad3), .val (.ref ad13), .val (.int (1 : Int32))] [(.int (1 : Int32)), (.ref ad3)])) _
    refine own_ldz X30 hx hZ e30' A_ad3_17 (by decide) (by decide) (g := (mkF m 375 #[.val (.int p1), .val (.int p2), .val (.int p3), .val (.int ss), .val (.int (3 : Int32)), .val (.ref ad1), .val (.ref ad2), .val (.ref ad3), .val (.ref ad13), .val (.int (1 : Int32))] [(.int (1 : Int32)), (.ref ad3)])) rfl rfl (hb hby at_375) _ ?_
    show Steps p.tables e below (T30.setTop (mkF m 376 #[.val (.int p1), .val (.int p2), .val (.int p3), .val (.int ss), .val (.int (3 : Int32)), .val (.ref ad1), .val (.ref ad2), .val (.ref ad3), .val (.ref ad13), .val (.int (1 : Int32))] [(.int (1 : Int32))])) _
    refine XS.ifNo X30.here hx rfl (hb hby at_376) rfl ((if0 _ _).trans (feq (by decide : ¬ ((1 : Int32) = (0 : Int32)))).1) ?_
    show Steps p.tables e below (T30.setTop (mkF m 379 #[.val (.int p1), .val (.int p2), .val (.int p3), .val (.int ss), .val (.int (3 : Int32)), .val (.ref ad1), .val (.ref ad2), .val (.ref ad3), .val (.ref ad13), .val (.int (1 : Int32))] [])) _
    refine XS.iload X30.here hx rfl (hb hby at_379) rfl ?_
    show Steps p.tables e below (T30.setTop (mkF m 381 #[.val (.int p1), .val (.int p2), .val (.int p3), .val (.int ss), .val (.int (3 : Int32)), .val (.ref ad1), .val (.ref ad2), .val (.ref ad3), .val (.ref ad13), .val (.int (1 : Int32))] [(.int (1 : Int32))])) _
    refine XS.ifNo X30.here hx rfl (hb hby at_381) rfl ((if0 _ _).trans (feq (by decide : ¬ ((1 : Int32) = (0 : Int32)))).1) ?_
    show Steps p.tables e below (T30.setTop (mkF m 384 #[.val (.int p1), .val (.int p2), .val (.int p3), .val (.int ss), .val (.int (3 : Int32)), .val (.ref ad1), .val (.ref ad2), .val (.ref ad3), .val (.ref ad13), .val (.int (1 : Int32))] [])) _
    refine XS.aload X30.here hx rfl (hb hby at_384) rfl rfl ?_
    refine XS.aload X30.here hx rfl (hb hby at_386) rfl rfl ?_
    refine XS.iconst X30.here hx rfl (hb hby at_388) ?_
    show Steps p.tables e below (T30.setTop (mkF m 389 #[.val (.int p1), .val (.int p2), .val (.int p3), .val (.int ss), .val (.int (3 : Int32)), .val (.ref ad1), .val (.ref ad2), .val (.ref ad3), .val (.ref ad13), .val (.int (1 : Int32))] [(.int (1 : Int32)), (.ref ad2), (.ref ad13)])) _
    refine own_ld X30 hx hZ e30' A_ad2_17 (by decide) (by decide) (g := (mkF m 389 #[.val (.int p1), .val (.int p2), .val (.int p3), .val (.int ss), .val (.int (3 : Int32)), .val (.ref ad1), .val (.ref ad2), .val (.ref ad3), .val (.ref ad13), .val (.int (1 : Int32))] [(.int (1 : Int32)), (.ref ad2), (.ref ad13)])) rfl rfl (hb hby at_389) _ ?_
    show Steps p.tables e below (T30.setTop (mkF m 390 #[.val (.int p1), .val (.int p2), .val (.int p3), .val (.int ss), .val (.int (3 : Int32)), .val (.ref ad1), .val (.ref ad2), .val (.ref ad3), .val (.ref ad13), .val (.int (1 : Int32))] [(.int v1), (.ref ad13)])) _
    refine st31.trans ?_
    show Steps p.tables e below (T31.setTop (mkF m 393 #[.val (.int p1), .val (.int p2), .val (.int p3), .val (.int ss), .val (.int (3 : Int32)), .val (.ref ad1), .val (.ref ad2), .val (.ref ad3), .val (.ref ad13), .val (.int (1 : Int32))] [(.int ((own_f10 u0 u1 u2 ss v1 v2) v1))])) _
    refine XS.aload X31.here hx rfl (hb hby at_393) rfl rfl ?_
    refine XS.aload X31.here hx rfl (hb hby at_395) rfl rfl ?_
    refine XS.aload X31.here hx rfl (hb hby at_397) rfl rfl ?_
    refine XS.aload X31.here hx rfl (hb hby at_399) rfl rfl ?_
    refine XS.iconst X31.here hx rfl (hb hby at_401) ?_
    show Steps p.tables e below (T31.setTop (mkF m 402 #[.val (.int p1), .val (.int p2), .val (.int p3), .val (.int ss), .val (.int (3 : Int32)), .val (.ref ad1), .val (.ref ad2), .val (.ref ad3), .val (.ref ad13), .val (.int (1 : Int32))] [(.int (1 : Int32)), (.ref ad1), (.ref ad3), (.ref ad1), (.ref ad2), (.int ((own_f10 u0 u1 u2 ss v1 v2) v1))])) _
    refine own_ld X31 hx hZ e31' A_ad1_17 (by decide) (by decide) (g := (mkF m 402 #[.val (.int p1), .val (.int p2), .val (.int p3), .val (.int ss), .val (.int (3 : Int32)), .val (.ref ad1), .val (.ref ad2), .val (.ref ad3), .val (.ref ad13), .val (.int (1 : Int32))] [(.int (1 : Int32)), (.ref ad1), (.ref ad3), (.ref ad1), (.ref ad2), (.int ((own_f10 u0 u1 u2 ss v1 v2) v1))])) rfl rfl (hb hby at_402) _ ?_
    show Steps p.tables e below (T31.setTop (mkF m 403 #[.val (.int p1), .val (.int p2), .val (.int p3), .val (.int ss), .val (.int (3 : Int32)), .val (.ref ad1), .val (.ref ad2), .val (.ref ad3), .val (.ref ad13), .val (.int (1 : Int32))] [(.int u1), (.ref ad3), (.ref ad1), (.ref ad2), (.int ((own_f10 u0 u1 u2 ss v1 v2) v1))])) _
    refine XS.iconst X31.here hx rfl (hb hby at_403) ?_
    show Steps p.tables e below (T31.setTop (mkF m 404 #[.val (.int p1), .val (.int p2), .val (.int p3), .val (.int ss), .val (.int (3 : Int32)), .val (.ref ad1), .val (.ref ad2), .val (.ref ad3), .val (.ref ad13), .val (.int (1 : Int32))] [(.int (1 : Int32)), (.int u1), (.ref ad3), (.ref ad1), (.ref ad2), (.int ((own_f10 u0 u1 u2 ss v1 v2) v1))])) _
    refine st32 _ ?_
    show Steps p.tables e below (T32.setTop (mkF m 407 #[.val (.int p1), .val (.int p2), .val (.int p3), .val (.int ss), .val (.int (3 : Int32)), .val (.ref ad1), .val (.ref ad2), .val (.ref ad3), .val (.ref ad13), .val (.int (1 : Int32))] [(.int (own_last (own_upd (own_upd (own_upd own_zero (0 : Int32) u0) (1 : Int32) u1) (2 : Int32) u2) (own_upd (own_upd (own_upd own_zero (0 : Int32) (1 : Int32)) (1 : Int32) (1 : Int32)) (2 : Int32) (1 : Int32)) u1 (1 : Int32))), (.ref ad2), (.int ((own_f10 u0 u1 u2 ss v1 v2) v1))])) _
    refine st33 _ ?_
    show Steps p.tables e below (T33.setTop (mkF m 410 #[.val (.int p1), .val (.int p2), .val (.int p3), .val (.int ss), .val (.int (3 : Int32)), .val (.ref ad1), .val (.ref ad2), .val (.ref ad3), .val (.ref ad13), .val (.int (1 : Int32))] [(.int (own_el (own_upd (own_upd (own_upd own_zero (0 : Int32) ss) (1 : Int32) v1) (2 : Int32) v2) (own_last (own_upd (own_upd (own_upd own_zero (0 : Int32) u0) (1 : Int32) u1) (2 : Int32) u2) (own_upd (own_upd (own_upd own_zero (0 : Int32) (1 : Int32)) (1 : Int32) (1 : Int32)) (2 : Int32) (1 : Int32)) u1 (1 : Int32)))), (.int ((own_f10 u0 u1 u2 ss v1 v2) v1))])) _
    refine XS.icmpNo X33.here hx rfl (hb hby at_410) rfl (teq (show ((own_f10 u0 u1 u2 ss v1 v2) v1) = (own_el (own_upd (own_upd (own_upd own_zero (0 : Int32) ss) (1 : Int32) v1) (2 : Int32) v2) (own_last (own_upd (own_upd (own_upd own_zero (0 : Int32) u0) (1 : Int32) u1) (2 : Int32) u2) (own_upd (own_upd (own_upd own_zero (0 : Int32) (1 : Int32)) (1 : Int32) (1 : Int32)) (2 : Int32) (1 : Int32)) u1 (1 : Int32))) from (own_k44 u0 u1 u2 ss v1 v2 c_u0 c_u1 c_u2 c_s hv1 hv2))).2 ?_
    show Steps p.tables e below (T33.setTop (mkF m 413 #[.val (.int p1), .val (.int p2), .val (.int p3), .val (.int ss), .val (.int (3 : Int32)), .val (.ref ad1), .val (.ref ad2), .val (.ref ad3), .val (.ref ad13), .val (.int (1 : Int32))] [])) _
    refine XS.iconst X33.here hx rfl (hb hby at_413) ?_
    refine XS.goto X33.here hx rfl (pc0 := 414) (pc' := 418) rfl (hb hby at_414) (by decide) (by decide) ?_
    refine XS.istore X33.here hx rfl (hb hby at_418) rfl (l' := #[.val (.int p1), .val (.int p2), .val (.int p3), .val (.int ss), .val (.int (3 : Int32)), .val (.ref ad1), .val (.ref ad2), .val (.ref ad3), .val (.ref ad13), .val (.int (1 : Int32))]) rfl ?_
    refine XS.aload X33.here hx rfl (hb hby at_420) rfl rfl ?_
    refine XS.iconst X33.here hx rfl (hb hby at_422) ?_
    show Steps p.tables e below (T33.setTop (mkF m 423 #[.val (.int p1), .val (.int p2), .val (.int p3), .val (.int ss), .val (.int (3 : Int32)), .val (.ref ad1), .val (.ref ad2), .val (.ref ad3), .val (.ref ad13), .val (.int (1 : Int32))] [(.int (2 : Int32)), (.ref ad3)])) _
    refine own_ldz X33 hx hZ e33' A_ad3_17 (by decide) (by decide) (g := (mkF m 423 #[.val (.int p1), .val (.int p2), .val (.int p3), .val (.int ss), .val (.int (3 : Int32)), .val (.ref ad1), .val (.ref ad2), .val (.ref ad3), .val (.ref ad13), .val (.int (1 : Int32))] [(.int (2 : Int32)), (.ref ad3)])) rfl rfl (hb hby at_423) _ ?_
    show Steps p.tables e below (T33.setTop (mkF m 424 #[.val (.int p1), .val (.int p2), .val (.int p3), .val (.int ss), .val (.int (3 : Int32)), .val (.ref ad1), .val (.ref ad2), .val (.ref ad3), .val (.ref ad13), .val (.int (1 : Int32))] [(.int (1 : Int32))])) _
    refine XS.ifNo X33.here hx rfl (hb hby at_424) rfl ((if0 _ _).trans (feq (by decide : ¬ ((1 : Int32) = (0 : Int32)))).1) ?_
    show Steps p.tables e below (T33.setTop (mkF m 427 #[.val (.int p1), .val (.int p2), .val (.int p3), .val (.int ss), .val (.int (3 : Int32)), .val (.ref ad1), .val (.ref ad2), .val (.ref ad3), .val (.ref ad13), .val (.int (1 : Int32))] [])) _
    refine XS.iload X33.here hx rfl (hb hby at_427) rfl ?_
    show Steps p.tables e below (T33.setTop (mkF m 429 #[.val (.int p1), .val (.int p2), .val (.int p3), .val (.int ss), .val (.int (3 : Int32)), .val (.ref ad1), .val (.ref ad2), .val (.ref ad3), .val (.ref ad13), .val (.int (1 : Int32))] [(.int (1 : Int32))])) _
    refine XS.ifNo X33.here hx rfl (hb hby at_429) rfl ((if0 _ _).trans (feq (by decide : ¬ ((1 : Int32) = (0 : Int32)))).1) ?_
    show Steps p.tables e below (T33.setTop (mkF m 432 #[.val (.int p1), .val (.int p2), .val (.int p3), .val (.int ss), .val (.int (3 : Int32)), .val (.ref ad1), .val (.ref ad2), .val (.ref ad3), .val (.ref ad13), .val (.int (1 : Int32))] [])) _
    refine XS.aload X33.here hx rfl (hb hby at_432) rfl rfl ?_
    refine XS.aload X33.here hx rfl (hb hby at_434) rfl rfl ?_
    refine XS.iconst X33.here hx rfl (hb hby at_436) ?_
    show Steps p.tables e below (T33.setTop (mkF m 437 #[.val (.int p1), .val (.int p2), .val (.int p3), .val (.int ss), .val (.int (3 : Int32)), .val (.ref ad1), .val (.ref ad2), .val (.ref ad3), .val (.ref ad13), .val (.int (1 : Int32))] [(.int (2 : Int32)), (.ref ad2), (.ref ad13)])) _
    refine own_ld X33 hx hZ e33' A_ad2_17 (by decide) (by decide) (g := (mkF m 437 #[.val (.int p1), .val (.int p2), .val (.int p3), .val (.int ss), .val (.int (3 : Int32)), .val (.ref ad1), .val (.ref ad2), .val (.ref ad3), .val (.ref ad13), .val (.int (1 : Int32))] [(.int (2 : Int32)), (.ref ad2), (.ref ad13)])) rfl rfl (hb hby at_437) _ ?_
    show Steps p.tables e below (T33.setTop (mkF m 438 #[.val (.int p1), .val (.int p2), .val (.int p3), .val (.int ss), .val (.int (3 : Int32)), .val (.ref ad1), .val (.ref ad2), .val (.ref ad3), .val (.ref ad13), .val (.int (1 : Int32))] [(.int v2), (.ref ad13)])) _
    refine st34.trans ?_
    show Steps p.tables e below (T34.setTop (mkF m 441 #[.val (.int p1), .val (.int p2), .val (.int p3), .val (.int ss), .val (.int (3 : Int32)), .val (.ref ad1), .val (.ref ad2), .val (.ref ad3), .val (.ref ad13), .val (.int (1 : Int32))] [(.int ((own_f10 u0 u1 u2 ss v1 v2) v2))])) _
    refine XS.aload X34.here hx rfl (hb hby at_441) rfl rfl ?_
    refine XS.aload X34.here hx rfl (hb hby at_443) rfl rfl ?_
    refine XS.aload X34.here hx rfl (hb hby at_445) rfl rfl ?_
    refine XS.aload X34.here hx rfl (hb hby at_447) rfl rfl ?_
    refine XS.iconst X34.here hx rfl (hb hby at_449) ?_
    show Steps p.tables e below (T34.setTop (mkF m 450 #[.val (.int p1), .val (.int p2), .val (.int p3), .val (.int ss), .val (.int (3 : Int32)), .val (.ref ad1), .val (.ref ad2), .val (.ref ad3), .val (.ref ad13), .val (.int (1 : Int32))] [(.int (2 : Int32)), (.ref ad1), (.ref ad3), (.ref ad1), (.ref ad2), (.int ((own_f10 u0 u1 u2 ss v1 v2) v2))])) _
    refine own_ld X34 hx hZ e34' A_ad1_17 (by decide) (by decide) (g := (mkF m 450 #[.val (.int p1), .val (.int p2), .val (.int p3), .val (.int ss), .val (.int (3 : Int32)), .val (.ref ad1), .val (.ref ad2), .val (.ref ad3), .val (.ref ad13), .val (.int (1 : Int32))] [(.int (2 : Int32)), (.ref ad1), (.ref ad3), (.ref ad1), (.ref ad2), (.int ((own_f10 u0 u1 u2 ss v1 v2) v2))])) rfl rfl (hb hby at_450) _ ?_
    show Steps p.tables e below (T34.setTop (mkF m 451 #[.val (.int p1), .val (.int p2), .val (.int p3), .val (.int ss), .val (.int (3 : Int32)), .val (.ref ad1), .val (.ref ad2), .val (.ref ad3), .val (.ref ad13), .val (.int (1 : Int32))] [(.int u2), (.ref ad3), (.ref ad1), (.ref ad2), (.int ((own_f10 u0 u1 u2 ss v1 v2) v2))])) _
    refine XS.iconst X34.here hx rfl (hb hby at_451) ?_
    show Steps p.tables e below (T34.setTop (mkF m 452 #[.val (.int p1), .val (.int p2), .val (.int p3), .val (.int ss), .val (.int (3 : Int32)), .val (.ref ad1), .val (.ref ad2), .val (.ref ad3), .val (.ref ad13), .val (.int (1 : Int32))] [(.int (2 : Int32)), (.int u2), (.ref ad3), (.ref ad1), (.ref ad2), (.int ((own_f10 u0 u1 u2 ss v1 v2) v2))])) _
    refine st35 _ ?_
    show Steps p.tables e below (T35.setTop (mkF m 455 #[.val (.int p1), .val (.int p2), .val (.int p3), .val (.int ss), .val (.int (3 : Int32)), .val (.ref ad1), .val (.ref ad2), .val (.ref ad3), .val (.ref ad13), .val (.int (1 : Int32))] [(.int (own_last (own_upd (own_upd (own_upd own_zero (0 : Int32) u0) (1 : Int32) u1) (2 : Int32) u2) (own_upd (own_upd (own_upd own_zero (0 : Int32) (1 : Int32)) (1 : Int32) (1 : Int32)) (2 : Int32) (1 : Int32)) u2 (2 : Int32))), (.ref ad2), (.int ((own_f10 u0 u1 u2 ss v1 v2) v2))])) _
    refine st36 _ ?_
    show Steps p.tables e below (T36.setTop (mkF m 458 #[.val (.int p1), .val (.int p2), .val (.int p3), .val (.int ss), .val (.int (3 : Int32)), .val (.ref ad1), .val (.ref ad2), .val (.ref ad3), .val (.ref ad13), .val (.int (1 : Int32))] [(.int (own_el (own_upd (own_upd (own_upd own_zero (0 : Int32) ss) (1 : Int32) v1) (2 : Int32) v2) (own_last (own_upd (own_upd (own_upd own_zero (0 : Int32) u0) (1 : Int32) u1) (2 : Int32) u2) (own_upd (own_upd (own_upd own_zero (0 : Int32) (1 : Int32)) (1 : Int32) (1 : Int32)) (2 : Int32) (1 : Int32)) u2 (2 : Int32)))), (.int ((own_f10 u0 u1 u2 ss v1 v2) v2))])) _
    refine XS.icmpNo X36.here hx rfl (hb hby at_458) rfl (teq (show ((own_f10 u0 u1 u2 ss v1 v2) v2) = (own_el (own_upd (own_upd (own_upd own_zero (0 : Int32) ss) (1 : Int32) v1) (2 : Int32) v2) (own_last (own_upd (own_upd (own_upd own_zero (0 : Int32) u0) (1 : Int32) u1) (2 : Int32) u2) (own_upd (own_upd (own_upd own_zero (0 : Int32) (1 : Int32)) (1 : Int32) (1 : Int32)) (2 : Int32) (1 : Int32)) u2 (2 : Int32))) from (own_k45 u0 u1 u2 ss v1 v2 c_u0 c_u1 c_u2 c_s hv1 hv2))).2 ?_
    show Steps p.tables e below (T36.setTop (mkF m 461 #[.val (.int p1), .val (.int p2), .val (.int p3), .val (.int ss), .val (.int (3 : Int32)), .val (.ref ad1), .val (.ref ad2), .val (.ref ad3), .val (.ref ad13), .val (.int (1 : Int32))] [])) _
    refine XS.iconst X36.here hx rfl (hb hby at_461) ?_
    refine XS.goto X36.here hx rfl (pc0 := 462) (pc' := 466) rfl (hb hby at_462) (by decide) (by decide) ?_
    refine XS.istore X36.here hx rfl (hb hby at_466) rfl (l' := #[.val (.int p1), .val (.int p2), .val (.int p3), .val (.int ss), .val (.int (3 : Int32)), .val (.ref ad1), .val (.ref ad2), .val (.ref ad3), .val (.ref ad13), .val (.int (1 : Int32))]) rfl ?_
    refine XS.iload X36.here hx rfl (hb hby at_468) rfl ?_
    show Steps p.tables e below (T36.setTop (mkF m 470 #[.val (.int p1), .val (.int p2), .val (.int p3), .val (.int ss), .val (.int (3 : Int32)), .val (.ref ad1), .val (.ref ad2), .val (.ref ad3), .val (.ref ad13), .val (.int (1 : Int32))] [(.int (1 : Int32))])) _
    exact retN X36 hx (t := .boolean) Bd.returns (by simp) (hb hby at_470) hr
  · show Q0_3 Z p1 p2 p3 h0 n0 _ T36.heap _
    exact ⟨rfl, N36⟩
def Q0 (Z : State) (p1 p2 p3 : Int32) (h0 : Heap) (n0 : Nat) (v : Option Value) (h : Heap) (L : List Loc) : Prop := v = some (.int (1 : Int32)) ∧ Fr n0 L
theorem rm0 (l : Launch) (Z : State) (a0 : Array Value) (hw : ∀ d ∈ tables_1, d.before a0 Z = true) (ws : List Jvm.Cond) (p1 p2 p3 : Int32) (h0 : Heap) (n0 : Nat) (Z0 : n0 ≤ h0.size) :
    MetFree l x (head1 (Jvm.Cond.code x code maxLocals ret :: ws) room_1) (fun a U => a = #[(.int p1), (.int p2), (.int p3)] ∧ Z.Warmed39 U.vm ∧ U.heap = h0) (fun _ _ _ _ _ => True) (fun _ U o U' => ∃ v L, o = .returned v ∧ Q0 Z p1 p2 p3 h0 n0 v U'.heap L ∧ FrameEnd U o U' L room_1.cells room_1.slots) := by
  obtain ⟨r, hr⟩ : ∃ z : Int32, z = ((p2 &&& (2147483647 : Int32)) % (4 : Int32)) := ⟨_, rfl⟩
  rcases own_four p2 r hr with q | q | q | q
  · exact rm0_0 l Z a0 hw ws p1 p2 p3 h0 n0 Z0 (hr ▸ q)
  · exact rm0_1 l Z a0 hw ws p1 p2 p3 h0 n0 Z0 (hr ▸ q)
  · exact rm0_2 l Z a0 hw ws p1 p2 p3 h0 n0 Z0 (hr ▸ q)
  · exact rm0_3 l Z a0 hw ws p1 p2 p3 h0 n0 Z0 (hr ▸ q)
set_option maxRecDepth 65536 in
set_option maxHeartbeats 40000000 in
theorem comes_1 {Post : Tables → Env → Array Value → State → Outcome → State → Prop} (hpost : ∀ tb e args s v u, (limb_1_1.after args s (.returned v) u = true ∧ limb_1_2.after args s (.returned v) u = true ∧ True) → FrameEnd s (.returned v) u (Jvm.fieldLocs frame_1_writes args s ++ Jvm.arrayLocs frame_1_arrays args s ++ Jvm.staticLocs frame_1_statics s) 24 128 → Post tb e args s (.returned v) u) :
    ArmFor flags0 classFile x code maxLocals ret World_1 tables_1 room_1 Calls_1 rest_1 Pre_1 Post := by
  intro l hfl _ _ p e ha hc hk s m args below hf hA hF happ hP
  obtain ⟨hcalls, hrest, hpre⟩ := hP
  obtain ⟨-, -, -, hnamed, -, -, -, hat⟩ := (Spec.applies_iff hf).mp happ
  obtain ⟨hg, hn⟩ := and_e (Cond.before_iff.mp (show (Jvm.Cond.and given_1 narrow_1).before args s = true from hpre))
  obtain ⟨g15, g16⟩ := and_e hg
  obtain ⟨g17, g18⟩ := and_e g16
  obtain ⟨g19, g20⟩ := and_e g18
  obtain ⟨w0, w1, w2, rfl⟩ : ∃ w0 w1 w2 : Value, args = #[w0, w1, w2] := by
    have hs : args.size = 3 := by simpa [Cond.value, given_1] using g15
    obtain ⟨L⟩ := args
    match L, hs with
    | [w0, w1, w2], _ => exact ⟨w0, w1, w2, rfl⟩
  have hw := fun d (hd : d ∈ tables_1) => atoms_spec (ws := Jvm.Cond.code x code maxLocals ret :: tables_1) hat d (List.mem_cons_of_mem _ hd)
  have hfit : Fit s := fun {y c} hc i hi => by
    obtain ⟨ha, rfl⟩ := Array.getElem?_eq_some_iff.mp hc
    have q := List.all_eq_true.mp ((Array.all_eq_true_iff_forall_mem.mp hF) _ (Array.getElem_mem ha)) i (List.mem_range.mpr hi)
    simpa [Array.getElem?_eq_getElem hi] using q
  obtain ⟨i0, ei0⟩ := is_v g17
  obtain rfl : w0 = (.int i0) := Option.some.inj ei0
  obtain ⟨i1, ei1⟩ := is_v g19
  obtain rfl : w1 = (.int i1) := Option.some.inj ei1
  obtain ⟨i2, ei2⟩ := is_v g20
  obtain rfl : w2 = (.int i2) := Option.some.inj ei2
  obtain ⟨n, o, h1, h2, h3, _, L, rfl, ⟨rfl, N⟩, hq⟩ := rm0 l s _ hw tables_1 i0 i1 i2 s.heap s.heap.size (Nat.le_refl _) p e ha hc hk s m _ below hf ((Spec.applies_iff_loose hf).mp happ).1 ⟨rfl, State.Warmed39.refl s, rfl⟩ trivial
  refine ⟨n, _, h1, h2, h3, hpost _ _ _ _ _ _ ⟨Cond.after_iff.mpr rfl, Cond.after_iff.mpr (eq_i res_at (Term.int_eval (1)) rfl), trivial⟩ ⟨hq.1, hq.2.1, (hq.2.2.sift fun y hy => Or.inr (N y hy)).mono (by decide) (by decide)⟩⟩
theorem main_1_1 : Claimed_1_1 := comes_1 fun _ _ _ _ _ _ h hF => ⟨h.1, hF⟩
theorem main_1_2 : Claimed_1_2 := comes_1 fun _ _ _ _ _ _ h hF => ⟨h.2.1, hF⟩
end Jvm.Pilot.@@N@@
namespace Jvm.Pilot.@@N@@
open Jvm Jvm.ClassFile Sem Op Lib Jvm.Free Jvm.Stand Jvm.Pilot.@@N@@.Jvm.D
/-! MADE BY PROGRAM (witnessworld.py) out of the Statement's table words and the real class files: 12 classes; the members and pool entries that the words name. The judged class is class 1, her method 4. -/
namespace start1
open Jvm.ClassFile
def u (s : String) : CpInfo := .utf8 (stringToUtf16 s)
/-- a pool by its gaps: so many unusable entries, then the entry; so many at the end -/
def gap : Nat → List CpInfo → List CpInfo
  | 0, r => r
  | n + 1, r => .unusable :: gap n r
def poolList (es : List (Nat × CpInfo)) (last : Nat) : List CpInfo := es.foldr (fun e r => gap e.1 (e.2 :: r)) (gap last [])
def pool (es : List (Nat × CpInfo)) (last : Nat) : Array CpInfo := ⟨poolList es last⟩
def fileOf (pool : Array CpInfo) (this : Nat) (attrs : Array Attribute := #[]) (ms : Array MethodInfo := #[]) (fl : Nat := 33) (sup : Nat := 0) (ifs : Array Nat := #[]) (fds : Array FieldInfo := #[]) : ClassFile where
  minorVersion := 0
  majorVersion := 65
  constantPool := pool
  accessFlags := fl
  thisClass := this
  superClass := sup
  interfaces := ifs
  fields := fds
  methods := ms
  attributes := attrs
def plain (name : String) (sup : Option ClassId) : Class where
  name := name
  kind := .ordinary
  loader := none
  accessFlags := 33
  super := sup
  interfaces := #[]
  cf := none
  fields := #[]
  methods := #[]
  instanceTypes := #[]
  staticTypes := #[]
  resolved := #[]
  callSites := []
  init := .initialized
  statics := none
  mirror := none

def pool0 : Array CpInfo := pool [(5, u "<init>"), (0, u "()V"), (1, .class_ 10), (1, u "java/lang/Object")] 113

def k0c0 : Code := { maxStack := 0, maxLocals := 1, code := object_method_1_code, exceptionTable := #[], attributes := #[] }
def k0m0 : Method := { name := "<init>", desc := "()V", sig := { parameters := [], returnType := none }, accessFlags := 1, code := some k0c0 }
/-- java/lang/Object -/
def k0 : Class := { plain "java/lang/Object" none with
  accessFlags := 33
  interfaces := #[]
  cf := some (fileOf pool0 8 #[] #[{ accessFlags := 1, nameIndex := 5, descriptorIndex := 6, attributes := #[] }] 33 0 #[] #[])
  fields := #[]
  methods := #[k0m0]
  instanceTypes := #[]
  staticTypes := #[]
  resolved := Array.replicate 124 none
  statics := none }

def pool1 : Array CpInfo := pool [(2, .class_ 4), (1, u "java/lang/Object"), (0, u "<init>"), (0, u "()V"), (0, .integer 2147483647), (0, .class_ 9), (0, u "com/example/process_stepper/processstepper/equivalence/IntLists"), (0, .methodref 8 11), (0, .nameAndType 5 12), (0, u "(II)V"), (0, .methodref 8 14), (0, .nameAndType 15 12), (0, u "push"), (0, .methodref 8 17), (0, .nameAndType 18 12), (0, u "remove"), (0, .methodref 8 20), (0, .nameAndType 21 22), (0, u "first"), (0, u "(I)I"), (0, .methodref 24 25), (0, .class_ 26), (0, .nameAndType 27 28), (0, u "com/example/process_stepper/processstepper/equivalence/IntListsPushPinLaw"), (0, u "last"), (0, u "([I[ZII)I"), (0, .methodref 24 30), (0, .nameAndType 31 32), (0, u "elementAt"), (0, u "([II)I"), (0, .methodref 8 34), (0, .nameAndType 35 22), (0, u "size"), (0, .methodref 24 37), (0, .nameAndType 38 39), (0, u "count"), (0, u "([I[ZI)I"), (0, .methodref 8 41), (0, .nameAndType 42 22), (0, u "next"), (3, u "law"), (0, u "(III)Z")] 6

def k1m0 : Method := { name := "<init>", desc := "()V", sig := { parameters := [], returnType := none }, accessFlags := 1, code := none }
def k1c1 : Code := { maxStack := 2, maxLocals := 4, code := method_2_code, exceptionTable := #[], attributes := #[] }
def k1m1 : Method := { name := "last", desc := "([I[ZII)I", sig := { parameters := [(.array .int), (.array .boolean), .int, .int], returnType := some .int }, accessFlags := 10, code := some k1c1 }
def k1c2 : Code := { maxStack := 2, maxLocals := 2, code := method_3_code, exceptionTable := #[], attributes := #[] }
def k1m2 : Method := { name := "elementAt", desc := "([II)I", sig := { parameters := [(.array .int), .int], returnType := some .int }, accessFlags := 10, code := some k1c2 }
def k1c3 : Code := { maxStack := 2, maxLocals := 4, code := method_4_code, exceptionTable := #[], attributes := #[] }
def k1m3 : Method := { name := "count", desc := "([I[ZI)I", sig := { parameters := [(.array .int), (.array .boolean), .int], returnType := some .int }, accessFlags := 10, code := some k1c3 }
def k1c4 : Code := { maxStack := 6, maxLocals := 10, code := code, exceptionTable := #[], attributes := #[] }
def k1m4 : Method := { name := "law", desc := "(III)Z", sig := { parameters := [.int, .int, .int], returnType := some .boolean }, accessFlags := 9, code := some k1c4 }
/-- com/example/process_stepper/processstepper/equivalence/IntListsPushPinLaw -/
def k1 : Class := { plain "com/example/process_stepper/processstepper/equivalence/IntListsPushPinLaw" (some 0) with
  accessFlags := 49
  interfaces := #[]
  cf := some (fileOf pool1 24 #[] #[{ accessFlags := 1, nameIndex := 5, descriptorIndex := 6, attributes := #[] }, { accessFlags := 10, nameIndex := 27, descriptorIndex := 28, attributes := #[] }, { accessFlags := 10, nameIndex := 31, descriptorIndex := 32, attributes := #[] }, { accessFlags := 10, nameIndex := 38, descriptorIndex := 39, attributes := #[] }, { accessFlags := 9, nameIndex := 46, descriptorIndex := 47, attributes := #[] }] 49 2 #[] #[])
  fields := #[]
  methods := #[k1m0, k1m1, k1m2, k1m3, k1m4]
  instanceTypes := #[]
  staticTypes := #[]
  resolved := Array.replicate 54 none
  statics := none }

def pool2 : Array CpInfo := pool [(1, .methodref 2 3), (0, .class_ 4), (0, .nameAndType 5 6), (0, u "java/lang/Object"), (0, u "<init>"), (0, u "()V"), (0, .fieldref 8 9), (0, .class_ 10), (0, .nameAndType 11 12), (0, u "com/example/process_stepper/processstepper/equivalence/IntLists"), (0, u "heads"), (0, u "[I"), (0, .methodref 14 15), (0, .class_ 16), (0, .nameAndType 17 18), (0, u "java/util/Arrays"), (0, u "fill"), (0, u "([II)V"), (0, .fieldref 8 20), (0, .nameAndType 21 12), (0, u "sizes"), (0, .fieldref 8 23), (0, .nameAndType 24 12), (0, u "next"), (0, .fieldref 8 26), (0, .nameAndType 27 12), (0, u "previous"), (7, u "NONE"), (0, u "I"), (2, u "(II)V"), (4, u "first"), (0, u "(I)I"), (0, u "size"), (0, u "push"), (0, u "remove")] 4

def k2c0 : Code := { maxStack := 2, maxLocals := 3, code := prog_108_method_1_code, exceptionTable := #[], attributes := #[] }
def k2m0 : Method := { name := "<init>", desc := "(II)V", sig := { parameters := [.int, .int], returnType := none }, accessFlags := 0, code := some k2c0 }
def k2c1 : Code := { maxStack := 2, maxLocals := 2, code := prog_108_method_3_code, exceptionTable := #[], attributes := #[] }
def k2m1 : Method := { name := "first", desc := "(I)I", sig := { parameters := [.int], returnType := some .int }, accessFlags := 0, code := some k2c1 }
def k2c2 : Code := { maxStack := 2, maxLocals := 2, code := prog_108_method_4_code, exceptionTable := #[], attributes := #[] }
def k2m2 : Method := { name := "next", desc := "(I)I", sig := { parameters := [.int], returnType := some .int }, accessFlags := 0, code := some k2c2 }
def k2c3 : Code := { maxStack := 2, maxLocals := 2, code := prog_108_method_5_code, exceptionTable := #[], attributes := #[] }
def k2m3 : Method := { name := "size", desc := "(I)I", sig := { parameters := [.int], returnType := some .int }, accessFlags := 0, code := some k2c3 }
def k2c4 : Code := { maxStack := 4, maxLocals := 3, code := prog_108_method_6_code, exceptionTable := #[], attributes := #[] }
def k2m4 : Method := { name := "push", desc := "(II)V", sig := { parameters := [.int, .int], returnType := none }, accessFlags := 0, code := some k2c4 }
def k2c5 : Code := { maxStack := 4, maxLocals := 3, code := prog_108_method_7_code, exceptionTable := #[], attributes := #[] }
def k2m5 : Method := { name := "remove", desc := "(II)V", sig := { parameters := [.int, .int], returnType := none }, accessFlags := 0, code := some k2c5 }
/-- com/example/process_stepper/processstepper/equivalence/IntLists -/
def k2 : Class := { plain "com/example/process_stepper/processstepper/equivalence/IntLists" (some 0) with
  accessFlags := 48
  interfaces := #[]
  cf := some (fileOf pool2 8 #[] #[{ accessFlags := 0, nameIndex := 5, descriptorIndex := 39, attributes := #[] }, { accessFlags := 0, nameIndex := 44, descriptorIndex := 45, attributes := #[] }, { accessFlags := 0, nameIndex := 24, descriptorIndex := 45, attributes := #[] }, { accessFlags := 0, nameIndex := 46, descriptorIndex := 45, attributes := #[] }, { accessFlags := 0, nameIndex := 47, descriptorIndex := 39, attributes := #[] }, { accessFlags := 0, nameIndex := 48, descriptorIndex := 39, attributes := #[] }] 48 2 #[] #[{ accessFlags := 26, nameIndex := 35, descriptorIndex := 36, attributes := #[] }, { accessFlags := 2, nameIndex := 11, descriptorIndex := 12, attributes := #[] }, { accessFlags := 2, nameIndex := 21, descriptorIndex := 12, attributes := #[] }, { accessFlags := 2, nameIndex := 24, descriptorIndex := 12, attributes := #[] }, { accessFlags := 2, nameIndex := 27, descriptorIndex := 12, attributes := #[] }])
  fields := #[{ name := "NONE", type := .int, accessFlags := 26, slot := 0, constantValue := 0 }, { name := "heads", type := (.array .int), accessFlags := 2, slot := 0, constantValue := 0 }, { name := "sizes", type := (.array .int), accessFlags := 2, slot := 1, constantValue := 0 }, { name := "next", type := (.array .int), accessFlags := 2, slot := 2, constantValue := 0 }, { name := "previous", type := (.array .int), accessFlags := 2, slot := 3, constantValue := 0 }]
  methods := #[k2m0, k2m1, k2m2, k2m3, k2m4, k2m5]
  instanceTypes := #[(.array .int), (.array .int), (.array .int), (.array .int)]
  staticTypes := #[.int]
  resolved := Array.replicate 53 none
  statics := none }

def pool3 : Array CpInfo := pool [(2, .class_ 4), (1, u "java/lang/Object"), (0, u "<init>"), (0, u "()V"), (7, .class_ 16), (1, u "java/util/Arrays"), (57, .class_ 76), (1, u "java/util/Arrays$NaturalOrder"), (36, .class_ 115), (1, u "java/util/Arrays$LegacyMergeSort"), (1, u "Z"), (257, .class_ 376), (0, u "java/util/Arrays$ArrayList"), (68, u "$assertionsDisabled"), (269, u "MIN_ARRAY_SORT_GRAN"), (0, u "I"), (2, u "INSERTIONSORT_THRESHOLD"), (120, u "fill"), (4, u "([II)V"), (129, .class_ 976), (0, u "java/util/Arrays$ArrayItr")] 52

def k3m0 : Method := { name := "<init>", desc := "()V", sig := { parameters := [], returnType := none }, accessFlags := 2, code := none }
def k3c1 : Code := { maxStack := 3, maxLocals := 4, code := jdk_65_method_103_code, exceptionTable := #[], attributes := #[] }
def k3m1 : Method := { name := "fill", desc := "([II)V", sig := { parameters := [(.array .int), .int], returnType := none }, accessFlags := 9, code := some k3c1 }
/-- java/util/Arrays -/
def k3 : Class := { plain "java/util/Arrays" (some 0) with
  accessFlags := 49
  interfaces := #[]
  cf := some (fileOf pool3 14 #[.nestMembers #[975, 375, 113, 74]] #[{ accessFlags := 2, nameIndex := 5, descriptorIndex := 6, attributes := #[] }, { accessFlags := 9, nameIndex := 840, descriptorIndex := 845, attributes := #[] }] 49 2 #[] #[{ accessFlags := 26, nameIndex := 715, descriptorIndex := 716, attributes := #[] }, { accessFlags := 26, nameIndex := 719, descriptorIndex := 716, attributes := #[] }, { accessFlags := 4120, nameIndex := 445, descriptorIndex := 117, attributes := #[] }])
  fields := #[{ name := "MIN_ARRAY_SORT_GRAN", type := .int, accessFlags := 26, slot := 0, constantValue := 0 }, { name := "INSERTIONSORT_THRESHOLD", type := .int, accessFlags := 26, slot := 1, constantValue := 0 }, { name := "$assertionsDisabled", type := .boolean, accessFlags := 4120, slot := 2, constantValue := 0 }]
  methods := #[k3m0, k3m1]
  instanceTypes := #[]
  staticTypes := #[.int, .int, .boolean]
  resolved := Array.replicate 1029 none
  statics := none }

def pool4 : Array CpInfo := pool [(1, u "java/lang/Cloneable"), (0, .class_ 1), (0, u "java/lang/Object"), (0, .class_ 3)] 3

/-- java/lang/Cloneable -/
def k4 : Class := { plain "java/lang/Cloneable" (some 0) with
  accessFlags := 1537
  interfaces := #[]
  cf := some (fileOf pool4 2 #[] #[] 1537 4 #[] #[])
  fields := #[]
  methods := #[]
  instanceTypes := #[]
  staticTypes := #[]
  resolved := Array.replicate 8 none
  statics := none }

def pool5 : Array CpInfo := pool [(1, u "java/io/Serializable"), (0, .class_ 1), (0, u "java/lang/Object"), (0, .class_ 3)] 3

/-- java/io/Serializable -/
def k5 : Class := { plain "java/io/Serializable" (some 0) with
  accessFlags := 1537
  interfaces := #[]
  cf := some (fileOf pool5 2 #[] #[] 1537 4 #[] #[])
  fields := #[]
  methods := #[]
  instanceTypes := #[]
  staticTypes := #[]
  resolved := Array.replicate 8 none
  statics := none }

/-- the primitive boolean -/
def k6 : Class := { plain "boolean" none with kind := .primitive 'Z', accessFlags := 0x411 }
/-- [Z -/
def k7 : Class := { plain "[Z" (some 0) with kind := .array 6 .boolean, interfaces := #[4, 5], accessFlags := 1041 }

/-- the primitive byte -/
def k8 : Class := { plain "byte" none with kind := .primitive 'B', accessFlags := 0x411 }
/-- [B -/
def k9 : Class := { plain "[B" (some 0) with kind := .array 8 .byte, interfaces := #[4, 5], accessFlags := 1041 }

/-- the primitive int -/
def k10 : Class := { plain "int" none with kind := .primitive 'I', accessFlags := 0x411 }
/-- [I -/
def k11 : Class := { plain "[I" (some 0) with kind := .array 10 .int, interfaces := #[4, 5], accessFlags := 1041 }

def heap : Heap := #[]
def classes : Array Class := #[k0, k1, k2, k3, k4, k5, k6, k7, k8, k9, k10, k11]
def interned : List (Array UInt16 × Addr) := []
def slotsUsed : Nat := 0
def theMethod : MethodId := ⟨1, 4⟩
def args0 : Array Value := #[.int 5, .int 3, .int 1]
def aboutOver (below : List Frame) : State where
  vm := { classes := classes, interned := interned.toArray }
  heap := heap
  slotsUsed := slotsUsed
  threads := #[{ frames := .invoking theMethod args0 :: below }]
def below0 : List Frame := [.native { method := ⟨0, 0⟩, args := #[] }]
def about1 : State := aboutOver below0
def p0 : Program := .bare "" "" ""
def e0 : Env := launch0.env 0 0 0
theorem w_frames : about1.frames = Frame.invoking theMethod args0 :: below0 := rfl
set_option maxRecDepth 65536 in
theorem w_args : argsFit about1.vm theMethod args0 = true := by decide +kernel
set_option maxRecDepth 65536 in
theorem w_heap : heapFits about1 = true := by decide +kernel
set_option maxRecDepth 65536 in
theorem w_runnable : about1.curStatus? = some .runnable := by decide +kernel
set_option maxRecDepth 65536 in
theorem w_alone : about1.alone = true := by decide +kernel
set_option maxRecDepth 65536 in
theorem w_named : about1.methodNamed? x = some theMethod := by decide +kernel
set_option maxRecDepth 65536 in
theorem w_hears : about1.hears theMethod below0 = true := by decide +kernel
set_option maxRecDepth 65536 in
theorem w_ripe : about1.ripe theMethod args0 below0 = true := by decide +kernel
theorem w_running : about1.status = .running := rfl
set_option maxRecDepth 65536 in
theorem w_room : about1.hasRoom e0.platform room_1 = true :=
  launch0.hasRoom_least _ room_1 (by decide +kernel) (by decide +kernel) (by decide +kernel) (by decide +kernel) (by decide +kernel) (by decide +kernel)
theorem allAtoms_all (ts : List Jvm.Cond) (a : Array Jvm.Value) (st : Jvm.State) : (allAtoms ts).before a st = ts.all (fun c => c.before a st) := by
  induction ts with
  | nil => rfl
  | cons c t ih =>
    show (Jvm.Cond.and c (allAtoms t)).before a st = _
    rw [Jvm.Cond.before_and, ih, List.all_cons]
def words1 : List Jvm.Cond := Jvm.Cond.code x code maxLocals ret :: tables_1
/-- a 'code' word, met by the world's own term for the bytes: nothing is compared byte by byte -/
theorem code_word {y : MethodName} {bytes : ByteArray} {mx : Nat} {rt : Option FieldType} {a : Array Value} {s : State} {m : MethodId} {meth : Method} {c : Code} (h1 : s.methodNamed? y = some m) (h2 : s.vm.method? m = some meth) (h3 : meth.code = some c) (h4 : c.code = bytes)
    (h5 : (c.maxLocals == mx && c.exceptionTable.isEmpty && decide (c.maxStack ≤ mostOperands) && decide (meth.sig.returnType = rt) && !meth.locks && decide (parseMethodDescriptor y.desc = some meth.sig)) = true) : (Jvm.Cond.code y bytes mx rt).before a s = true := by
  simp only [Bool.and_eq_true, beq_iff_eq, Bool.not_eq_true', decide_eq_true_eq] at h5
  obtain ⟨⟨⟨⟨⟨g1, g2⟩, g3⟩, g4⟩, g5⟩, g6⟩ := h5
  simp [Cond.before, Cond.holds, Cond.value, h1, h2, h3, h4, g1, g2, g3, g4, g5, g6]
def isCode : Jvm.Cond → Bool
  | .code _ _ _ _ => true
  | _ => false
theorem all_split {L : List Jvm.Cond} {P : Jvm.Cond → Bool} (h1 : L.all (fun c => isCode c || P c) = true) (h2 : ∀ c ∈ L.filter isCode, P c = true) : L.all P = true := by
  refine List.all_eq_true.mpr fun c hc => ?_
  have h := List.all_eq_true.mp h1 c hc
  rcases Bool.eq_false_or_eq_true (isCode c) with hi | hi
  · exact h2 c (List.mem_filter.mpr ⟨hc, hi⟩)
  · simpa [hi] using h
set_option maxRecDepth 65536 in
theorem w_c0 : (Jvm.Cond.code x code maxLocals ret).before args0 about1 = true := code_word (m := ⟨1, 4⟩) (meth := k1m4) (c := k1c4) (by decide +kernel) rfl rfl rfl (by decide +kernel)
set_option maxRecDepth 65536 in
theorem w_c1 : (Jvm.Cond.code ({ cls := "com/example/process_stepper/processstepper/equivalence/IntLists", name := "<init>", desc := "(II)V" } : Jvm.MethodName) prog_108_method_1_code (3 : Nat) (Option.none : Option Jvm.ClassFile.FieldType)).before args0 about1 = true := code_word (m := ⟨2, 0⟩) (meth := k2m0) (c := k2c0) (by decide +kernel) rfl rfl rfl (by decide +kernel)
set_option maxRecDepth 65536 in
theorem w_c2 : (Jvm.Cond.code ({ cls := "java/lang/Object", name := "<init>", desc := "()V" } : Jvm.MethodName) object_method_1_code (1 : Nat) (Option.none : Option Jvm.ClassFile.FieldType)).before args0 about1 = true := code_word (m := ⟨0, 0⟩) (meth := k0m0) (c := k0c0) (by decide +kernel) rfl rfl rfl (by decide +kernel)
set_option maxRecDepth 65536 in
theorem w_c3 : (Jvm.Cond.code ({ cls := "java/util/Arrays", name := "fill", desc := "([II)V" } : Jvm.MethodName) jdk_65_method_103_code (4 : Nat) (Option.none : Option Jvm.ClassFile.FieldType)).before args0 about1 = true := code_word (m := ⟨3, 1⟩) (meth := k3m1) (c := k3c1) (by decide +kernel) rfl rfl rfl (by decide +kernel)
set_option maxRecDepth 65536 in
theorem w_c4 : (Jvm.Cond.code ({ cls := "com/example/process_stepper/processstepper/equivalence/IntLists", name := "push", desc := "(II)V" } : Jvm.MethodName) prog_108_method_6_code (3 : Nat) (Option.none : Option Jvm.ClassFile.FieldType)).before args0 about1 = true := code_word (m := ⟨2, 4⟩) (meth := k2m4) (c := k2c4) (by decide +kernel) rfl rfl rfl (by decide +kernel)
set_option maxRecDepth 65536 in
theorem w_c5 : (Jvm.Cond.code ({ cls := "com/example/process_stepper/processstepper/equivalence/IntLists", name := "first", desc := "(I)I" } : Jvm.MethodName) prog_108_method_3_code (2 : Nat) (Option.some Jvm.ClassFile.FieldType.int)).before args0 about1 = true := code_word (m := ⟨2, 1⟩) (meth := k2m1) (c := k2c1) (by decide +kernel) rfl rfl rfl (by decide +kernel)
set_option maxRecDepth 65536 in
theorem w_c6 : (Jvm.Cond.code ({ cls := "com/example/process_stepper/processstepper/equivalence/IntListsPushPinLaw", name := "last", desc := "([I[ZII)I" } : Jvm.MethodName) method_2_code (4 : Nat) (Option.some Jvm.ClassFile.FieldType.int)).before args0 about1 = true := code_word (m := ⟨1, 1⟩) (meth := k1m1) (c := k1c1) (by decide +kernel) rfl rfl rfl (by decide +kernel)
set_option maxRecDepth 65536 in
theorem w_c7 : (Jvm.Cond.code ({ cls := "com/example/process_stepper/processstepper/equivalence/IntListsPushPinLaw", name := "elementAt", desc := "([II)I" } : Jvm.MethodName) method_3_code (2 : Nat) (Option.some Jvm.ClassFile.FieldType.int)).before args0 about1 = true := code_word (m := ⟨1, 2⟩) (meth := k1m2) (c := k1c2) (by decide +kernel) rfl rfl rfl (by decide +kernel)
set_option maxRecDepth 65536 in
theorem w_c8 : (Jvm.Cond.code ({ cls := "com/example/process_stepper/processstepper/equivalence/IntLists", name := "size", desc := "(I)I" } : Jvm.MethodName) prog_108_method_5_code (2 : Nat) (Option.some Jvm.ClassFile.FieldType.int)).before args0 about1 = true := code_word (m := ⟨2, 3⟩) (meth := k2m3) (c := k2c3) (by decide +kernel) rfl rfl rfl (by decide +kernel)
set_option maxRecDepth 65536 in
theorem w_c9 : (Jvm.Cond.code ({ cls := "com/example/process_stepper/processstepper/equivalence/IntListsPushPinLaw", name := "count", desc := "([I[ZI)I" } : Jvm.MethodName) method_4_code (4 : Nat) (Option.some Jvm.ClassFile.FieldType.int)).before args0 about1 = true := code_word (m := ⟨1, 3⟩) (meth := k1m3) (c := k1c3) (by decide +kernel) rfl rfl rfl (by decide +kernel)
set_option maxRecDepth 65536 in
theorem w_c10 : (Jvm.Cond.code ({ cls := "com/example/process_stepper/processstepper/equivalence/IntLists", name := "next", desc := "(I)I" } : Jvm.MethodName) prog_108_method_4_code (2 : Nat) (Option.some Jvm.ClassFile.FieldType.int)).before args0 about1 = true := code_word (m := ⟨2, 2⟩) (meth := k2m2) (c := k2c2) (by decide +kernel) rfl rfl rfl (by decide +kernel)
set_option maxRecDepth 65536 in
theorem w_c11 : (Jvm.Cond.code ({ cls := "com/example/process_stepper/processstepper/equivalence/IntLists", name := "remove", desc := "(II)V" } : Jvm.MethodName) prog_108_method_7_code (3 : Nat) (Option.none : Option Jvm.ClassFile.FieldType)).before args0 about1 = true := code_word (m := ⟨2, 5⟩) (meth := k2m5) (c := k2c5) (by decide +kernel) rfl rfl rfl (by decide +kernel)
def codes1 : List Jvm.Cond := [Jvm.Cond.code x code maxLocals ret, Jvm.Cond.code ({ cls := "com/example/process_stepper/processstepper/equivalence/IntLists", name := "<init>", desc := "(II)V" } : Jvm.MethodName) prog_108_method_1_code (3 : Nat) (Option.none : Option Jvm.ClassFile.FieldType), Jvm.Cond.code ({ cls := "java/lang/Object", name := "<init>", desc := "()V" } : Jvm.MethodName) object_method_1_code (1 : Nat) (Option.none : Option Jvm.ClassFile.FieldType), Jvm.Cond.code ({ cls := "java/util/Arrays", name := "fill", desc := "([II)V" } : Jvm.MethodName) jdk_65_method_103_code (4 : Nat) (Option.none : Option Jvm.ClassFile.FieldType), Jvm.Cond.code ({ cls := "com/example/process_stepper/processstepper/equivalence/IntLists", name := "push", desc := "(II)V" } : Jvm.MethodName) prog_108_method_6_code (3 : Nat) (Option.none : Option Jvm.ClassFile.FieldType), Jvm.Cond.code ({ cls := "com/example/process_stepper/processstepper/equivalence/IntLists", name := "first", desc := "(I)I" } : Jvm.MethodName) prog_108_method_3_code (2 : Nat) (Option.some Jvm.ClassFile.FieldType.int), Jvm.Cond.code ({ cls := "com/example/process_stepper/processstepper/equivalence/IntListsPushPinLaw", name := "last", desc := "([I[ZII)I" } : Jvm.MethodName) method_2_code (4 : Nat) (Option.some Jvm.ClassFile.FieldType.int), Jvm.Cond.code ({ cls := "com/example/process_stepper/processstepper/equivalence/IntListsPushPinLaw", name := "elementAt", desc := "([II)I" } : Jvm.MethodName) method_3_code (2 : Nat) (Option.some Jvm.ClassFile.FieldType.int), Jvm.Cond.code ({ cls := "com/example/process_stepper/processstepper/equivalence/IntLists", name := "size", desc := "(I)I" } : Jvm.MethodName) prog_108_method_5_code (2 : Nat) (Option.some Jvm.ClassFile.FieldType.int), Jvm.Cond.code ({ cls := "com/example/process_stepper/processstepper/equivalence/IntListsPushPinLaw", name := "count", desc := "([I[ZI)I" } : Jvm.MethodName) method_4_code (4 : Nat) (Option.some Jvm.ClassFile.FieldType.int), Jvm.Cond.code ({ cls := "com/example/process_stepper/processstepper/equivalence/IntLists", name := "next", desc := "(I)I" } : Jvm.MethodName) prog_108_method_4_code (2 : Nat) (Option.some Jvm.ClassFile.FieldType.int), Jvm.Cond.code ({ cls := "com/example/process_stepper/processstepper/equivalence/IntLists", name := "remove", desc := "(II)V" } : Jvm.MethodName) prog_108_method_7_code (3 : Nat) (Option.none : Option Jvm.ClassFile.FieldType)]
set_option maxRecDepth 65536 in
theorem codes_eq : words1.filter isCode = codes1 := rfl
theorem w_codes : ∀ c ∈ words1.filter isCode, c.before args0 about1 = true := by
  rw [codes_eq]
  intro c hc
  simp only [codes1, List.mem_cons, List.not_mem_nil, or_false] at hc
  rcases hc with rfl | rfl | rfl | rfl | rfl | rfl | rfl | rfl | rfl | rfl | rfl | rfl
  · exact w_c0
  · exact w_c1
  · exact w_c2
  · exact w_c3
  · exact w_c4
  · exact w_c5
  · exact w_c6
  · exact w_c7
  · exact w_c8
  · exact w_c9
  · exact w_c10
  · exact w_c11
set_option maxRecDepth 65536 in
theorem w_t1 : (words1.take 24).all (fun c => isCode c || c.before args0 about1) = true := by decide +kernel
set_option maxRecDepth 65536 in
theorem w_t2 : ((words1.drop 24).take 24).all (fun c => isCode c || c.before args0 about1) = true := by decide +kernel
set_option maxRecDepth 65536 in
theorem w_t3 : ((words1.drop 24).drop 24).all (fun c => isCode c || c.before args0 about1) = true := by decide +kernel
theorem w_tables : (allAtoms (Jvm.Cond.code x code maxLocals ret :: tables_1)).before args0 about1 = true := by
  rw [allAtoms_all]
  show words1.all (fun c => c.before args0 about1) = true
  refine all_split ?_ w_codes
  rw [← List.take_append_drop 24 words1, List.all_append, w_t1, ← List.take_append_drop 24 (words1.drop 24), List.all_append, w_t2, w_t3]
  rfl
set_option maxRecDepth 65536 in
theorem w_case : (Jvm.Cond.and given_1 narrow_1).before args0 about1 = true := by decide +kernel
theorem w_applies : (headSpec (Jvm.Cond.code x code maxLocals ret :: tables_1) room_1).applies x e0.platform about1 = true :=
  (Spec.applies_iff w_frames).mpr ⟨w_running, w_runnable, w_alone, w_named, w_hears, w_ripe, w_room, w_tables⟩
theorem atStart : AtStart classFile x code maxLocals ret World_1 tables_1 room_1 Calls_1 rest_1 Pre_1 launch0 p0 e0 about1 theMethod args0 below0 :=
  ⟨lists_1, trivial, launch0.admits_env _ _ _, launch0.least_env, fairChoices_fair.cas, fairChoices_fair.clock, w_frames, w_args, w_heap, w_applies, trivial, trivial, w_case⟩
end start1
theorem witness_1 : WitnessClaimed_1 := ⟨start1.p0, start1.e0, start1.about1, start1.theMethod, start1.args0, start1.below0, start1.atStart⟩
end Jvm.Pilot.@@N@@
