import JvmDerived
import JvmDerived.Pilot.@@N@@Statement
import JvmDerived.Pilot.@@N@@Code
set_option linter.unusedVariables false
set_option linter.unusedSimpArgs false
namespace Jvm.RoadKit
open Sem ClassFile Op Lib Jvm.Stand Jvm.Free Jvm.LawKit
section New
variable {p : Program} {l : Launch} {e : Env} {R : Room} {s : State} {m : MethodId} {args : Array Value} {below : List Frame} {meth : Method} {c : Code} {T : State} {locs : List Loc} {cells slots : Nat}
theorem retI (X : Stand p l e R s m args below meth c T locs cells slots) (hx : p.tables.exec = Jvm.exec) {pc : Nat} {Ls : Array Slot} {z : Int32} {rest : List Value} (hret : meth.sig.returnType = some .int) (hd : decode c.code pc = .ok (.ireturn, 1)) {fs : List Frame}
    (hl : ∀ (f : JFrame) (acts : List Action), f.method = m → f.locked = none → f.entered = [] → (doReturn e (T.setTop f) acts (some (.int z))).1 = T.setFrames fs) : Steps p.tables e below (T.setTop (mkF m pc Ls (.int z :: rest))) (T.setFrames fs) := by
  have hm' : T.vm.method? m = some meth := X.method'
  have hn : narrow .int (.int z) = .int z := rfl
  show Steps p.tables e below (T.setTop { method := m, pc := pc, locals := Ls, stack := _ :: rest, locked := none }) _
  jvm_step X.here [X.here.top, hx, hd, hm', hret, hn]
  first | (intro acts; rw [hl _ acts rfl rfl rfl]) | rw [hl _ _ rfl rfl rfl]
  exact Steps.refl _
end New
end Jvm.RoadKit
namespace Jvm.Pilot.@@N@@
open Jvm Jvm.ClassFile Sem Op Lib Jvm.Free Jvm.Stand Jvm.LawKit Jvm.RoadKit Bundle Jvm.Pilot.@@N@@.Jvm.D
theorem own_nor (n : Nat) : n ||| 32 = n + (if n / 32 % 2 = 0 then 32 else 0) := by
  have hs : ∀ r : Fin 64, r.1 ||| 32 = r.1 + (if r.1 / 32 % 2 = 0 then 32 else 0) ∧ r.1 ||| 32 < 64 := by decide
  have h := hs ⟨n % 64, Nat.mod_lt _ (by decide)⟩
  have e : n = 2 ^ 6 * (n / 64) + n % 64 := by omega
  have e1 : 2 ^ 6 * (n / 64) + n % 64 = 2 ^ 6 * (n / 64) ||| n % 64 := Nat.two_pow_add_eq_or_of_lt (by omega) _
  have e2 : 2 ^ 6 * (n / 64) + (n % 64 ||| 32) = 2 ^ 6 * (n / 64) ||| (n % 64 ||| 32) := Nat.two_pow_add_eq_or_of_lt (by have := h.2; dsimp only at this; omega) _
  have e3 : n ||| 32 = 2 ^ 6 * (n / 64) + (n % 64 ||| 32) := by
    rw [e2, ← Nat.or_assoc, ← e1, ← e]
  have h1 : n % 64 ||| 32 = n % 64 + (if n % 64 / 32 % 2 = 0 then 32 else 0) := h.1
  rw [e3, h1]
  have e4 : n % 64 / 32 % 2 = n / 32 % 2 := by omega
  rw [e4]
  omega
theorem own_or (c : Int32) : (c ||| (32 : Int32)).toInt = c.toInt + (if c.toInt / 32 % 2 = 0 then 32 else 0) := by
  have hn : (c ||| (32 : Int32)).toBitVec.toNat = c.toBitVec.toNat ||| 32 := by
    rw [Int32.toBitVec_or, BitVec.toNat_or]
    rfl
  rw [own_nor] at hn
  have h1 : (c ||| (32 : Int32)).toInt = (c ||| (32 : Int32)).toBitVec.toInt := rfl
  have h2 : c.toInt = c.toBitVec.toInt := rfl
  have hl := c.toBitVec.isLt
  rw [h1, h2, BitVec.toInt_eq_toNat_cond, BitVec.toInt_eq_toNat_cond, hn]
  generalize c.toBitVec.toNat = n at *
  by_cases q : n / 32 % 2 = 0
  · rw [if_pos q]
    by_cases q2 : 2 * n < 2 ^ 32
    · rw [if_pos (by omega), if_pos q2, if_pos (by omega)]
      omega
    · rw [if_neg (by omega), if_neg q2, if_pos (by omega)]
      omega
  · rw [if_neg q]
    by_cases q2 : 2 * n < 2 ^ 32
    · rw [if_pos (by omega), if_pos q2, if_neg (by omega)]
      omega
    · rw [if_neg (by omega), if_neg q2, if_neg (by omega)]
      omega
def own_f1 (c : Int32) : Int32 := if (¬ (c < (97 : Int32)) ∧ ¬ ((122 : Int32) < c)) ∨ (¬ (c < (65 : Int32)) ∧ ¬ ((90 : Int32) < c)) ∨ (¬ (c < (48 : Int32)) ∧ ¬ ((57 : Int32) < c)) then 1 else 0
theorem own_dig (c : Int32) (h0 : 0 ≤ c.toInt) (h1 : c.toInt < 65536) : ((c - (48 : Int32)) < (0 : Int32) ↔ c.toInt < 48) ∧ ((c - (48 : Int32)) < (10 : Int32) ↔ c.toInt < 58) := by
  rw [Int32.lt_iff_toInt_lt, Int32.lt_iff_toInt_lt]
  have k1 : (0 : Int32).toInt = 0 := by decide
  have k2 : (10 : Int32).toInt = 10 := by decide
  have k3 : (48 : Int32).toInt = 48 := by decide
  have e := c_isub c 48
  have r := rng32 (c - 48)
  rw [k3] at e
  rw [k1, k2]
  omega
theorem own_let (c : Int32) (h0 : 0 ≤ c.toInt) (h1 : c.toInt < 65536) : (((c ||| (32 : Int32)) - (97 : Int32)) < (0 : Int32) ↔ c.toInt + (if c.toInt / 32 % 2 = 0 then 32 else 0) < 97) ∧ (((c ||| (32 : Int32)) - (97 : Int32)) < (26 : Int32) ↔ c.toInt + (if c.toInt / 32 % 2 = 0 then 32 else 0) < 123) := by
  rw [Int32.lt_iff_toInt_lt, Int32.lt_iff_toInt_lt]
  have k1 : (0 : Int32).toInt = 0 := by decide
  have k2 : (26 : Int32).toInt = 26 := by decide
  have k3 : (97 : Int32).toInt = 97 := by decide
  have e := c_isub (c ||| (32 : Int32)) 97
  have r := rng32 ((c ||| (32 : Int32)) - 97)
  have o := own_or c
  rw [k3] at e
  rw [k1, k2]
  generalize ((c ||| (32 : Int32)) - 97).toInt = D at *
  generalize (c ||| (32 : Int32)).toInt = F at *
  by_cases q : c.toInt / 32 % 2 = 0
  · rw [if_pos q] at *
    omega
  · rw [if_neg q] at *
    omega
theorem own_f1_at (c : Int32) : own_f1 c = if (97 ≤ c.toInt ∧ c.toInt ≤ 122) ∨ (65 ≤ c.toInt ∧ c.toInt ≤ 90) ∨ (48 ≤ c.toInt ∧ c.toInt ≤ 57) then 1 else 0 := by
  have k1 : (97 : Int32).toInt = 97 := by decide
  have k2 : (122 : Int32).toInt = 122 := by decide
  have k3 : (65 : Int32).toInt = 65 := by decide
  have k4 : (90 : Int32).toInt = 90 := by decide
  have k5 : (48 : Int32).toInt = 48 := by decide
  have k6 : (57 : Int32).toInt = 57 := by decide
  unfold own_f1
  simp only [Int32.lt_iff_toInt_lt, k1, k2, k3, k4, k5, k6, Int.not_lt]
theorem own_1a (c : Int32) (r : 0 ≤ c.toInt ∧ c.toInt < 65536) (h9 : ¬ ((c - (48 : Int32)) < (0 : Int32))) (h15 : (c - (48 : Int32)) < (10 : Int32)) : own_f1 c = (1 : Int32) := by
  rw [(own_dig c r.1 r.2).1] at h9
  rw [(own_dig c r.1 r.2).2] at h15
  rw [own_f1_at, if_pos (by omega)]
theorem own_1b (c : Int32) (r : 0 ≤ c.toInt ∧ c.toInt < 65536) (h9 : ¬ (((c ||| (32 : Int32)) - (97 : Int32)) < (0 : Int32))) (h15 : ((c ||| (32 : Int32)) - (97 : Int32)) < (26 : Int32)) : own_f1 c = (1 : Int32) := by
  rw [(own_let c r.1 r.2).1] at h9
  rw [(own_let c r.1 r.2).2] at h15
  rw [own_f1_at]
  by_cases q : c.toInt / 32 % 2 = 0
  · rw [if_pos q] at h9 h15
    rw [if_pos (by omega)]
  · rw [if_neg q] at h9 h15
    rw [if_pos (by omega)]
theorem own_0 (c : Int32) (r : 0 ≤ c.toInt ∧ c.toInt < 65536) (hd : (c - (48 : Int32)) < (0 : Int32) ∨ ¬ ((c - (48 : Int32)) < (10 : Int32))) (hl : ((c ||| (32 : Int32)) - (97 : Int32)) < (0 : Int32) ∨ ¬ (((c ||| (32 : Int32)) - (97 : Int32)) < (26 : Int32))) : own_f1 c = (0 : Int32) := by
  rw [(own_dig c r.1 r.2).1, (own_dig c r.1 r.2).2] at hd
  rw [(own_let c r.1 r.2).1, (own_let c r.1 r.2).2] at hl
  rw [own_f1_at]
  by_cases q : c.toInt / 32 % 2 = 0
  · rw [if_pos q] at hl
    rw [if_neg (by omega)]
  · rw [if_neg q] at hl
    rw [if_neg (by omega)]
theorem d1_0 : decode prog_24_method_16_code 0 = .ok (.iload_n 0, 1) := by decide +kernel
theorem d1_1 : decode prog_24_method_16_code 1 = .ok (.bipush 97, 2) := by decide +kernel
theorem d1_3 : decode prog_24_method_16_code 3 = .ok (.if_icmp .lt 9, 3) := by decide +kernel
theorem d1_6 : decode prog_24_method_16_code 6 = .ok (.iload_n 0, 1) := by decide +kernel
theorem d1_7 : decode prog_24_method_16_code 7 = .ok (.bipush 122, 2) := by decide +kernel
theorem d1_9 : decode prog_24_method_16_code 9 = .ok (.if_icmp .le 27, 3) := by decide +kernel
theorem d1_12 : decode prog_24_method_16_code 12 = .ok (.iload_n 0, 1) := by decide +kernel
theorem d1_13 : decode prog_24_method_16_code 13 = .ok (.bipush 65, 2) := by decide +kernel
theorem d1_15 : decode prog_24_method_16_code 15 = .ok (.if_icmp .lt 9, 3) := by decide +kernel
theorem d1_18 : decode prog_24_method_16_code 18 = .ok (.iload_n 0, 1) := by decide +kernel
theorem d1_19 : decode prog_24_method_16_code 19 = .ok (.bipush 90, 2) := by decide +kernel
theorem d1_21 : decode prog_24_method_16_code 21 = .ok (.if_icmp .le 15, 3) := by decide +kernel
theorem d1_24 : decode prog_24_method_16_code 24 = .ok (.iload_n 0, 1) := by decide +kernel
theorem d1_25 : decode prog_24_method_16_code 25 = .ok (.bipush 48, 2) := by decide +kernel
theorem d1_27 : decode prog_24_method_16_code 27 = .ok (.if_icmp .lt 13, 3) := by decide +kernel
theorem d1_30 : decode prog_24_method_16_code 30 = .ok (.iload_n 0, 1) := by decide +kernel
theorem d1_31 : decode prog_24_method_16_code 31 = .ok (.bipush 57, 2) := by decide +kernel
theorem d1_33 : decode prog_24_method_16_code 33 = .ok (.if_icmp .gt 7, 3) := by decide +kernel
theorem d1_36 : decode prog_24_method_16_code 36 = .ok (.iconst 1, 1) := by decide +kernel
theorem d1_37 : decode prog_24_method_16_code 37 = .ok (.goto 4, 3) := by decide +kernel
theorem d1_40 : decode prog_24_method_16_code 40 = .ok (.iconst 0, 1) := by decide +kernel
theorem d1_41 : decode prog_24_method_16_code 41 = .ok (.ireturn, 1) := by decide +kernel
theorem pn_1 : plainName "com/example/usher/usher/Member" = true := by first | (simp [plainName, overriddenIn]; done) | decide +kernel
theorem ef_1 (m : MethodId) (x0 : Int32) : entryFrame m #[(.int x0)] 1 = mkF m 0 #[.val (.int x0)] [] := by first | (simp [entryFrame, mkF, argsToLocals, Value.category]; done) | rfl
def Q1 (Z : State) (p1 : Int32) (h0 : Heap) (n0 : Nat) (v : Option Value) (h : Heap) (L : List Loc) : Prop := v = some (.int (own_f1 p1)) ∧ Fr n0 L ∧ h = h0
set_option maxRecDepth 65536 in
set_option maxHeartbeats 40000000 in
theorem rm1 (l : Launch) (Z : State) (a0 : Array Value) (hw : ∀ d ∈ tables_1, d.before a0 Z = true) (ws : List Jvm.Cond) (p1 : Int32) (h0 : Heap) (n0 : Nat) (Z0 : n0 ≤ h0.size) :
    MetFree l (⟨"com/example/usher/usher/Member", "isLetterOrDigit", "(C)Z"⟩ : MethodName) (head1 (Jvm.Cond.code (⟨"com/example/usher/usher/Member", "isLetterOrDigit", "(C)Z"⟩ : MethodName) prog_24_method_16_code 1 (some .boolean) :: ws) ({ frames := 0, cells := 0, slots := 0, locals := 0 } : Room)) (fun a U => a = #[(.int p1)] ∧ Z.Warmed39 U.vm ∧ U.heap = h0) (fun _ _ _ _ _ => True) (fun _ U o U' => ∃ v L, o = .returned v ∧ Q1 Z p1 h0 n0 v U'.heap L ∧ FrameEnd U o U' L ({ frames := 0, cells := 0, slots := 0, locals := 0 } : Room).cells ({ frames := 0, cells := 0, slots := 0, locals := 0 } : Room).slots) := by
  refine MetFree.of_bodySF (plainFor_of_name pn_1) hisR ?_
  intro p e s m args below meth c s₁ Bd hml0 hP hK
  obtain ⟨rfl, hZ, hh⟩ := hP
  have hx := Bd.exec
  have hby := Bd.bytes
  have hml : c.maxLocals = 1 := hml0
  have hown : s.vm.findClass "com/example/usher/usher/Member" = some m.cls := findClass_of_methodNamed Bd.named
  have hnm := (name_of_methodNamed Bd.named Bd.method).1
  have X0 : Stand p l e ({ frames := 0, cells := 0, slots := 0, locals := 0 } : Room) s m #[(.int p1)] below meth c s₁ [] 0 0 := Stand.of_body Bd
  have e0 : s₁.heap = h0 := by rw [← hh, Bd.state]; rfl
  have N0 := Fr.nil n0
  have pre0 : ∀ t, Steps p.tables e below (s₁.setTop (mkF m 0 #[.val (.int p1)] [])) t → Steps p.tables e below (s₁.setTop (entryFrame m #[(.int p1)] 1)) t := fun t k => castTop (ef_1 m p1) k
  by_cases hc3 : p1 < (97 : Int32)
  · by_cases hc15 : p1 < (65 : Int32)
    · by_cases hc27 : p1 < (48 : Int32)
      · obtain ⟨fs, hr, hrun, hended, hW, hsame⟩ := X0.leave (v := some (.int (0 : Int32))) (fun h => by rw [Bd.returns] at h; cases h)
        refine ⟨_, _, pre0 _ ?_, hrun, hended, _, _, rfl, ?_, ⟨_, rfl⟩, hW, hsame.mono (by decide) (by decide)⟩
        · show Steps p.tables e below (s₁.setTop (mkF m 0 #[.val (.int p1)] [])) _
          refine XS.iloadN X0.here hx rfl (hb hby d1_0) rfl ?_
          show Steps p.tables e below (s₁.setTop (mkF m 1 #[.val (.int p1)] [(.int p1)])) _
          refine XS.bipush X0.here hx rfl (hb hby d1_1) ?_
          show Steps p.tables e below (s₁.setTop (mkF m 3 #[.val (.int p1)] [(.int (97 : Int32)), (.int p1)])) _
          refine XS.icmpYes X0.here hx rfl (pc0 := 3) (pc' := 12) rfl (hb hby d1_3) rfl (tlt hc3).1 (by decide) (by decide) ?_
          show Steps p.tables e below (s₁.setTop (mkF m 12 #[.val (.int p1)] [])) _
          refine XS.iloadN X0.here hx rfl (hb hby d1_12) rfl ?_
          show Steps p.tables e below (s₁.setTop (mkF m 13 #[.val (.int p1)] [(.int p1)])) _
          refine XS.bipush X0.here hx rfl (hb hby d1_13) ?_
          show Steps p.tables e below (s₁.setTop (mkF m 15 #[.val (.int p1)] [(.int (65 : Int32)), (.int p1)])) _
          refine XS.icmpYes X0.here hx rfl (pc0 := 15) (pc' := 24) rfl (hb hby d1_15) rfl (tlt hc15).1 (by decide) (by decide) ?_
          show Steps p.tables e below (s₁.setTop (mkF m 24 #[.val (.int p1)] [])) _
          refine XS.iloadN X0.here hx rfl (hb hby d1_24) rfl ?_
          show Steps p.tables e below (s₁.setTop (mkF m 25 #[.val (.int p1)] [(.int p1)])) _
          refine XS.bipush X0.here hx rfl (hb hby d1_25) ?_
          show Steps p.tables e below (s₁.setTop (mkF m 27 #[.val (.int p1)] [(.int (48 : Int32)), (.int p1)])) _
          refine XS.icmpYes X0.here hx rfl (pc0 := 27) (pc' := 40) rfl (hb hby d1_27) rfl (tlt hc27).1 (by decide) (by decide) ?_
          show Steps p.tables e below (s₁.setTop (mkF m 40 #[.val (.int p1)] [])) _
          refine XS.iconst X0.here hx rfl (hb hby d1_40) ?_
          show Steps p.tables e below (s₁.setTop (mkF m 41 #[.val (.int p1)] [(.int (0 : Int32))])) _
          exact retN X0 hx (t := .boolean) Bd.returns (by simp) (hb hby d1_41) hr
        · show Q1 Z p1 h0 n0 _ s₁.heap _
          rw [e0]
          exact ⟨(by simp [own_f1, hc3, hc15, hc27]), N0, rfl⟩
      · by_cases hc33 : (57 : Int32) < p1
        · obtain ⟨fs, hr, hrun, hended, hW, hsame⟩ := X0.leave (v := some (.int (0 : Int32))) (fun h => by rw [Bd.returns] at h; cases h)
          refine ⟨_, _, pre0 _ ?_, hrun, hended, _, _, rfl, ?_, ⟨_, rfl⟩, hW, hsame.mono (by decide) (by decide)⟩
          · show Steps p.tables e below (s₁.setTop (mkF m 0 #[.val (.int p1)] [])) _
            refine XS.iloadN X0.here hx rfl (hb hby d1_0) rfl ?_
            show Steps p.tables e below (s₁.setTop (mkF m 1 #[.val (.int p1)] [(.int p1)])) _
            refine XS.bipush X0.here hx rfl (hb hby d1_1) ?_
            show Steps p.tables e below (s₁.setTop (mkF m 3 #[.val (.int p1)] [(.int (97 : Int32)), (.int p1)])) _
            refine XS.icmpYes X0.here hx rfl (pc0 := 3) (pc' := 12) rfl (hb hby d1_3) rfl (tlt hc3).1 (by decide) (by decide) ?_
            show Steps p.tables e below (s₁.setTop (mkF m 12 #[.val (.int p1)] [])) _
            refine XS.iloadN X0.here hx rfl (hb hby d1_12) rfl ?_
            show Steps p.tables e below (s₁.setTop (mkF m 13 #[.val (.int p1)] [(.int p1)])) _
            refine XS.bipush X0.here hx rfl (hb hby d1_13) ?_
            show Steps p.tables e below (s₁.setTop (mkF m 15 #[.val (.int p1)] [(.int (65 : Int32)), (.int p1)])) _
            refine XS.icmpYes X0.here hx rfl (pc0 := 15) (pc' := 24) rfl (hb hby d1_15) rfl (tlt hc15).1 (by decide) (by decide) ?_
            show Steps p.tables e below (s₁.setTop (mkF m 24 #[.val (.int p1)] [])) _
            refine XS.iloadN X0.here hx rfl (hb hby d1_24) rfl ?_
            show Steps p.tables e below (s₁.setTop (mkF m 25 #[.val (.int p1)] [(.int p1)])) _
            refine XS.bipush X0.here hx rfl (hb hby d1_25) ?_
            show Steps p.tables e below (s₁.setTop (mkF m 27 #[.val (.int p1)] [(.int (48 : Int32)), (.int p1)])) _
            refine XS.icmpNo X0.here hx rfl (hb hby d1_27) rfl (flt hc27).1 ?_
            show Steps p.tables e below (s₁.setTop (mkF m 30 #[.val (.int p1)] [])) _
            refine XS.iloadN X0.here hx rfl (hb hby d1_30) rfl ?_
            show Steps p.tables e below (s₁.setTop (mkF m 31 #[.val (.int p1)] [(.int p1)])) _
            refine XS.bipush X0.here hx rfl (hb hby d1_31) ?_
            show Steps p.tables e below (s₁.setTop (mkF m 33 #[.val (.int p1)] [(.int (57 : Int32)), (.int p1)])) _
            refine XS.icmpYes X0.here hx rfl (pc0 := 33) (pc' := 40) rfl (hb hby d1_33) rfl (tlt hc33).2.2.1 (by decide) (by decide) ?_
            show Steps p.tables e below (s₁.setTop (mkF m 40 #[.val (.int p1)] [])) _
            refine XS.iconst X0.here hx rfl (hb hby d1_40) ?_
            show Steps p.tables e below (s₁.setTop (mkF m 41 #[.val (.int p1)] [(.int (0 : Int32))])) _
            exact retN X0 hx (t := .boolean) Bd.returns (by simp) (hb hby d1_41) hr
          · show Q1 Z p1 h0 n0 _ s₁.heap _
            rw [e0]
            exact ⟨(by simp [own_f1, hc3, hc15, hc27, hc33]), N0, rfl⟩
        · obtain ⟨fs, hr, hrun, hended, hW, hsame⟩ := X0.leave (v := some (.int (1 : Int32))) (fun h => by rw [Bd.returns] at h; cases h)
          refine ⟨_, _, pre0 _ ?_, hrun, hended, _, _, rfl, ?_, ⟨_, rfl⟩, hW, hsame.mono (by decide) (by decide)⟩
          · show Steps p.tables e below (s₁.setTop (mkF m 0 #[.val (.int p1)] [])) _
            refine XS.iloadN X0.here hx rfl (hb hby d1_0) rfl ?_
            show Steps p.tables e below (s₁.setTop (mkF m 1 #[.val (.int p1)] [(.int p1)])) _
            refine XS.bipush X0.here hx rfl (hb hby d1_1) ?_
            show Steps p.tables e below (s₁.setTop (mkF m 3 #[.val (.int p1)] [(.int (97 : Int32)), (.int p1)])) _
            refine XS.icmpYes X0.here hx rfl (pc0 := 3) (pc' := 12) rfl (hb hby d1_3) rfl (tlt hc3).1 (by decide) (by decide) ?_
            show Steps p.tables e below (s₁.setTop (mkF m 12 #[.val (.int p1)] [])) _
            refine XS.iloadN X0.here hx rfl (hb hby d1_12) rfl ?_
            show Steps p.tables e below (s₁.setTop (mkF m 13 #[.val (.int p1)] [(.int p1)])) _
            refine XS.bipush X0.here hx rfl (hb hby d1_13) ?_
            show Steps p.tables e below (s₁.setTop (mkF m 15 #[.val (.int p1)] [(.int (65 : Int32)), (.int p1)])) _
            refine XS.icmpYes X0.here hx rfl (pc0 := 15) (pc' := 24) rfl (hb hby d1_15) rfl (tlt hc15).1 (by decide) (by decide) ?_
            show Steps p.tables e below (s₁.setTop (mkF m 24 #[.val (.int p1)] [])) _
            refine XS.iloadN X0.here hx rfl (hb hby d1_24) rfl ?_
            show Steps p.tables e below (s₁.setTop (mkF m 25 #[.val (.int p1)] [(.int p1)])) _
            refine XS.bipush X0.here hx rfl (hb hby d1_25) ?_
            show Steps p.tables e below (s₁.setTop (mkF m 27 #[.val (.int p1)] [(.int (48 : Int32)), (.int p1)])) _
            refine XS.icmpNo X0.here hx rfl (hb hby d1_27) rfl (flt hc27).1 ?_
            show Steps p.tables e below (s₁.setTop (mkF m 30 #[.val (.int p1)] [])) _
            refine XS.iloadN X0.here hx rfl (hb hby d1_30) rfl ?_
            show Steps p.tables e below (s₁.setTop (mkF m 31 #[.val (.int p1)] [(.int p1)])) _
            refine XS.bipush X0.here hx rfl (hb hby d1_31) ?_
            show Steps p.tables e below (s₁.setTop (mkF m 33 #[.val (.int p1)] [(.int (57 : Int32)), (.int p1)])) _
            refine XS.icmpNo X0.here hx rfl (hb hby d1_33) rfl (flt hc33).2.2.1 ?_
            show Steps p.tables e below (s₁.setTop (mkF m 36 #[.val (.int p1)] [])) _
            refine XS.iconst X0.here hx rfl (hb hby d1_36) ?_
            show Steps p.tables e below (s₁.setTop (mkF m 37 #[.val (.int p1)] [(.int (1 : Int32))])) _
            refine XS.goto X0.here hx rfl (pc0 := 37) (pc' := 41) rfl (hb hby d1_37) (by decide) (by decide) ?_
            show Steps p.tables e below (s₁.setTop (mkF m 41 #[.val (.int p1)] [(.int (1 : Int32))])) _
            exact retN X0 hx (t := .boolean) Bd.returns (by simp) (hb hby d1_41) hr
          · show Q1 Z p1 h0 n0 _ s₁.heap _
            rw [e0]
            exact ⟨(by simp [own_f1, hc3, hc15, hc27, hc33]), N0, rfl⟩
    · by_cases hc21 : (90 : Int32) < p1
      · by_cases hc27 : p1 < (48 : Int32)
        · obtain ⟨fs, hr, hrun, hended, hW, hsame⟩ := X0.leave (v := some (.int (0 : Int32))) (fun h => by rw [Bd.returns] at h; cases h)
          refine ⟨_, _, pre0 _ ?_, hrun, hended, _, _, rfl, ?_, ⟨_, rfl⟩, hW, hsame.mono (by decide) (by decide)⟩
          · show Steps p.tables e below (s₁.setTop (mkF m 0 #[.val (.int p1)] [])) _
            refine XS.iloadN X0.here hx rfl (hb hby d1_0) rfl ?_
            show Steps p.tables e below (s₁.setTop (mkF m 1 #[.val (.int p1)] [(.int p1)])) _
            refine XS.bipush X0.here hx rfl (hb hby d1_1) ?_
            show Steps p.tables e below (s₁.setTop (mkF m 3 #[.val (.int p1)] [(.int (97 : Int32)), (.int p1)])) _
            refine XS.icmpYes X0.here hx rfl (pc0 := 3) (pc' := 12) rfl (hb hby d1_3) rfl (tlt hc3).1 (by decide) (by decide) ?_
            show Steps p.tables e below (s₁.setTop (mkF m 12 #[.val (.int p1)] [])) _
            refine XS.iloadN X0.here hx rfl (hb hby d1_12) rfl ?_
            show Steps p.tables e below (s₁.setTop (mkF m 13 #[.val (.int p1)] [(.int p1)])) _
            refine XS.bipush X0.here hx rfl (hb hby d1_13) ?_
            show Steps p.tables e below (s₁.setTop (mkF m 15 #[.val (.int p1)] [(.int (65 : Int32)), (.int p1)])) _
            refine XS.icmpNo X0.here hx rfl (hb hby d1_15) rfl (flt hc15).1 ?_
            show Steps p.tables e below (s₁.setTop (mkF m 18 #[.val (.int p1)] [])) _
            refine XS.iloadN X0.here hx rfl (hb hby d1_18) rfl ?_
            show Steps p.tables e below (s₁.setTop (mkF m 19 #[.val (.int p1)] [(.int p1)])) _
            refine XS.bipush X0.here hx rfl (hb hby d1_19) ?_
            show Steps p.tables e below (s₁.setTop (mkF m 21 #[.val (.int p1)] [(.int (90 : Int32)), (.int p1)])) _
            refine XS.icmpNo X0.here hx rfl (hb hby d1_21) rfl (tlt hc21).2.2.2 ?_
            show Steps p.tables e below (s₁.setTop (mkF m 24 #[.val (.int p1)] [])) _
            refine XS.iloadN X0.here hx rfl (hb hby d1_24) rfl ?_
            show Steps p.tables e below (s₁.setTop (mkF m 25 #[.val (.int p1)] [(.int p1)])) _
            refine XS.bipush X0.here hx rfl (hb hby d1_25) ?_
            show Steps p.tables e below (s₁.setTop (mkF m 27 #[.val (.int p1)] [(.int (48 : Int32)), (.int p1)])) _
            refine XS.icmpYes X0.here hx rfl (pc0 := 27) (pc' := 40) rfl (hb hby d1_27) rfl (tlt hc27).1 (by decide) (by decide) ?_
            show Steps p.tables e below (s₁.setTop (mkF m 40 #[.val (.int p1)] [])) _
            refine XS.iconst X0.here hx rfl (hb hby d1_40) ?_
            show Steps p.tables e below (s₁.setTop (mkF m 41 #[.val (.int p1)] [(.int (0 : Int32))])) _
            exact retN X0 hx (t := .boolean) Bd.returns (by simp) (hb hby d1_41) hr
          · show Q1 Z p1 h0 n0 _ s₁.heap _
            rw [e0]
            exact ⟨(by simp [own_f1, hc3, hc15, hc21, hc27]), N0, rfl⟩
        · by_cases hc33 : (57 : Int32) < p1
          · obtain ⟨fs, hr, hrun, hended, hW, hsame⟩ := X0.leave (v := some (.int (0 : Int32))) (fun h => by rw [Bd.returns] at h; cases h)
            refine ⟨_, _, pre0 _ ?_, hrun, hended, _, _, rfl, ?_, ⟨_, rfl⟩, hW, hsame.mono (by decide) (by decide)⟩
            · show Steps p.tables e below (s₁.setTop (mkF m 0 #[.val (.int p1)] [])) _
              refine XS.iloadN X0.here hx rfl (hb hby d1_0) rfl ?_
              show Steps p.tables e below (s₁.setTop (mkF m 1 #[.val (.int p1)] [(.int p1)])) _
              refine XS.bipush X0.here hx rfl (hb hby d1_1) ?_
              show Steps p.tables e below (s₁.setTop (mkF m 3 #[.val (.int p1)] [(.int (97 : Int32)), (.int p1)])) _
              refine XS.icmpYes X0.here hx rfl (pc0 := 3) (pc' := 12) rfl (hb hby d1_3) rfl (tlt hc3).1 (by decide) (by decide) ?_
              show Steps p.tables e below (s₁.setTop (mkF m 12 #[.val (.int p1)] [])) _
              refine XS.iloadN X0.here hx rfl (hb hby d1_12) rfl ?_
              show Steps p.tables e below (s₁.setTop (mkF m 13 #[.val (.int p1)] [(.int p1)])) _
              refine XS.bipush X0.here hx rfl (hb hby d1_13) ?_
              show Steps p.tables e below (s₁.setTop (mkF m 15 #[.val (.int p1)] [(.int (65 : Int32)), (.int p1)])) _
              refine XS.icmpNo X0.here hx rfl (hb hby d1_15) rfl (flt hc15).1 ?_
              show Steps p.tables e below (s₁.setTop (mkF m 18 #[.val (.int p1)] [])) _
              refine XS.iloadN X0.here hx rfl (hb hby d1_18) rfl ?_
              show Steps p.tables e below (s₁.setTop (mkF m 19 #[.val (.int p1)] [(.int p1)])) _
              refine XS.bipush X0.here hx rfl (hb hby d1_19) ?_
              show Steps p.tables e below (s₁.setTop (mkF m 21 #[.val (.int p1)] [(.int (90 : Int32)), (.int p1)])) _
              refine XS.icmpNo X0.here hx rfl (hb hby d1_21) rfl (tlt hc21).2.2.2 ?_
              show Steps p.tables e below (s₁.setTop (mkF m 24 #[.val (.int p1)] [])) _
              refine XS.iloadN X0.here hx rfl (hb hby d1_24) rfl ?_
              show Steps p.tables e below (s₁.setTop (mkF m 25 #[.val (.int p1)] [(.int p1)])) _
              refine XS.bipush X0.here hx rfl (hb hby d1_25) ?_
              show Steps p.tables e below (s₁.setTop (mkF m 27 #[.val (.int p1)] [(.int (48 : Int32)), (.int p1)])) _
              refine XS.icmpNo X0.here hx rfl (hb hby d1_27) rfl (flt hc27).1 ?_
              show Steps p.tables e below (s₁.setTop (mkF m 30 #[.val (.int p1)] [])) _
              refine XS.iloadN X0.here hx rfl (hb hby d1_30) rfl ?_
              show Steps p.tables e below (s₁.setTop (mkF m 31 #[.val (.int p1)] [(.int p1)])) _
              refine XS.bipush X0.here hx rfl (hb hby d1_31) ?_
              show Steps p.tables e below (s₁.setTop (mkF m 33 #[.val (.int p1)] [(.int (57 : Int32)), (.int p1)])) _
              refine XS.icmpYes X0.here hx rfl (pc0 := 33) (pc' := 40) rfl (hb hby d1_33) rfl (tlt hc33).2.2.1 (by decide) (by decide) ?_
              show Steps p.tables e below (s₁.setTop (mkF m 40 #[.val (.int p1)] [])) _
              refine XS.iconst X0.here hx rfl (hb hby d1_40) ?_
              show Steps p.tables e below (s₁.setTop (mkF m 41 #[.val (.int p1)] [(.int (0 : Int32))])) _
              exact retN X0 hx (t := .boolean) Bd.returns (by simp) (hb hby d1_41) hr
            · show Q1 Z p1 h0 n0 _ s₁.heap _
              rw [e0]
              exact ⟨(by simp [own_f1, hc3, hc15, hc21, hc27, hc33]), N0, rfl⟩
          · obtain ⟨fs, hr, hrun, hended, hW, hsame⟩ := X0.leave (v := some (.int (1 : Int32))) (fun h => by rw [Bd.returns] at h; cases h)
            refine ⟨_, _, pre0 _ ?_, hrun, hended, _, _, rfl, ?_, ⟨_, rfl⟩, hW, hsame.mono (by decide) (by decide)⟩
            · show Steps p.tables e below (s₁.setTop (mkF m 0 #[.val (.int p1)] [])) _
              refine XS.iloadN X0.here hx rfl (hb hby d1_0) rfl ?_
              show Steps p.tables e below (s₁.setTop (mkF m 1 #[.val (.int p1)] [(.int p1)])) _
              refine XS.bipush X0.here hx rfl (hb hby d1_1) ?_
              show Steps p.tables e below (s₁.setTop (mkF m 3 #[.val (.int p1)] [(.int (97 : Int32)), (.int p1)])) _
              refine XS.icmpYes X0.here hx rfl (pc0 := 3) (pc' := 12) rfl (hb hby d1_3) rfl (tlt hc3).1 (by decide) (by decide) ?_
              show Steps p.tables e below (s₁.setTop (mkF m 12 #[.val (.int p1)] [])) _
              refine XS.iloadN X0.here hx rfl (hb hby d1_12) rfl ?_
              show Steps p.tables e below (s₁.setTop (mkF m 13 #[.val (.int p1)] [(.int p1)])) _
              refine XS.bipush X0.here hx rfl (hb hby d1_13) ?_
              show Steps p.tables e below (s₁.setTop (mkF m 15 #[.val (.int p1)] [(.int (65 : Int32)), (.int p1)])) _
              refine XS.icmpNo X0.here hx rfl (hb hby d1_15) rfl (flt hc15).1 ?_
              show Steps p.tables e below (s₁.setTop (mkF m 18 #[.val (.int p1)] [])) _
              refine XS.iloadN X0.here hx rfl (hb hby d1_18) rfl ?_
              show Steps p.tables e below (s₁.setTop (mkF m 19 #[.val (.int p1)] [(.int p1)])) _
              refine XS.bipush X0.here hx rfl (hb hby d1_19) ?_
              show Steps p.tables e below (s₁.setTop (mkF m 21 #[.val (.int p1)] [(.int (90 : Int32)), (.int p1)])) _
              refine XS.icmpNo X0.here hx rfl (hb hby d1_21) rfl (tlt hc21).2.2.2 ?_
              show Steps p.tables e below (s₁.setTop (mkF m 24 #[.val (.int p1)] [])) _
              refine XS.iloadN X0.here hx rfl (hb hby d1_24) rfl ?_
              show Steps p.tables e below (s₁.setTop (mkF m 25 #[.val (.int p1)] [(.int p1)])) _
              refine XS.bipush X0.here hx rfl (hb hby d1_25) ?_
              show Steps p.tables e below (s₁.setTop (mkF m 27 #[.val (.int p1)] [(.int (48 : Int32)), (.int p1)])) _
              refine XS.icmpNo X0.here hx rfl (hb hby d1_27) rfl (flt hc27).1 ?_
              show Steps p.tables e below (s₁.setTop (mkF m 30 #[.val (.int p1)] [])) _
              refine XS.iloadN X0.here hx rfl (hb hby d1_30) rfl ?_
              show Steps p.tables e below (s₁.setTop (mkF m 31 #[.val (.int p1)] [(.int p1)])) _
              refine XS.bipush X0.here hx rfl (hb hby d1_31) ?_
              show Steps p.tables e below (s₁.setTop (mkF m 33 #[.val (.int p1)] [(.int (57 : Int32)), (.int p1)])) _
              refine XS.icmpNo X0.here hx rfl (hb hby d1_33) rfl (flt hc33).2.2.1 ?_
              show Steps p.tables e below (s₁.setTop (mkF m 36 #[.val (.int p1)] [])) _
              refine XS.iconst X0.here hx rfl (hb hby d1_36) ?_
              show Steps p.tables e below (s₁.setTop (mkF m 37 #[.val (.int p1)] [(.int (1 : Int32))])) _
              refine XS.goto X0.here hx rfl (pc0 := 37) (pc' := 41) rfl (hb hby d1_37) (by decide) (by decide) ?_
              show Steps p.tables e below (s₁.setTop (mkF m 41 #[.val (.int p1)] [(.int (1 : Int32))])) _
              exact retN X0 hx (t := .boolean) Bd.returns (by simp) (hb hby d1_41) hr
            · show Q1 Z p1 h0 n0 _ s₁.heap _
              rw [e0]
              exact ⟨(by simp [own_f1, hc3, hc15, hc21, hc27, hc33]), N0, rfl⟩
      · obtain ⟨fs, hr, hrun, hended, hW, hsame⟩ := X0.leave (v := some (.int (1 : Int32))) (fun h => by rw [Bd.returns] at h; cases h)
        refine ⟨_, _, pre0 _ ?_, hrun, hended, _, _, rfl, ?_, ⟨_, rfl⟩, hW, hsame.mono (by decide) (by decide)⟩
        · show Steps p.tables e below (s₁.setTop (mkF m 0 #[.val (.int p1)] [])) _
          refine XS.iloadN X0.here hx rfl (hb hby d1_0) rfl ?_
          show Steps p.tables e below (s₁.setTop (mkF m 1 #[.val (.int p1)] [(.int p1)])) _
          refine XS.bipush X0.here hx rfl (hb hby d1_1) ?_
          show Steps p.tables e below (s₁.setTop (mkF m 3 #[.val (.int p1)] [(.int (97 : Int32)), (.int p1)])) _
          refine XS.icmpYes X0.here hx rfl (pc0 := 3) (pc' := 12) rfl (hb hby d1_3) rfl (tlt hc3).1 (by decide) (by decide) ?_
          show Steps p.tables e below (s₁.setTop (mkF m 12 #[.val (.int p1)] [])) _
          refine XS.iloadN X0.here hx rfl (hb hby d1_12) rfl ?_
          show Steps p.tables e below (s₁.setTop (mkF m 13 #[.val (.int p1)] [(.int p1)])) _
          refine XS.bipush X0.here hx rfl (hb hby d1_13) ?_
          show Steps p.tables e below (s₁.setTop (mkF m 15 #[.val (.int p1)] [(.int (65 : Int32)), (.int p1)])) _
          refine XS.icmpNo X0.here hx rfl (hb hby d1_15) rfl (flt hc15).1 ?_
          show Steps p.tables e below (s₁.setTop (mkF m 18 #[.val (.int p1)] [])) _
          refine XS.iloadN X0.here hx rfl (hb hby d1_18) rfl ?_
          show Steps p.tables e below (s₁.setTop (mkF m 19 #[.val (.int p1)] [(.int p1)])) _
          refine XS.bipush X0.here hx rfl (hb hby d1_19) ?_
          show Steps p.tables e below (s₁.setTop (mkF m 21 #[.val (.int p1)] [(.int (90 : Int32)), (.int p1)])) _
          refine XS.icmpYes X0.here hx rfl (pc0 := 21) (pc' := 36) rfl (hb hby d1_21) rfl (flt hc21).2.2.2 (by decide) (by decide) ?_
          show Steps p.tables e below (s₁.setTop (mkF m 36 #[.val (.int p1)] [])) _
          refine XS.iconst X0.here hx rfl (hb hby d1_36) ?_
          show Steps p.tables e below (s₁.setTop (mkF m 37 #[.val (.int p1)] [(.int (1 : Int32))])) _
          refine XS.goto X0.here hx rfl (pc0 := 37) (pc' := 41) rfl (hb hby d1_37) (by decide) (by decide) ?_
          show Steps p.tables e below (s₁.setTop (mkF m 41 #[.val (.int p1)] [(.int (1 : Int32))])) _
          exact retN X0 hx (t := .boolean) Bd.returns (by simp) (hb hby d1_41) hr
        · show Q1 Z p1 h0 n0 _ s₁.heap _
          rw [e0]
          exact ⟨(by simp [own_f1, hc3, hc15, hc21]), N0, rfl⟩
  · by_cases hc9 : (122 : Int32) < p1
    · by_cases hc15 : p1 < (65 : Int32)
      · by_cases hc27 : p1 < (48 : Int32)
        · obtain ⟨fs, hr, hrun, hended, hW, hsame⟩ := X0.leave (v := some (.int (0 : Int32))) (fun h => by rw [Bd.returns] at h; cases h)
          refine ⟨_, _, pre0 _ ?_, hrun, hended, _, _, rfl, ?_, ⟨_, rfl⟩, hW, hsame.mono (by decide) (by decide)⟩
          · show Steps p.tables e below (s₁.setTop (mkF m 0 #[.val (.int p1)] [])) _
            refine XS.iloadN X0.here hx rfl (hb hby d1_0) rfl ?_
            show Steps p.tables e below (s₁.setTop (mkF m 1 #[.val (.int p1)] [(.int p1)])) _
            refine XS.bipush X0.here hx rfl (hb hby d1_1) ?_
            show Steps p.tables e below (s₁.setTop (mkF m 3 #[.val (.int p1)] [(.int (97 : Int32)), (.int p1)])) _
            refine XS.icmpNo X0.here hx rfl (hb hby d1_3) rfl (flt hc3).1 ?_
            show Steps p.tables e below (s₁.setTop (mkF m 6 #[.val (.int p1)] [])) _
            refine XS.iloadN X0.here hx rfl (hb hby d1_6) rfl ?_
            show Steps p.tables e below (s₁.setTop (mkF m 7 #[.val (.int p1)] [(.int p1)])) _
            refine XS.bipush X0.here hx rfl (hb hby d1_7) ?_
            show Steps p.tables e below (s₁.setTop (mkF m 9 #[.val (.int p1)] [(.int (122 : Int32)), (.int p1)])) _
            refine XS.icmpNo X0.here hx rfl (hb hby d1_9) rfl (tlt hc9).2.2.2 ?_
            show Steps p.tables e below (s₁.setTop (mkF m 12 #[.val (.int p1)] [])) _
            refine XS.iloadN X0.here hx rfl (hb hby d1_12) rfl ?_
            show Steps p.tables e below (s₁.setTop (mkF m 13 #[.val (.int p1)] [(.int p1)])) _
            refine XS.bipush X0.here hx rfl (hb hby d1_13) ?_
            show Steps p.tables e below (s₁.setTop (mkF m 15 #[.val (.int p1)] [(.int (65 : Int32)), (.int p1)])) _
            refine XS.icmpYes X0.here hx rfl (pc0 := 15) (pc' := 24) rfl (hb hby d1_15) rfl (tlt hc15).1 (by decide) (by decide) ?_
            show Steps p.tables e below (s₁.setTop (mkF m 24 #[.val (.int p1)] [])) _
            refine XS.iloadN X0.here hx rfl (hb hby d1_24) rfl ?_
            show Steps p.tables e below (s₁.setTop (mkF m 25 #[.val (.int p1)] [(.int p1)])) _
            refine XS.bipush X0.here hx rfl (hb hby d1_25) ?_
            show Steps p.tables e below (s₁.setTop (mkF m 27 #[.val (.int p1)] [(.int (48 : Int32)), (.int p1)])) _
            refine XS.icmpYes X0.here hx rfl (pc0 := 27) (pc' := 40) rfl (hb hby d1_27) rfl (tlt hc27).1 (by decide) (by decide) ?_
            show Steps p.tables e below (s₁.setTop (mkF m 40 #[.val (.int p1)] [])) _
            refine XS.iconst X0.here hx rfl (hb hby d1_40) ?_
            show Steps p.tables e below (s₁.setTop (mkF m 41 #[.val (.int p1)] [(.int (0 : Int32))])) _
            exact retN X0 hx (t := .boolean) Bd.returns (by simp) (hb hby d1_41) hr
          · show Q1 Z p1 h0 n0 _ s₁.heap _
            rw [e0]
            exact ⟨(by simp [own_f1, hc3, hc9, hc15, hc27]), N0, rfl⟩
        · by_cases hc33 : (57 : Int32) < p1
          · obtain ⟨fs, hr, hrun, hended, hW, hsame⟩ := X0.leave (v := some (.int (0 : Int32))) (fun h => by rw [Bd.returns] at h; cases h)
            refine ⟨_, _, pre0 _ ?_, hrun, hended, _, _, rfl, ?_, ⟨_, rfl⟩, hW, hsame.mono (by decide) (by decide)⟩
            · show Steps p.tables e below (s₁.setTop (mkF m 0 #[.val (.int p1)] [])) _
              refine XS.iloadN X0.here hx rfl (hb hby d1_0) rfl ?_
              show Steps p.tables e below (s₁.setTop (mkF m 1 #[.val (.int p1)] [(.int p1)])) _
              refine XS.bipush X0.here hx rfl (hb hby d1_1) ?_
              show Steps p.tables e below (s₁.setTop (mkF m 3 #[.val (.int p1)] [(.int (97 : Int32)), (.int p1)])) _
              refine XS.icmpNo X0.here hx rfl (hb hby d1_3) rfl (flt hc3).1 ?_
              show Steps p.tables e below (s₁.setTop (mkF m 6 #[.val (.int p1)] [])) _
              refine XS.iloadN X0.here hx rfl (hb hby d1_6) rfl ?_
              show Steps p.tables e below (s₁.setTop (mkF m 7 #[.val (.int p1)] [(.int p1)])) _
              refine XS.bipush X0.here hx rfl (hb hby d1_7) ?_
              show Steps p.tables e below (s₁.setTop (mkF m 9 #[.val (.int p1)] [(.int (122 : Int32)), (.int p1)])) _
              refine XS.icmpNo X0.here hx rfl (hb hby d1_9) rfl (tlt hc9).2.2.2 ?_
              show Steps p.tables e below (s₁.setTop (mkF m 12 #[.val (.int p1)] [])) _
              refine XS.iloadN X0.here hx rfl (hb hby d1_12) rfl ?_
              show Steps p.tables e below (s₁.setTop (mkF m 13 #[.val (.int p1)] [(.int p1)])) _
              refine XS.bipush X0.here hx rfl (hb hby d1_13) ?_
              show Steps p.tables e below (s₁.setTop (mkF m 15 #[.val (.int p1)] [(.int (65 : Int32)), (.int p1)])) _
              refine XS.icmpYes X0.here hx rfl (pc0 := 15) (pc' := 24) rfl (hb hby d1_15) rfl (tlt hc15).1 (by decide) (by decide) ?_
              show Steps p.tables e below (s₁.setTop (mkF m 24 #[.val (.int p1)] [])) _
              refine XS.iloadN X0.here hx rfl (hb hby d1_24) rfl ?_
              show Steps p.tables e below (s₁.setTop (mkF m 25 #[.val (.int p1)] [(.int p1)])) _
              refine XS.bipush X0.here hx rfl (hb hby d1_25) ?_
              show Steps p.tables e below (s₁.setTop (mkF m 27 #[.val (.int p1)] [(.int (48 : Int32)), (.int p1)])) _
              refine XS.icmpNo X0.here hx rfl (hb hby d1_27) rfl (flt hc27).1 ?_
              show Steps p.tables e below (s₁.setTop (mkF m 30 #[.val (.int p1)] [])) _
              refine XS.iloadN X0.here hx rfl (hb hby d1_30) rfl ?_
              show Steps p.tables e below (s₁.setTop (mkF m 31 #[.val (.int p1)] [(.int p1)])) _
              refine XS.bipush X0.here hx rfl (hb hby d1_31) ?_
              show Steps p.tables e below (s₁.setTop (mkF m 33 #[.val (.int p1)] [(.int (57 : Int32)), (.int p1)])) _
              refine XS.icmpYes X0.here hx rfl (pc0 := 33) (pc' := 40) rfl (hb hby d1_33) rfl (tlt hc33).2.2.1 (by decide) (by decide) ?_
              show Steps p.tables e below (s₁.setTop (mkF m 40 #[.val (.int p1)] [])) _
              refine XS.iconst X0.here hx rfl (hb hby d1_40) ?_
              show Steps p.tables e below (s₁.setTop (mkF m 41 #[.val (.int p1)] [(.int (0 : Int32))])) _
              exact retN X0 hx (t := .boolean) Bd.returns (by simp) (hb hby d1_41) hr
            · show Q1 Z p1 h0 n0 _ s₁.heap _
              rw [e0]
              exact ⟨(by simp [own_f1, hc3, hc9, hc15, hc27, hc33]), N0, rfl⟩
          · obtain ⟨fs, hr, hrun, hended, hW, hsame⟩ := X0.leave (v := some (.int (1 : Int32))) (fun h => by rw [Bd.returns] at h; cases h)
            refine ⟨_, _, pre0 _ ?_, hrun, hended, _, _, rfl, ?_, ⟨_, rfl⟩, hW, hsame.mono (by decide) (by decide)⟩
            · show Steps p.tables e below (s₁.setTop (mkF m 0 #[.val (.int p1)] [])) _
              refine XS.iloadN X0.here hx rfl (hb hby d1_0) rfl ?_
              show Steps p.tables e below (s₁.setTop (mkF m 1 #[.val (.int p1)] [(.int p1)])) _
              refine XS.bipush X0.here hx rfl (hb hby d1_1) ?_
              show Steps p.tables e below (s₁.setTop (mkF m 3 #[.val (.int p1)] [(.int (97 : Int32)), (.int p1)])) _
              refine XS.icmpNo X0.here hx rfl (hb hby d1_3) rfl (flt hc3).1 ?_
              show Steps p.tables e below (s₁.setTop (mkF m 6 #[.val (.int p1)] [])) _
              refine XS.iloadN X0.here hx rfl (hb hby d1_6) rfl ?_
              show Steps p.tables e below (s₁.setTop (mkF m 7 #[.val (.int p1)] [(.int p1)])) _
              refine XS.bipush X0.here hx rfl (hb hby d1_7) ?_
              show Steps p.tables e below (s₁.setTop (mkF m 9 #[.val (.int p1)] [(.int (122 : Int32)), (.int p1)])) _
              refine XS.icmpNo X0.here hx rfl (hb hby d1_9) rfl (tlt hc9).2.2.2 ?_
              show Steps p.tables e below (s₁.setTop (mkF m 12 #[.val (.int p1)] [])) _
              refine XS.iloadN X0.here hx rfl (hb hby d1_12) rfl ?_
              show Steps p.tables e below (s₁.setTop (mkF m 13 #[.val (.int p1)] [(.int p1)])) _
              refine XS.bipush X0.here hx rfl (hb hby d1_13) ?_
              show Steps p.tables e below (s₁.setTop (mkF m 15 #[.val (.int p1)] [(.int (65 : Int32)), (.int p1)])) _
              refine XS.icmpYes X0.here hx rfl (pc0 := 15) (pc' := 24) rfl (hb hby d1_15) rfl (tlt hc15).1 (by decide) (by decide) ?_
              show Steps p.tables e below (s₁.setTop (mkF m 24 #[.val (.int p1)] [])) _
              refine XS.iloadN X0.here hx rfl (hb hby d1_24) rfl ?_
              show Steps p.tables e below (s₁.setTop (mkF m 25 #[.val (.int p1)] [(.int p1)])) _
              refine XS.bipush X0.here hx rfl (hb hby d1_25) ?_
              show Steps p.tables e below (s₁.setTop (mkF m 27 #[.val (.int p1)] [(.int (48 : Int32)), (.int p1)])) _
              refine XS.icmpNo X0.here hx rfl (hb hby d1_27) rfl (flt hc27).1 ?_
              show Steps p.tables e below (s₁.setTop (mkF m 30 #[.val (.int p1)] [])) _
              refine XS.iloadN X0.here hx rfl (hb hby d1_30) rfl ?_
              show Steps p.tables e below (s₁.setTop (mkF m 31 #[.val (.int p1)] [(.int p1)])) _
              refine XS.bipush X0.here hx rfl (hb hby d1_31) ?_
              show Steps p.tables e below (s₁.setTop (mkF m 33 #[.val (.int p1)] [(.int (57 : Int32)), (.int p1)])) _
              refine XS.icmpNo X0.here hx rfl (hb hby d1_33) rfl (flt hc33).2.2.1 ?_
              show Steps p.tables e below (s₁.setTop (mkF m 36 #[.val (.int p1)] [])) _
              refine XS.iconst X0.here hx rfl (hb hby d1_36) ?_
              show Steps p.tables e below (s₁.setTop (mkF m 37 #[.val (.int p1)] [(.int (1 : Int32))])) _
              refine XS.goto X0.here hx rfl (pc0 := 37) (pc' := 41) rfl (hb hby d1_37) (by decide) (by decide) ?_
              show Steps p.tables e below (s₁.setTop (mkF m 41 #[.val (.int p1)] [(.int (1 : Int32))])) _
              exact retN X0 hx (t := .boolean) Bd.returns (by simp) (hb hby d1_41) hr
            · show Q1 Z p1 h0 n0 _ s₁.heap _
              rw [e0]
              exact ⟨(by simp [own_f1, hc3, hc9, hc15, hc27, hc33]), N0, rfl⟩
      · by_cases hc21 : (90 : Int32) < p1
        · by_cases hc27 : p1 < (48 : Int32)
          · obtain ⟨fs, hr, hrun, hended, hW, hsame⟩ := X0.leave (v := some (.int (0 : Int32))) (fun h => by rw [Bd.returns] at h; cases h)
            refine ⟨_, _, pre0 _ ?_, hrun, hended, _, _, rfl, ?_, ⟨_, rfl⟩, hW, hsame.mono (by decide) (by decide)⟩
            · show Steps p.tables e below (s₁.setTop (mkF m 0 #[.val (.int p1)] [])) _
              refine XS.iloadN X0.here hx rfl (hb hby d1_0) rfl ?_
              show Steps p.tables e below (s₁.setTop (mkF m 1 #[.val (.int p1)] [(.int p1)])) _
              refine XS.bipush X0.here hx rfl (hb hby d1_1) ?_
              show Steps p.tables e below (s₁.setTop (mkF m 3 #[.val (.int p1)] [(.int (97 : Int32)), (.int p1)])) _
              refine XS.icmpNo X0.here hx rfl (hb hby d1_3) rfl (flt hc3).1 ?_
              show Steps p.tables e below (s₁.setTop (mkF m 6 #[.val (.int p1)] [])) _
              refine XS.iloadN X0.here hx rfl (hb hby d1_6) rfl ?_
              show Steps p.tables e below (s₁.setTop (mkF m 7 #[.val (.int p1)] [(.int p1)])) _
              refine XS.bipush X0.here hx rfl (hb hby d1_7) ?_
              show Steps p.tables e below (s₁.setTop (mkF m 9 #[.val (.int p1)] [(.int (122 : Int32)), (.int p1)])) _
              refine XS.icmpNo X0.here hx rfl (hb hby d1_9) rfl (tlt hc9).2.2.2 ?_
              show Steps p.tables e below (s₁.setTop (mkF m 12 #[.val (.int p1)] [])) _
              refine XS.iloadN X0.here hx rfl (hb hby d1_12) rfl ?_
              show Steps p.tables e below (s₁.setTop (mkF m 13 #[.val (.int p1)] [(.int p1)])) _
              refine XS.bipush X0.here hx rfl (hb hby d1_13) ?_
              show Steps p.tables e below (s₁.setTop (mkF m 15 #[.val (.int p1)] [(.int (65 : Int32)), (.int p1)])) _
              refine XS.icmpNo X0.here hx rfl (hb hby d1_15) rfl (flt hc15).1 ?_
              show Steps p.tables e below (s₁.setTop (mkF m 18 #[.val (.int p1)] [])) _
              refine XS.iloadN X0.here hx rfl (hb hby d1_18) rfl ?_
              show Steps p.tables e below (s₁.setTop (mkF m 19 #[.val (.int p1)] [(.int p1)])) _
              refine XS.bipush X0.here hx rfl (hb hby d1_19) ?_
              show Steps p.tables e below (s₁.setTop (mkF m 21 #[.val (.int p1)] [(.int (90 : Int32)), (.int p1)])) _
              refine XS.icmpNo X0.here hx rfl (hb hby d1_21) rfl (tlt hc21).2.2.2 ?_
              show Steps p.tables e below (s₁.setTop (mkF m 24 #[.val (.int p1)] [])) _
              refine XS.iloadN X0.here hx rfl (hb hby d1_24) rfl ?_
              show Steps p.tables e below (s₁.setTop (mkF m 25 #[.val (.int p1)] [(.int p1)])) _
              refine XS.bipush X0.here hx rfl (hb hby d1_25) ?_
              show Steps p.tables e below (s₁.setTop (mkF m 27 #[.val (.int p1)] [(.int (48 : Int32)), (.int p1)])) _
              refine XS.icmpYes X0.here hx rfl (pc0 := 27) (pc' := 40) rfl (hb hby d1_27) rfl (tlt hc27).1 (by decide) (by decide) ?_
              show Steps p.tables e below (s₁.setTop (mkF m 40 #[.val (.int p1)] [])) _
              refine XS.iconst X0.here hx rfl (hb hby d1_40) ?_
              show Steps p.tables e below (s₁.setTop (mkF m 41 #[.val (.int p1)] [(.int (0 : Int32))])) _
              exact retN X0 hx (t := .boolean) Bd.returns (by simp) (hb hby d1_41) hr
            · show Q1 Z p1 h0 n0 _ s₁.heap _
              rw [e0]
              exact ⟨(by simp [own_f1, hc3, hc9, hc15, hc21, hc27]), N0, rfl⟩
          · by_cases hc33 : (57 : Int32) < p1
            · obtain ⟨fs, hr, hrun, hended, hW, hsame⟩ := X0.leave (v := some (.int (0 : Int32))) (fun h => by rw [Bd.returns] at h; cases h)
              refine ⟨_, _, pre0 _ ?_, hrun, hended, _, _, rfl, ?_, ⟨_, rfl⟩, hW, hsame.mono (by decide) (by decide)⟩
              · show Steps p.tables e below (s₁.setTop (mkF m 0 #[.val (.int p1)] [])) _
                refine XS.iloadN X0.here hx rfl (hb hby d1_0) rfl ?_
                show Steps p.tables e below (s₁.setTop (mkF m 1 #[.val (.int p1)] [(.int p1)])) _
                refine XS.bipush X0.here hx rfl (hb hby d1_1) ?_
                show Steps p.tables e below (s₁.setTop (mkF m 3 #[.val (.int p1)] [(.int (97 : Int32)), (.int p1)])) _
                refine XS.icmpNo X0.here hx rfl (hb hby d1_3) rfl (flt hc3).1 ?_
                show Steps p.tables e below (s₁.setTop (mkF m 6 #[.val (.int p1)] [])) _
                refine XS.iloadN X0.here hx rfl (hb hby d1_6) rfl ?_
                show Steps p.tables e below (s₁.setTop (mkF m 7 #[.val (.int p1)] [(.int p1)])) _
                refine XS.bipush X0.here hx rfl (hb hby d1_7) ?_
                show Steps p.tables e below (s₁.setTop (mkF m 9 #[.val (.int p1)] [(.int (122 : Int32)), (.int p1)])) _
                refine XS.icmpNo X0.here hx rfl (hb hby d1_9) rfl (tlt hc9).2.2.2 ?_
                show Steps p.tables e below (s₁.setTop (mkF m 12 #[.val (.int p1)] [])) _
                refine XS.iloadN X0.here hx rfl (hb hby d1_12) rfl ?_
                show Steps p.tables e below (s₁.setTop (mkF m 13 #[.val (.int p1)] [(.int p1)])) _
                refine XS.bipush X0.here hx rfl (hb hby d1_13) ?_
                show Steps p.tables e below (s₁.setTop (mkF m 15 #[.val (.int p1)] [(.int (65 : Int32)), (.int p1)])) _
                refine XS.icmpNo X0.here hx rfl (hb hby d1_15) rfl (flt hc15).1 ?_
                show Steps p.tables e below (s₁.setTop (mkF m 18 #[.val (.int p1)] [])) _
                refine XS.iloadN X0.here hx rfl (hb hby d1_18) rfl ?_
                show Steps p.tables e below (s₁.setTop (mkF m 19 #[.val (.int p1)] [(.int p1)])) _
                refine XS.bipush X0.here hx rfl (hb hby d1_19) ?_
                show Steps p.tables e below (s₁.setTop (mkF m 21 #[.val (.int p1)] [(.int (90 : Int32)), (.int p1)])) _
                refine XS.icmpNo X0.here hx rfl (hb hby d1_21) rfl (tlt hc21).2.2.2 ?_
                show Steps p.tables e below (s₁.setTop (mkF m 24 #[.val (.int p1)] [])) _
                refine XS.iloadN X0.here hx rfl (hb hby d1_24) rfl ?_
                show Steps p.tables e below (s₁.setTop (mkF m 25 #[.val (.int p1)] [(.int p1)])) _
                refine XS.bipush X0.here hx rfl (hb hby d1_25) ?_
                show Steps p.tables e below (s₁.setTop (mkF m 27 #[.val (.int p1)] [(.int (48 : Int32)), (.int p1)])) _
                refine XS.icmpNo X0.here hx rfl (hb hby d1_27) rfl (flt hc27).1 ?_
                show Steps p.tables e below (s₁.setTop (mkF m 30 #[.val (.int p1)] [])) _
                refine XS.iloadN X0.here hx rfl (hb hby d1_30) rfl ?_
                show Steps p.tables e below (s₁.setTop (mkF m 31 #[.val (.int p1)] [(.int p1)])) _
                refine XS.bipush X0.here hx rfl (hb hby d1_31) ?_
                show Steps p.tables e below (s₁.setTop (mkF m 33 #[.val (.int p1)] [(.int (57 : Int32)), (.int p1)])) _
                refine XS.icmpYes X0.here hx rfl (pc0 := 33) (pc' := 40) rfl (hb hby d1_33) rfl (tlt hc33).2.2.1 (by decide) (by decide) ?_
                show Steps p.tables e below (s₁.setTop (mkF m 40 #[.val (.int p1)] [])) _
                refine XS.iconst X0.here hx rfl (hb hby d1_40) ?_
                show Steps p.tables e below (s₁.setTop (mkF m 41 #[.val (.int p1)] [(.int (0 : Int32))])) _
                exact retN X0 hx (t := .boolean) Bd.returns (by simp) (hb hby d1_41) hr
              · show Q1 Z p1 h0 n0 _ s₁.heap _
                rw [e0]
                exact ⟨(by simp [own_f1, hc3, hc9, hc15, hc21, hc27, hc33]), N0, rfl⟩
            · obtain ⟨fs, hr, hrun, hended, hW, hsame⟩ := X0.leave (v := some (.int (1 : Int32))) (fun h => by rw [Bd.returns] at h; cases h)
              refine ⟨_, _, pre0 _ ?_, hrun, hended, _, _, rfl, ?_, ⟨_, rfl⟩, hW, hsame.mono (by decide) (by decide)⟩
              · show Steps p.tables e below (s₁.setTop (mkF m 0 #[.val (.int p1)] [])) _
                refine XS.iloadN X0.here hx rfl (hb hby d1_0) rfl ?_
                show Steps p.tables e below (s₁.setTop (mkF m 1 #[.val (.int p1)] [(.int p1)])) _
                refine XS.bipush X0.here hx rfl (hb hby d1_1) ?_
                show Steps p.tables e below (s₁.setTop (mkF m 3 #[.val (.int p1)] [(.int (97 : Int32)), (.int p1)])) _
                refine XS.icmpNo X0.here hx rfl (hb hby d1_3) rfl (flt hc3).1 ?_
                show Steps p.tables e below (s₁.setTop (mkF m 6 #[.val (.int p1)] [])) _
                refine XS.iloadN X0.here hx rfl (hb hby d1_6) rfl ?_
                show Steps p.tables e below (s₁.setTop (mkF m 7 #[.val (.int p1)] [(.int p1)])) _
                refine XS.bipush X0.here hx rfl (hb hby d1_7) ?_
                show Steps p.tables e below (s₁.setTop (mkF m 9 #[.val (.int p1)] [(.int (122 : Int32)), (.int p1)])) _
                refine XS.icmpNo X0.here hx rfl (hb hby d1_9) rfl (tlt hc9).2.2.2 ?_
                show Steps p.tables e below (s₁.setTop (mkF m 12 #[.val (.int p1)] [])) _
                refine XS.iloadN X0.here hx rfl (hb hby d1_12) rfl ?_
                show Steps p.tables e below (s₁.setTop (mkF m 13 #[.val (.int p1)] [(.int p1)])) _
                refine XS.bipush X0.here hx rfl (hb hby d1_13) ?_
                show Steps p.tables e below (s₁.setTop (mkF m 15 #[.val (.int p1)] [(.int (65 : Int32)), (.int p1)])) _
                refine XS.icmpNo X0.here hx rfl (hb hby d1_15) rfl (flt hc15).1 ?_
                show Steps p.tables e below (s₁.setTop (mkF m 18 #[.val (.int p1)] [])) _
                refine XS.iloadN X0.here hx rfl (hb hby d1_18) rfl ?_
                show Steps p.tables e below (s₁.setTop (mkF m 19 #[.val (.int p1)] [(.int p1)])) _
                refine XS.bipush X0.here hx rfl (hb hby d1_19) ?_
                show Steps p.tables e below (s₁.setTop (mkF m 21 #[.val (.int p1)] [(.int (90 : Int32)), (.int p1)])) _
                refine XS.icmpNo X0.here hx rfl (hb hby d1_21) rfl (tlt hc21).2.2.2 ?_
                show Steps p.tables e below (s₁.setTop (mkF m 24 #[.val (.int p1)] [])) _
                refine XS.iloadN X0.here hx rfl (hb hby d1_24) rfl ?_
                show Steps p.tables e below (s₁.setTop (mkF m 25 #[.val (.int p1)] [(.int p1)])) _
                refine XS.bipush X0.here hx rfl (hb hby d1_25) ?_
                show Steps p.tables e below (s₁.setTop (mkF m 27 #[.val (.int p1)] [(.int (48 : Int32)), (.int p1)])) _
                refine XS.icmpNo X0.here hx rfl (hb hby d1_27) rfl (flt hc27).1 ?_
                show Steps p.tables e below (s₁.setTop (mkF m 30 #[.val (.int p1)] [])) _
                refine XS.iloadN X0.here hx rfl (hb hby d1_30) rfl ?_
                show Steps p.tables e below (s₁.setTop (mkF m 31 #[.val (.int p1)] [(.int p1)])) _
                refine XS.bipush X0.here hx rfl (hb hby d1_31) ?_
                show Steps p.tables e below (s₁.setTop (mkF m 33 #[.val (.int p1)] [(.int (57 : Int32)), (.int p1)])) _
                refine XS.icmpNo X0.here hx rfl (hb hby d1_33) rfl (flt hc33).2.2.1 ?_
                show Steps p.tables e below (s₁.setTop (mkF m 36 #[.val (.int p1)] [])) _
                refine XS.iconst X0.here hx rfl (hb hby d1_36) ?_
                show Steps p.tables e below (s₁.setTop (mkF m 37 #[.val (.int p1)] [(.int (1 : Int32))])) _
                refine XS.goto X0.here hx rfl (pc0 := 37) (pc' := 41) rfl (hb hby d1_37) (by decide) (by decide) ?_
                show Steps p.tables e below (s₁.setTop (mkF m 41 #[.val (.int p1)] [(.int (1 : Int32))])) _
                exact retN X0 hx (t := .boolean) Bd.returns (by simp) (hb hby d1_41) hr
              · show Q1 Z p1 h0 n0 _ s₁.heap _
                rw [e0]
                exact ⟨(by simp [own_f1, hc3, hc9, hc15, hc21, hc27, hc33]), N0, rfl⟩
        · obtain ⟨fs, hr, hrun, hended, hW, hsame⟩ := X0.leave (v := some (.int (1 : Int32))) (fun h => by rw [Bd.returns] at h; cases h)
          refine ⟨_, _, pre0 _ ?_, hrun, hended, _, _, rfl, ?_, ⟨_, rfl⟩, hW, hsame.mono (by decide) (by decide)⟩
          · show Steps p.tables e below (s₁.setTop (mkF m 0 #[.val (.int p1)] [])) _
            refine XS.iloadN X0.here hx rfl (hb hby d1_0) rfl ?_
            show Steps p.tables e below (s₁.setTop (mkF m 1 #[.val (.int p1)] [(.int p1)])) _
            refine XS.bipush X0.here hx rfl (hb hby d1_1) ?_
            show Steps p.tables e below (s₁.setTop (mkF m 3 #[.val (.int p1)] [(.int (97 : Int32)), (.int p1)])) _
            refine XS.icmpNo X0.here hx rfl (hb hby d1_3) rfl (flt hc3).1 ?_
            show Steps p.tables e below (s₁.setTop (mkF m 6 #[.val (.int p1)] [])) _
            refine XS.iloadN X0.here hx rfl (hb hby d1_6) rfl ?_
            show Steps p.tables e below (s₁.setTop (mkF m 7 #[.val (.int p1)] [(.int p1)])) _
            refine XS.bipush X0.here hx rfl (hb hby d1_7) ?_
            show Steps p.tables e below (s₁.setTop (mkF m 9 #[.val (.int p1)] [(.int (122 : Int32)), (.int p1)])) _
            refine XS.icmpNo X0.here hx rfl (hb hby d1_9) rfl (tlt hc9).2.2.2 ?_
            show Steps p.tables e below (s₁.setTop (mkF m 12 #[.val (.int p1)] [])) _
            refine XS.iloadN X0.here hx rfl (hb hby d1_12) rfl ?_
            show Steps p.tables e below (s₁.setTop (mkF m 13 #[.val (.int p1)] [(.int p1)])) _
            refine XS.bipush X0.here hx rfl (hb hby d1_13) ?_
            show Steps p.tables e below (s₁.setTop (mkF m 15 #[.val (.int p1)] [(.int (65 : Int32)), (.int p1)])) _
            refine XS.icmpNo X0.here hx rfl (hb hby d1_15) rfl (flt hc15).1 ?_
            show Steps p.tables e below (s₁.setTop (mkF m 18 #[.val (.int p1)] [])) _
            refine XS.iloadN X0.here hx rfl (hb hby d1_18) rfl ?_
            show Steps p.tables e below (s₁.setTop (mkF m 19 #[.val (.int p1)] [(.int p1)])) _
            refine XS.bipush X0.here hx rfl (hb hby d1_19) ?_
            show Steps p.tables e below (s₁.setTop (mkF m 21 #[.val (.int p1)] [(.int (90 : Int32)), (.int p1)])) _
            refine XS.icmpYes X0.here hx rfl (pc0 := 21) (pc' := 36) rfl (hb hby d1_21) rfl (flt hc21).2.2.2 (by decide) (by decide) ?_
            show Steps p.tables e below (s₁.setTop (mkF m 36 #[.val (.int p1)] [])) _
            refine XS.iconst X0.here hx rfl (hb hby d1_36) ?_
            show Steps p.tables e below (s₁.setTop (mkF m 37 #[.val (.int p1)] [(.int (1 : Int32))])) _
            refine XS.goto X0.here hx rfl (pc0 := 37) (pc' := 41) rfl (hb hby d1_37) (by decide) (by decide) ?_
            show Steps p.tables e below (s₁.setTop (mkF m 41 #[.val (.int p1)] [(.int (1 : Int32))])) _
            exact retN X0 hx (t := .boolean) Bd.returns (by simp) (hb hby d1_41) hr
          · show Q1 Z p1 h0 n0 _ s₁.heap _
            rw [e0]
            exact ⟨(by simp [own_f1, hc3, hc9, hc15, hc21]), N0, rfl⟩
    · obtain ⟨fs, hr, hrun, hended, hW, hsame⟩ := X0.leave (v := some (.int (1 : Int32))) (fun h => by rw [Bd.returns] at h; cases h)
      refine ⟨_, _, pre0 _ ?_, hrun, hended, _, _, rfl, ?_, ⟨_, rfl⟩, hW, hsame.mono (by decide) (by decide)⟩
      · show Steps p.tables e below (s₁.setTop (mkF m 0 #[.val (.int p1)] [])) _
        refine XS.iloadN X0.here hx rfl (hb hby d1_0) rfl ?_
        show Steps p.tables e below (s₁.setTop (mkF m 1 #[.val (.int p1)] [(.int p1)])) _
        refine XS.bipush X0.here hx rfl (hb hby d1_1) ?_
        show Steps p.tables e below (s₁.setTop (mkF m 3 #[.val (.int p1)] [(.int (97 : Int32)), (.int p1)])) _
        refine XS.icmpNo X0.here hx rfl (hb hby d1_3) rfl (flt hc3).1 ?_
        show Steps p.tables e below (s₁.setTop (mkF m 6 #[.val (.int p1)] [])) _
        refine XS.iloadN X0.here hx rfl (hb hby d1_6) rfl ?_
        show Steps p.tables e below (s₁.setTop (mkF m 7 #[.val (.int p1)] [(.int p1)])) _
        refine XS.bipush X0.here hx rfl (hb hby d1_7) ?_
        show Steps p.tables e below (s₁.setTop (mkF m 9 #[.val (.int p1)] [(.int (122 : Int32)), (.int p1)])) _
        refine XS.icmpYes X0.here hx rfl (pc0 := 9) (pc' := 36) rfl (hb hby d1_9) rfl (flt hc9).2.2.2 (by decide) (by decide) ?_
        show Steps p.tables e below (s₁.setTop (mkF m 36 #[.val (.int p1)] [])) _
        refine XS.iconst X0.here hx rfl (hb hby d1_36) ?_
        show Steps p.tables e below (s₁.setTop (mkF m 37 #[.val (.int p1)] [(.int (1 : Int32))])) _
        refine XS.goto X0.here hx rfl (pc0 := 37) (pc' := 41) rfl (hb hby d1_37) (by decide) (by decide) ?_
        show Steps p.tables e below (s₁.setTop (mkF m 41 #[.val (.int p1)] [(.int (1 : Int32))])) _
        exact retN X0 hx (t := .boolean) Bd.returns (by simp) (hb hby d1_41) hr
      · show Q1 Z p1 h0 n0 _ s₁.heap _
        rw [e0]
        exact ⟨(by simp [own_f1, hc3, hc9]), N0, rfl⟩
theorem pn_0 : plainName "com/example/usher/usher/MemberIsLetterOrDigitPinLaw" = true := by first | (simp [plainName, overriddenIn]; done) | decide +kernel
theorem pd_0_0 : parseMethodDescriptor "(C)Z" = some ⟨[.char], some .boolean⟩ := by decide +kernel
theorem ef_0 (m : MethodId) (x0 : Int32) : entryFrame m #[(.int x0)] maxLocals = mkF m 0 #[.val (.int x0), .unset, .unset, .unset, .unset, .unset] [] := by first | (simp [entryFrame, mkF, argsToLocals, Value.category, maxLocals]; done) | rfl
def Q0 (Z : State) (p1 : Int32) (h0 : Heap) (n0 : Nat) (v : Option Value) (h : Heap) (L : List Loc) : Prop := v = some (.int (1 : Int32)) ∧ Fr n0 L
set_option maxRecDepth 65536 in
set_option maxHeartbeats 40000000 in
theorem rm0 (l : Launch) (Z : State) (a0 : Array Value) (hw : ∀ d ∈ tables_1, d.before a0 Z = true) (ws : List Jvm.Cond) (p1 : Int32) (h0 : Heap) (n0 : Nat) (Z0 : n0 ≤ h0.size) :
    MetFree l x (head1 (Jvm.Cond.code x code maxLocals ret :: ws) room_1) (fun a U => a = #[(.int p1)] ∧ Z.Warmed39 U.vm ∧ U.heap = h0) (fun _ _ _ _ _ => True) (fun _ U o U' => ∃ v L, o = .returned v ∧ Q0 Z p1 h0 n0 v U'.heap L ∧ FrameEnd U o U' L room_1.cells room_1.slots) := by
  refine MetFree.of_bodySF (plainFor_of_name pn_0) hisR ?_
  intro p e s m args below meth c s₁ Bd hml0 hP hK
  obtain ⟨rfl, hZ, hh⟩ := hP
  have hx := Bd.exec
  have hby := Bd.bytes
  have hml : c.maxLocals = 6 := hml0
  have hown : s.vm.findClass "com/example/usher/usher/MemberIsLetterOrDigitPinLaw" = some m.cls := findClass_of_methodNamed Bd.named
  have hnm := (name_of_methodNamed Bd.named Bd.method).1
  have X0 : Stand p l e room_1 s m #[(.int p1)] below meth c s₁ [] 0 0 := Stand.of_body Bd
  have e0 : s₁.heap = h0 := by rw [← hh, Bd.state]; rfl
  have N0 := Fr.nil n0
  have pre0 : ∀ t, Steps p.tables e below (s₁.setTop (mkF m 0 #[.val (.int p1), .unset, .unset, .unset, .unset, .unset] [])) t → Steps p.tables e below (s₁.setTop (entryFrame m #[(.int p1)] maxLocals)) t := fun t k => castTop (ef_0 m p1) k
  by_cases hc9 : ((p1.toUInt32.toUInt16.toUInt32.toInt32) - (48 : Int32)) < (0 : Int32)
  · by_cases hc35 : (((p1.toUInt32.toUInt16.toUInt32.toInt32) ||| (32 : Int32)) - (97 : Int32)) < (0 : Int32)
    · obtain ⟨_, _, ⟨T2, L2, k2, n2⟩, -, X2, ⟨Lc2, hQ2, l2, y2, z2⟩, st2⟩ := Jvm.LawKit.callS X0 hx (y := (⟨"com/example/usher/usher/Member", "isLetterOrDigit", "(C)Z"⟩ : MethodName)) hown (mvT hZ (hw _ (List.mem_of_getElem? (i := 0) rfl))) (mvT hZ (hw _ (List.mem_of_getElem? (i := 1) rfl))) (mvT hZ (hw _ (List.mem_of_getElem? (i := 2) rfl))) (mvT hZ (hw _ (List.mem_of_getElem? (i := 3) rfl))) (by decide) (backOf (W := 0) (rm1 l Z a0 hw [] (p1.toUInt32.toUInt16.toUInt32.toInt32) h0 n0 Z0) hZ (hw _ (List.mem_of_getElem? (i := 3) rfl)) (hw _ (List.mem_of_getElem? (i := 2) rfl)) (by decide) (by decide)) (g := (mkF m 53 #[.val (.int p1), .val (.int (p1.toUInt32.toUInt16.toUInt32.toInt32)), .val (.int ((p1.toUInt32.toUInt16.toUInt32.toInt32) - (48 : Int32))), .val (.int (0 : Int32)), .val (.int (((p1.toUInt32.toUInt16.toUInt32.toInt32) ||| (32 : Int32)) - (97 : Int32))), .val (.int (0 : Int32))] [(.int (p1.toUInt32.toUInt16.toUInt32.toInt32))])) rfl (by rw [hml]; rfl) (argsL := [(.int (p1.toUInt32.toUInt16.toUInt32.toInt32))]) (rest := []) (lenOf pd_0_0 rfl) rfl (by show 2 * 0 + _ ≤ _; exact Nat.le_of_eq rfl) (hb hby at_53) (fun _ _ => ⟨rfl, e0, (by decide : 0 + 0 ≤ _), (by decide : 0 + 0 ≤ _)⟩)
      dsimp only [Pt.U, Pt.locs, Pt.cells, Pt.slots] at X2 l2 y2 z2 st2 hQ2
      subst l2 y2 z2
      obtain ⟨rfl, N2q, q2'⟩ := hQ2
      have q2 : T2.heap = h0 := q2'
      have N2 := Fr.app N0 N2q
      obtain ⟨fs, hr, hrun, hended, hW, hsame⟩ := X2.leave (v := some (.int (1 : Int32))) (fun h => by rw [Bd.returns] at h; cases h)
      refine ⟨_, _, pre0 _ ?_, hrun, hended, _, _, rfl, ?_, ⟨_, rfl⟩, hW, hsame.mono (by decide) (by decide)⟩
      · show Steps p.tables e below (s₁.setTop (mkF m 0 #[.val (.int p1), .unset, .unset, .unset, .unset, .unset] [])) _
        refine XS.iloadN X0.here hx rfl (hb hby at_0) rfl ?_
        show Steps p.tables e below (s₁.setTop (mkF m 1 #[.val (.int p1), .unset, .unset, .unset, .unset, .unset] [(.int p1)])) _
        refine XS.i2c X0.here hx rfl (hb hby at_1) rfl ?_
        show Steps p.tables e below (s₁.setTop (mkF m 2 #[.val (.int p1), .unset, .unset, .unset, .unset, .unset] [(.int (p1.toUInt32.toUInt16.toUInt32.toInt32))])) _
        refine XS.istoreN X0.here hx rfl (hb hby at_2) rfl (l' := #[.val (.int p1), .val (.int (p1.toUInt32.toUInt16.toUInt32.toInt32)), .unset, .unset, .unset, .unset]) rfl ?_
        show Steps p.tables e below (s₁.setTop (mkF m 3 #[.val (.int p1), .val (.int (p1.toUInt32.toUInt16.toUInt32.toInt32)), .unset, .unset, .unset, .unset] [])) _
        refine XS.iloadN X0.here hx rfl (hb hby at_3) rfl ?_
        show Steps p.tables e below (s₁.setTop (mkF m 4 #[.val (.int p1), .val (.int (p1.toUInt32.toUInt16.toUInt32.toInt32)), .unset, .unset, .unset, .unset] [(.int (p1.toUInt32.toUInt16.toUInt32.toInt32))])) _
        refine XS.bipush X0.here hx rfl (hb hby at_4) ?_
        show Steps p.tables e below (s₁.setTop (mkF m 6 #[.val (.int p1), .val (.int (p1.toUInt32.toUInt16.toUInt32.toInt32)), .unset, .unset, .unset, .unset] [(.int (48 : Int32)), (.int (p1.toUInt32.toUInt16.toUInt32.toInt32))])) _
        refine XS.isub X0.here hx rfl (hb hby at_6) rfl ?_
        show Steps p.tables e below (s₁.setTop (mkF m 7 #[.val (.int p1), .val (.int (p1.toUInt32.toUInt16.toUInt32.toInt32)), .unset, .unset, .unset, .unset] [(.int ((p1.toUInt32.toUInt16.toUInt32.toInt32) - (48 : Int32)))])) _
        refine XS.istoreN X0.here hx rfl (hb hby at_7) rfl (l' := #[.val (.int p1), .val (.int (p1.toUInt32.toUInt16.toUInt32.toInt32)), .val (.int ((p1.toUInt32.toUInt16.toUInt32.toInt32) - (48 : Int32))), .unset, .unset, .unset]) rfl ?_
        show Steps p.tables e below (s₁.setTop (mkF m 8 #[.val (.int p1), .val (.int (p1.toUInt32.toUInt16.toUInt32.toInt32)), .val (.int ((p1.toUInt32.toUInt16.toUInt32.toInt32) - (48 : Int32))), .unset, .unset, .unset] [])) _
        refine XS.iloadN X0.here hx rfl (hb hby at_8) rfl ?_
        show Steps p.tables e below (s₁.setTop (mkF m 9 #[.val (.int p1), .val (.int (p1.toUInt32.toUInt16.toUInt32.toInt32)), .val (.int ((p1.toUInt32.toUInt16.toUInt32.toInt32) - (48 : Int32))), .unset, .unset, .unset] [(.int ((p1.toUInt32.toUInt16.toUInt32.toInt32) - (48 : Int32)))])) _
        refine XS.ifYes X0.here hx rfl (pc0 := 9) (pc' := 22) rfl (hb hby at_9) rfl ((if0 _ _).trans (tlt hc9).1) (by decide) (by decide) ?_
        show Steps p.tables e below (s₁.setTop (mkF m 22 #[.val (.int p1), .val (.int (p1.toUInt32.toUInt16.toUInt32.toInt32)), .val (.int ((p1.toUInt32.toUInt16.toUInt32.toInt32) - (48 : Int32))), .unset, .unset, .unset] [])) _
        refine XS.iconst X0.here hx rfl (hb hby at_22) ?_
        show Steps p.tables e below (s₁.setTop (mkF m 23 #[.val (.int p1), .val (.int (p1.toUInt32.toUInt16.toUInt32.toInt32)), .val (.int ((p1.toUInt32.toUInt16.toUInt32.toInt32) - (48 : Int32))), .unset, .unset, .unset] [(.int (0 : Int32))])) _
        refine XS.istoreN X0.here hx rfl (hb hby at_23) rfl (l' := #[.val (.int p1), .val (.int (p1.toUInt32.toUInt16.toUInt32.toInt32)), .val (.int ((p1.toUInt32.toUInt16.toUInt32.toInt32) - (48 : Int32))), .val (.int (0 : Int32)), .unset, .unset]) rfl ?_
        show Steps p.tables e below (s₁.setTop (mkF m 24 #[.val (.int p1), .val (.int (p1.toUInt32.toUInt16.toUInt32.toInt32)), .val (.int ((p1.toUInt32.toUInt16.toUInt32.toInt32) - (48 : Int32))), .val (.int (0 : Int32)), .unset, .unset] [])) _
        refine XS.iloadN X0.here hx rfl (hb hby at_24) rfl ?_
        show Steps p.tables e below (s₁.setTop (mkF m 25 #[.val (.int p1), .val (.int (p1.toUInt32.toUInt16.toUInt32.toInt32)), .val (.int ((p1.toUInt32.toUInt16.toUInt32.toInt32) - (48 : Int32))), .val (.int (0 : Int32)), .unset, .unset] [(.int (p1.toUInt32.toUInt16.toUInt32.toInt32))])) _
        refine XS.bipush X0.here hx rfl (hb hby at_25) ?_
        show Steps p.tables e below (s₁.setTop (mkF m 27 #[.val (.int p1), .val (.int (p1.toUInt32.toUInt16.toUInt32.toInt32)), .val (.int ((p1.toUInt32.toUInt16.toUInt32.toInt32) - (48 : Int32))), .val (.int (0 : Int32)), .unset, .unset] [(.int (32 : Int32)), (.int (p1.toUInt32.toUInt16.toUInt32.toInt32))])) _
        refine XS.ior X0.here hx rfl (hb hby at_27) rfl ?_
        show Steps p.tables e below (s₁.setTop (mkF m 28 #[.val (.int p1), .val (.int (p1.toUInt32.toUInt16.toUInt32.toInt32)), .val (.int ((p1.toUInt32.toUInt16.toUInt32.toInt32) - (48 : Int32))), .val (.int (0 : Int32)), .unset, .unset] [(.int ((p1.toUInt32.toUInt16.toUInt32.toInt32) ||| (32 : Int32)))])) _
        refine XS.bipush X0.here hx rfl (hb hby at_28) ?_
        show Steps p.tables e below (s₁.setTop (mkF m 30 #[.val (.int p1), .val (.int (p1.toUInt32.toUInt16.toUInt32.toInt32)), .val (.int ((p1.toUInt32.toUInt16.toUInt32.toInt32) - (48 : Int32))), .val (.int (0 : Int32)), .unset, .unset] [(.int (97 : Int32)), (.int ((p1.toUInt32.toUInt16.toUInt32.toInt32) ||| (32 : Int32)))])) _
        refine XS.isub X0.here hx rfl (hb hby at_30) rfl ?_
        show Steps p.tables e below (s₁.setTop (mkF m 31 #[.val (.int p1), .val (.int (p1.toUInt32.toUInt16.toUInt32.toInt32)), .val (.int ((p1.toUInt32.toUInt16.toUInt32.toInt32) - (48 : Int32))), .val (.int (0 : Int32)), .unset, .unset] [(.int (((p1.toUInt32.toUInt16.toUInt32.toInt32) ||| (32 : Int32)) - (97 : Int32)))])) _
        refine XS.istore X0.here hx rfl (hb hby at_31) rfl (l' := #[.val (.int p1), .val (.int (p1.toUInt32.toUInt16.toUInt32.toInt32)), .val (.int ((p1.toUInt32.toUInt16.toUInt32.toInt32) - (48 : Int32))), .val (.int (0 : Int32)), .val (.int (((p1.toUInt32.toUInt16.toUInt32.toInt32) ||| (32 : Int32)) - (97 : Int32))), .unset]) rfl ?_
        show Steps p.tables e below (s₁.setTop (mkF m 33 #[.val (.int p1), .val (.int (p1.toUInt32.toUInt16.toUInt32.toInt32)), .val (.int ((p1.toUInt32.toUInt16.toUInt32.toInt32) - (48 : Int32))), .val (.int (0 : Int32)), .val (.int (((p1.toUInt32.toUInt16.toUInt32.toInt32) ||| (32 : Int32)) - (97 : Int32))), .unset] [])) _
        refine XS.iload X0.here hx rfl (hb hby at_33) rfl ?_
        show Steps p.tables e below (s₁.setTop (mkF m 35 #[.val (.int p1), .val (.int (p1.toUInt32.toUInt16.toUInt32.toInt32)), .val (.int ((p1.toUInt32.toUInt16.toUInt32.toInt32) - (48 : Int32))), .val (.int (0 : Int32)), .val (.int (((p1.toUInt32.toUInt16.toUInt32.toInt32) ||| (32 : Int32)) - (97 : Int32))), .unset] [(.int (((p1.toUInt32.toUInt16.toUInt32.toInt32) ||| (32 : Int32)) - (97 : Int32)))])) _
        refine XS.ifYes X0.here hx rfl (pc0 := 35) (pc' := 49) rfl (hb hby at_35) rfl ((if0 _ _).trans (tlt hc35).1) (by decide) (by decide) ?_
        show Steps p.tables e below (s₁.setTop (mkF m 49 #[.val (.int p1), .val (.int (p1.toUInt32.toUInt16.toUInt32.toInt32)), .val (.int ((p1.toUInt32.toUInt16.toUInt32.toInt32) - (48 : Int32))), .val (.int (0 : Int32)), .val (.int (((p1.toUInt32.toUInt16.toUInt32.toInt32) ||| (32 : Int32)) - (97 : Int32))), .unset] [])) _
        refine XS.iconst X0.here hx rfl (hb hby at_49) ?_
        show Steps p.tables e below (s₁.setTop (mkF m 50 #[.val (.int p1), .val (.int (p1.toUInt32.toUInt16.toUInt32.toInt32)), .val (.int ((p1.toUInt32.toUInt16.toUInt32.toInt32) - (48 : Int32))), .val (.int (0 : Int32)), .val (.int (((p1.toUInt32.toUInt16.toUInt32.toInt32) ||| (32 : Int32)) - (97 : Int32))), .unset] [(.int (0 : Int32))])) _
        refine XS.istore X0.here hx rfl (hb hby at_50) rfl (l' := #[.val (.int p1), .val (.int (p1.toUInt32.toUInt16.toUInt32.toInt32)), .val (.int ((p1.toUInt32.toUInt16.toUInt32.toInt32) - (48 : Int32))), .val (.int (0 : Int32)), .val (.int (((p1.toUInt32.toUInt16.toUInt32.toInt32) ||| (32 : Int32)) - (97 : Int32))), .val (.int (0 : Int32))]) rfl ?_
        show Steps p.tables e below (s₁.setTop (mkF m 52 #[.val (.int p1), .val (.int (p1.toUInt32.toUInt16.toUInt32.toInt32)), .val (.int ((p1.toUInt32.toUInt16.toUInt32.toInt32) - (48 : Int32))), .val (.int (0 : Int32)), .val (.int (((p1.toUInt32.toUInt16.toUInt32.toInt32) ||| (32 : Int32)) - (97 : Int32))), .val (.int (0 : Int32))] [])) _
        refine XS.iloadN X0.here hx rfl (hb hby at_52) rfl ?_
        show Steps p.tables e below (s₁.setTop (mkF m 53 #[.val (.int p1), .val (.int (p1.toUInt32.toUInt16.toUInt32.toInt32)), .val (.int ((p1.toUInt32.toUInt16.toUInt32.toInt32) - (48 : Int32))), .val (.int (0 : Int32)), .val (.int (((p1.toUInt32.toUInt16.toUInt32.toInt32) ||| (32 : Int32)) - (97 : Int32))), .val (.int (0 : Int32))] [(.int (p1.toUInt32.toUInt16.toUInt32.toInt32))])) _
        refine st2 _ ?_
        show Steps p.tables e below (T2.setTop (mkF m 56 #[.val (.int p1), .val (.int (p1.toUInt32.toUInt16.toUInt32.toInt32)), .val (.int ((p1.toUInt32.toUInt16.toUInt32.toInt32) - (48 : Int32))), .val (.int (0 : Int32)), .val (.int (((p1.toUInt32.toUInt16.toUInt32.toInt32) ||| (32 : Int32)) - (97 : Int32))), .val (.int (0 : Int32))] [(.int (own_f1 (p1.toUInt32.toUInt16.toUInt32.toInt32)))])) _
        refine XS.iloadN X2.here hx rfl (hb hby at_56) rfl ?_
        show Steps p.tables e below (T2.setTop (mkF m 57 #[.val (.int p1), .val (.int (p1.toUInt32.toUInt16.toUInt32.toInt32)), .val (.int ((p1.toUInt32.toUInt16.toUInt32.toInt32) - (48 : Int32))), .val (.int (0 : Int32)), .val (.int (((p1.toUInt32.toUInt16.toUInt32.toInt32) ||| (32 : Int32)) - (97 : Int32))), .val (.int (0 : Int32))] [(.int (0 : Int32)), (.int (own_f1 (p1.toUInt32.toUInt16.toUInt32.toInt32)))])) _
        refine XS.ifNo X2.here hx rfl (hb hby at_57) rfl ((if0 _ _).trans (teq (rfl : (0 : Int32) = (0 : Int32))).2) ?_
        show Steps p.tables e below (T2.setTop (mkF m 60 #[.val (.int p1), .val (.int (p1.toUInt32.toUInt16.toUInt32.toInt32)), .val (.int ((p1.toUInt32.toUInt16.toUInt32.toInt32) - (48 : Int32))), .val (.int (0 : Int32)), .val (.int (((p1.toUInt32.toUInt16.toUInt32.toInt32) ||| (32 : Int32)) - (97 : Int32))), .val (.int (0 : Int32))] [(.int (own_f1 (p1.toUInt32.toUInt16.toUInt32.toInt32)))])) _
        refine XS.iload X2.here hx rfl (hb hby at_60) rfl ?_
        show Steps p.tables e below (T2.setTop (mkF m 62 #[.val (.int p1), .val (.int (p1.toUInt32.toUInt16.toUInt32.toInt32)), .val (.int ((p1.toUInt32.toUInt16.toUInt32.toInt32) - (48 : Int32))), .val (.int (0 : Int32)), .val (.int (((p1.toUInt32.toUInt16.toUInt32.toInt32) ||| (32 : Int32)) - (97 : Int32))), .val (.int (0 : Int32))] [(.int (0 : Int32)), (.int (own_f1 (p1.toUInt32.toUInt16.toUInt32.toInt32)))])) _
        refine XS.ifYes X2.here hx rfl (pc0 := 62) (pc' := 69) rfl (hb hby at_62) rfl ((if0 _ _).trans (teq (rfl : (0 : Int32) = (0 : Int32))).1) (by decide) (by decide) ?_
        show Steps p.tables e below (T2.setTop (mkF m 69 #[.val (.int p1), .val (.int (p1.toUInt32.toUInt16.toUInt32.toInt32)), .val (.int ((p1.toUInt32.toUInt16.toUInt32.toInt32) - (48 : Int32))), .val (.int (0 : Int32)), .val (.int (((p1.toUInt32.toUInt16.toUInt32.toInt32) ||| (32 : Int32)) - (97 : Int32))), .val (.int (0 : Int32))] [(.int (own_f1 (p1.toUInt32.toUInt16.toUInt32.toInt32)))])) _
        refine XS.iconst X2.here hx rfl (hb hby at_69) ?_
        show Steps p.tables e below (T2.setTop (mkF m 70 #[.val (.int p1), .val (.int (p1.toUInt32.toUInt16.toUInt32.toInt32)), .val (.int ((p1.toUInt32.toUInt16.toUInt32.toInt32) - (48 : Int32))), .val (.int (0 : Int32)), .val (.int (((p1.toUInt32.toUInt16.toUInt32.toInt32) ||| (32 : Int32)) - (97 : Int32))), .val (.int (0 : Int32))] [(.int (0 : Int32)), (.int (own_f1 (p1.toUInt32.toUInt16.toUInt32.toInt32)))])) _
        refine XS.icmpNo X2.here hx rfl (hb hby at_70) rfl (teq (show (own_f1 (p1.toUInt32.toUInt16.toUInt32.toInt32)) = (0 : Int32) by first | exact own_1a _ (c_i2c p1).2 hc9 hc15 | exact own_1b _ (c_i2c p1).2 hc35 hc42 | exact own_0 _ (c_i2c p1).2 (Or.inl hc9) (Or.inl hc35) | exact own_0 _ (c_i2c p1).2 (Or.inl hc9) (Or.inr hc42) | exact own_0 _ (c_i2c p1).2 (Or.inr hc15) (Or.inl hc35) | exact own_0 _ (c_i2c p1).2 (Or.inr hc15) (Or.inr hc42))).2 ?_
        show Steps p.tables e below (T2.setTop (mkF m 73 #[.val (.int p1), .val (.int (p1.toUInt32.toUInt16.toUInt32.toInt32)), .val (.int ((p1.toUInt32.toUInt16.toUInt32.toInt32) - (48 : Int32))), .val (.int (0 : Int32)), .val (.int (((p1.toUInt32.toUInt16.toUInt32.toInt32) ||| (32 : Int32)) - (97 : Int32))), .val (.int (0 : Int32))] [])) _
        refine XS.iconst X2.here hx rfl (hb hby at_73) ?_
        show Steps p.tables e below (T2.setTop (mkF m 74 #[.val (.int p1), .val (.int (p1.toUInt32.toUInt16.toUInt32.toInt32)), .val (.int ((p1.toUInt32.toUInt16.toUInt32.toInt32) - (48 : Int32))), .val (.int (0 : Int32)), .val (.int (((p1.toUInt32.toUInt16.toUInt32.toInt32) ||| (32 : Int32)) - (97 : Int32))), .val (.int (0 : Int32))] [(.int (1 : Int32))])) _
        refine XS.goto X2.here hx rfl (pc0 := 74) (pc' := 78) rfl (hb hby at_74) (by decide) (by decide) ?_
        show Steps p.tables e below (T2.setTop (mkF m 78 #[.val (.int p1), .val (.int (p1.toUInt32.toUInt16.toUInt32.toInt32)), .val (.int ((p1.toUInt32.toUInt16.toUInt32.toInt32) - (48 : Int32))), .val (.int (0 : Int32)), .val (.int (((p1.toUInt32.toUInt16.toUInt32.toInt32) ||| (32 : Int32)) - (97 : Int32))), .val (.int (0 : Int32))] [(.int (1 : Int32))])) _
        exact retN X2 hx (t := .boolean) Bd.returns (by simp) (hb hby at_78) hr
      · show Q0 Z p1 h0 n0 _ T2.heap _
        exact ⟨rfl, N2⟩
    · by_cases hc42 : (((p1.toUInt32.toUInt16.toUInt32.toInt32) ||| (32 : Int32)) - (97 : Int32)) < (26 : Int32)
      · have hc62 : ¬ ((1 : Int32) = (0 : Int32)) := by decide
        obtain ⟨_, _, ⟨T2, L2, k2, n2⟩, -, X2, ⟨Lc2, hQ2, l2, y2, z2⟩, st2⟩ := Jvm.LawKit.callS X0 hx (y := (⟨"com/example/usher/usher/Member", "isLetterOrDigit", "(C)Z"⟩ : MethodName)) hown (mvT hZ (hw _ (List.mem_of_getElem? (i := 0) rfl))) (mvT hZ (hw _ (List.mem_of_getElem? (i := 1) rfl))) (mvT hZ (hw _ (List.mem_of_getElem? (i := 2) rfl))) (mvT hZ (hw _ (List.mem_of_getElem? (i := 3) rfl))) (by decide) (backOf (W := 0) (rm1 l Z a0 hw [] (p1.toUInt32.toUInt16.toUInt32.toInt32) h0 n0 Z0) hZ (hw _ (List.mem_of_getElem? (i := 3) rfl)) (hw _ (List.mem_of_getElem? (i := 2) rfl)) (by decide) (by decide)) (g := (mkF m 53 #[.val (.int p1), .val (.int (p1.toUInt32.toUInt16.toUInt32.toInt32)), .val (.int ((p1.toUInt32.toUInt16.toUInt32.toInt32) - (48 : Int32))), .val (.int (0 : Int32)), .val (.int (((p1.toUInt32.toUInt16.toUInt32.toInt32) ||| (32 : Int32)) - (97 : Int32))), .val (.int (1 : Int32))] [(.int (p1.toUInt32.toUInt16.toUInt32.toInt32))])) rfl (by rw [hml]; rfl) (argsL := [(.int (p1.toUInt32.toUInt16.toUInt32.toInt32))]) (rest := []) (lenOf pd_0_0 rfl) rfl (by show 2 * 0 + _ ≤ _; exact Nat.le_of_eq rfl) (hb hby at_53) (fun _ _ => ⟨rfl, e0, (by decide : 0 + 0 ≤ _), (by decide : 0 + 0 ≤ _)⟩)
        dsimp only [Pt.U, Pt.locs, Pt.cells, Pt.slots] at X2 l2 y2 z2 st2 hQ2
        subst l2 y2 z2
        obtain ⟨rfl, N2q, q2'⟩ := hQ2
        have q2 : T2.heap = h0 := q2'
        have N2 := Fr.app N0 N2q
        obtain ⟨fs, hr, hrun, hended, hW, hsame⟩ := X2.leave (v := some (.int (1 : Int32))) (fun h => by rw [Bd.returns] at h; cases h)
        refine ⟨_, _, pre0 _ ?_, hrun, hended, _, _, rfl, ?_, ⟨_, rfl⟩, hW, hsame.mono (by decide) (by decide)⟩
        · show Steps p.tables e below (s₁.setTop (mkF m 0 #[.val (.int p1), .unset, .unset, .unset, .unset, .unset] [])) _
          refine XS.iloadN X0.here hx rfl (hb hby at_0) rfl ?_
          show Steps p.tables e below (s₁.setTop (mkF m 1 #[.val (.int p1), .unset, .unset, .unset, .unset, .unset] [(.int p1)])) _
          refine XS.i2c X0.here hx rfl (hb hby at_1) rfl ?_
          show Steps p.tables e below (s₁.setTop (mkF m 2 #[.val (.int p1), .unset, .unset, .unset, .unset, .unset] [(.int (p1.toUInt32.toUInt16.toUInt32.toInt32))])) _
          refine XS.istoreN X0.here hx rfl (hb hby at_2) rfl (l' := #[.val (.int p1), .val (.int (p1.toUInt32.toUInt16.toUInt32.toInt32)), .unset, .unset, .unset, .unset]) rfl ?_
          show Steps p.tables e below (s₁.setTop (mkF m 3 #[.val (.int p1), .val (.int (p1.toUInt32.toUInt16.toUInt32.toInt32)), .unset, .unset, .unset, .unset] [])) _
          refine XS.iloadN X0.here hx rfl (hb hby at_3) rfl ?_
          show Steps p.tables e below (s₁.setTop (mkF m 4 #[.val (.int p1), .val (.int (p1.toUInt32.toUInt16.toUInt32.toInt32)), .unset, .unset, .unset, .unset] [(.int (p1.toUInt32.toUInt16.toUInt32.toInt32))])) _
          refine XS.bipush X0.here hx rfl (hb hby at_4) ?_
          show Steps p.tables e below (s₁.setTop (mkF m 6 #[.val (.int p1), .val (.int (p1.toUInt32.toUInt16.toUInt32.toInt32)), .unset, .unset, .unset, .unset] [(.int (48 : Int32)), (.int (p1.toUInt32.toUInt16.toUInt32.toInt32))])) _
          refine XS.isub X0.here hx rfl (hb hby at_6) rfl ?_
          show Steps p.tables e below (s₁.setTop (mkF m 7 #[.val (.int p1), .val (.int (p1.toUInt32.toUInt16.toUInt32.toInt32)), .unset, .unset, .unset, .unset] [(.int ((p1.toUInt32.toUInt16.toUInt32.toInt32) - (48 : Int32)))])) _
          refine XS.istoreN X0.here hx rfl (hb hby at_7) rfl (l' := #[.val (.int p1), .val (.int (p1.toUInt32.toUInt16.toUInt32.toInt32)), .val (.int ((p1.toUInt32.toUInt16.toUInt32.toInt32) - (48 : Int32))), .unset, .unset, .unset]) rfl ?_
          show Steps p.tables e below (s₁.setTop (mkF m 8 #[.val (.int p1), .val (.int (p1.toUInt32.toUInt16.toUInt32.toInt32)), .val (.int ((p1.toUInt32.toUInt16.toUInt32.toInt32) - (48 : Int32))), .unset, .unset, .unset] [])) _
          refine XS.iloadN X0.here hx rfl (hb hby at_8) rfl ?_
          show Steps p.tables e below (s₁.setTop (mkF m 9 #[.val (.int p1), .val (.int (p1.toUInt32.toUInt16.toUInt32.toInt32)), .val (.int ((p1.toUInt32.toUInt16.toUInt32.toInt32) - (48 : Int32))), .unset, .unset, .unset] [(.int ((p1.toUInt32.toUInt16.toUInt32.toInt32) - (48 : Int32)))])) _
          refine XS.ifYes X0.here hx rfl (pc0 := 9) (pc' := 22) rfl (hb hby at_9) rfl ((if0 _ _).trans (tlt hc9).1) (by decide) (by decide) ?_
          show Steps p.tables e below (s₁.setTop (mkF m 22 #[.val (.int p1), .val (.int (p1.toUInt32.toUInt16.toUInt32.toInt32)), .val (.int ((p1.toUInt32.toUInt16.toUInt32.toInt32) - (48 : Int32))), .unset, .unset, .unset] [])) _
          refine XS.iconst X0.here hx rfl (hb hby at_22) ?_
          show Steps p.tables e below (s₁.setTop (mkF m 23 #[.val (.int p1), .val (.int (p1.toUInt32.toUInt16.toUInt32.toInt32)), .val (.int ((p1.toUInt32.toUInt16.toUInt32.toInt32) - (48 : Int32))), .unset, .unset, .unset] [(.int (0 : Int32))])) _
          refine XS.istoreN X0.here hx rfl (hb hby at_23) rfl (l' := #[.val (.int p1), .val (.int (p1.toUInt32.toUInt16.toUInt32.toInt32)), .val (.int ((p1.toUInt32.toUInt16.toUInt32.toInt32) - (48 : Int32))), .val (.int (0 : Int32)), .unset, .unset]) rfl ?_
          show Steps p.tables e below (s₁.setTop (mkF m 24 #[.val (.int p1), .val (.int (p1.toUInt32.toUInt16.toUInt32.toInt32)), .val (.int ((p1.toUInt32.toUInt16.toUInt32.toInt32) - (48 : Int32))), .val (.int (0 : Int32)), .unset, .unset] [])) _
          refine XS.iloadN X0.here hx rfl (hb hby at_24) rfl ?_
          show Steps p.tables e below (s₁.setTop (mkF m 25 #[.val (.int p1), .val (.int (p1.toUInt32.toUInt16.toUInt32.toInt32)), .val (.int ((p1.toUInt32.toUInt16.toUInt32.toInt32) - (48 : Int32))), .val (.int (0 : Int32)), .unset, .unset] [(.int (p1.toUInt32.toUInt16.toUInt32.toInt32))])) _
          refine XS.bipush X0.here hx rfl (hb hby at_25) ?_
          show Steps p.tables e below (s₁.setTop (mkF m 27 #[.val (.int p1), .val (.int (p1.toUInt32.toUInt16.toUInt32.toInt32)), .val (.int ((p1.toUInt32.toUInt16.toUInt32.toInt32) - (48 : Int32))), .val (.int (0 : Int32)), .unset, .unset] [(.int (32 : Int32)), (.int (p1.toUInt32.toUInt16.toUInt32.toInt32))])) _
          refine XS.ior X0.here hx rfl (hb hby at_27) rfl ?_
          show Steps p.tables e below (s₁.setTop (mkF m 28 #[.val (.int p1), .val (.int (p1.toUInt32.toUInt16.toUInt32.toInt32)), .val (.int ((p1.toUInt32.toUInt16.toUInt32.toInt32) - (48 : Int32))), .val (.int (0 : Int32)), .unset, .unset] [(.int ((p1.toUInt32.toUInt16.toUInt32.toInt32) ||| (32 : Int32)))])) _
          refine XS.bipush X0.here hx rfl (hb hby at_28) ?_
          show Steps p.tables e below (s₁.setTop (mkF m 30 #[.val (.int p1), .val (.int (p1.toUInt32.toUInt16.toUInt32.toInt32)), .val (.int ((p1.toUInt32.toUInt16.toUInt32.toInt32) - (48 : Int32))), .val (.int (0 : Int32)), .unset, .unset] [(.int (97 : Int32)), (.int ((p1.toUInt32.toUInt16.toUInt32.toInt32) ||| (32 : Int32)))])) _
          refine XS.isub X0.here hx rfl (hb hby at_30) rfl ?_
          show Steps p.tables e below (s₁.setTop (mkF m 31 #[.val (.int p1), .val (.int (p1.toUInt32.toUInt16.toUInt32.toInt32)), .val (.int ((p1.toUInt32.toUInt16.toUInt32.toInt32) - (48 : Int32))), .val (.int (0 : Int32)), .unset, .unset] [(.int (((p1.toUInt32.toUInt16.toUInt32.toInt32) ||| (32 : Int32)) - (97 : Int32)))])) _
          refine XS.istore X0.here hx rfl (hb hby at_31) rfl (l' := #[.val (.int p1), .val (.int (p1.toUInt32.toUInt16.toUInt32.toInt32)), .val (.int ((p1.toUInt32.toUInt16.toUInt32.toInt32) - (48 : Int32))), .val (.int (0 : Int32)), .val (.int (((p1.toUInt32.toUInt16.toUInt32.toInt32) ||| (32 : Int32)) - (97 : Int32))), .unset]) rfl ?_
          show Steps p.tables e below (s₁.setTop (mkF m 33 #[.val (.int p1), .val (.int (p1.toUInt32.toUInt16.toUInt32.toInt32)), .val (.int ((p1.toUInt32.toUInt16.toUInt32.toInt32) - (48 : Int32))), .val (.int (0 : Int32)), .val (.int (((p1.toUInt32.toUInt16.toUInt32.toInt32) ||| (32 : Int32)) - (97 : Int32))), .unset] [])) _
          refine XS.iload X0.here hx rfl (hb hby at_33) rfl ?_
          show Steps p.tables e below (s₁.setTop (mkF m 35 #[.val (.int p1), .val (.int (p1.toUInt32.toUInt16.toUInt32.toInt32)), .val (.int ((p1.toUInt32.toUInt16.toUInt32.toInt32) - (48 : Int32))), .val (.int (0 : Int32)), .val (.int (((p1.toUInt32.toUInt16.toUInt32.toInt32) ||| (32 : Int32)) - (97 : Int32))), .unset] [(.int (((p1.toUInt32.toUInt16.toUInt32.toInt32) ||| (32 : Int32)) - (97 : Int32)))])) _
          refine XS.ifNo X0.here hx rfl (hb hby at_35) rfl ((if0 _ _).trans (flt hc35).1) ?_
          show Steps p.tables e below (s₁.setTop (mkF m 38 #[.val (.int p1), .val (.int (p1.toUInt32.toUInt16.toUInt32.toInt32)), .val (.int ((p1.toUInt32.toUInt16.toUInt32.toInt32) - (48 : Int32))), .val (.int (0 : Int32)), .val (.int (((p1.toUInt32.toUInt16.toUInt32.toInt32) ||| (32 : Int32)) - (97 : Int32))), .unset] [])) _
          refine XS.iload X0.here hx rfl (hb hby at_38) rfl ?_
          show Steps p.tables e below (s₁.setTop (mkF m 40 #[.val (.int p1), .val (.int (p1.toUInt32.toUInt16.toUInt32.toInt32)), .val (.int ((p1.toUInt32.toUInt16.toUInt32.toInt32) - (48 : Int32))), .val (.int (0 : Int32)), .val (.int (((p1.toUInt32.toUInt16.toUInt32.toInt32) ||| (32 : Int32)) - (97 : Int32))), .unset] [(.int (((p1.toUInt32.toUInt16.toUInt32.toInt32) ||| (32 : Int32)) - (97 : Int32)))])) _
          refine XS.bipush X0.here hx rfl (hb hby at_40) ?_
          show Steps p.tables e below (s₁.setTop (mkF m 42 #[.val (.int p1), .val (.int (p1.toUInt32.toUInt16.toUInt32.toInt32)), .val (.int ((p1.toUInt32.toUInt16.toUInt32.toInt32) - (48 : Int32))), .val (.int (0 : Int32)), .val (.int (((p1.toUInt32.toUInt16.toUInt32.toInt32) ||| (32 : Int32)) - (97 : Int32))), .unset] [(.int (26 : Int32)), (.int (((p1.toUInt32.toUInt16.toUInt32.toInt32) ||| (32 : Int32)) - (97 : Int32)))])) _
          refine XS.icmpNo X0.here hx rfl (hb hby at_42) rfl (tlt hc42).2.1 ?_
          show Steps p.tables e below (s₁.setTop (mkF m 45 #[.val (.int p1), .val (.int (p1.toUInt32.toUInt16.toUInt32.toInt32)), .val (.int ((p1.toUInt32.toUInt16.toUInt32.toInt32) - (48 : Int32))), .val (.int (0 : Int32)), .val (.int (((p1.toUInt32.toUInt16.toUInt32.toInt32) ||| (32 : Int32)) - (97 : Int32))), .unset] [])) _
          refine XS.iconst X0.here hx rfl (hb hby at_45) ?_
          show Steps p.tables e below (s₁.setTop (mkF m 46 #[.val (.int p1), .val (.int (p1.toUInt32.toUInt16.toUInt32.toInt32)), .val (.int ((p1.toUInt32.toUInt16.toUInt32.toInt32) - (48 : Int32))), .val (.int (0 : Int32)), .val (.int (((p1.toUInt32.toUInt16.toUInt32.toInt32) ||| (32 : Int32)) - (97 : Int32))), .unset] [(.int (1 : Int32))])) _
          refine XS.goto X0.here hx rfl (pc0 := 46) (pc' := 50) rfl (hb hby at_46) (by decide) (by decide) ?_
          show Steps p.tables e below (s₁.setTop (mkF m 50 #[.val (.int p1), .val (.int (p1.toUInt32.toUInt16.toUInt32.toInt32)), .val (.int ((p1.toUInt32.toUInt16.toUInt32.toInt32) - (48 : Int32))), .val (.int (0 : Int32)), .val (.int (((p1.toUInt32.toUInt16.toUInt32.toInt32) ||| (32 : Int32)) - (97 : Int32))), .unset] [(.int (1 : Int32))])) _
          refine XS.istore X0.here hx rfl (hb hby at_50) rfl (l' := #[.val (.int p1), .val (.int (p1.toUInt32.toUInt16.toUInt32.toInt32)), .val (.int ((p1.toUInt32.toUInt16.toUInt32.toInt32) - (48 : Int32))), .val (.int (0 : Int32)), .val (.int (((p1.toUInt32.toUInt16.toUInt32.toInt32) ||| (32 : Int32)) - (97 : Int32))), .val (.int (1 : Int32))]) rfl ?_
          show Steps p.tables e below (s₁.setTop (mkF m 52 #[.val (.int p1), .val (.int (p1.toUInt32.toUInt16.toUInt32.toInt32)), .val (.int ((p1.toUInt32.toUInt16.toUInt32.toInt32) - (48 : Int32))), .val (.int (0 : Int32)), .val (.int (((p1.toUInt32.toUInt16.toUInt32.toInt32) ||| (32 : Int32)) - (97 : Int32))), .val (.int (1 : Int32))] [])) _
          refine XS.iloadN X0.here hx rfl (hb hby at_52) rfl ?_
          show Steps p.tables e below (s₁.setTop (mkF m 53 #[.val (.int p1), .val (.int (p1.toUInt32.toUInt16.toUInt32.toInt32)), .val (.int ((p1.toUInt32.toUInt16.toUInt32.toInt32) - (48 : Int32))), .val (.int (0 : Int32)), .val (.int (((p1.toUInt32.toUInt16.toUInt32.toInt32) ||| (32 : Int32)) - (97 : Int32))), .val (.int (1 : Int32))] [(.int (p1.toUInt32.toUInt16.toUInt32.toInt32))])) _
          refine st2 _ ?_
          show Steps p.tables e below (T2.setTop (mkF m 56 #[.val (.int p1), .val (.int (p1.toUInt32.toUInt16.toUInt32.toInt32)), .val (.int ((p1.toUInt32.toUInt16.toUInt32.toInt32) - (48 : Int32))), .val (.int (0 : Int32)), .val (.int (((p1.toUInt32.toUInt16.toUInt32.toInt32) ||| (32 : Int32)) - (97 : Int32))), .val (.int (1 : Int32))] [(.int (own_f1 (p1.toUInt32.toUInt16.toUInt32.toInt32)))])) _
          refine XS.iloadN X2.here hx rfl (hb hby at_56) rfl ?_
          show Steps p.tables e below (T2.setTop (mkF m 57 #[.val (.int p1), .val (.int (p1.toUInt32.toUInt16.toUInt32.toInt32)), .val (.int ((p1.toUInt32.toUInt16.toUInt32.toInt32) - (48 : Int32))), .val (.int (0 : Int32)), .val (.int (((p1.toUInt32.toUInt16.toUInt32.toInt32) ||| (32 : Int32)) - (97 : Int32))), .val (.int (1 : Int32))] [(.int (0 : Int32)), (.int (own_f1 (p1.toUInt32.toUInt16.toUInt32.toInt32)))])) _
          refine XS.ifNo X2.here hx rfl (hb hby at_57) rfl ((if0 _ _).trans (teq (rfl : (0 : Int32) = (0 : Int32))).2) ?_
          show Steps p.tables e below (T2.setTop (mkF m 60 #[.val (.int p1), .val (.int (p1.toUInt32.toUInt16.toUInt32.toInt32)), .val (.int ((p1.toUInt32.toUInt16.toUInt32.toInt32) - (48 : Int32))), .val (.int (0 : Int32)), .val (.int (((p1.toUInt32.toUInt16.toUInt32.toInt32) ||| (32 : Int32)) - (97 : Int32))), .val (.int (1 : Int32))] [(.int (own_f1 (p1.toUInt32.toUInt16.toUInt32.toInt32)))])) _
          refine XS.iload X2.here hx rfl (hb hby at_60) rfl ?_
          show Steps p.tables e below (T2.setTop (mkF m 62 #[.val (.int p1), .val (.int (p1.toUInt32.toUInt16.toUInt32.toInt32)), .val (.int ((p1.toUInt32.toUInt16.toUInt32.toInt32) - (48 : Int32))), .val (.int (0 : Int32)), .val (.int (((p1.toUInt32.toUInt16.toUInt32.toInt32) ||| (32 : Int32)) - (97 : Int32))), .val (.int (1 : Int32))] [(.int (1 : Int32)), (.int (own_f1 (p1.toUInt32.toUInt16.toUInt32.toInt32)))])) _
          refine XS.ifNo X2.here hx rfl (hb hby at_62) rfl ((if0 _ _).trans (feq hc62).1) ?_
          show Steps p.tables e below (T2.setTop (mkF m 65 #[.val (.int p1), .val (.int (p1.toUInt32.toUInt16.toUInt32.toInt32)), .val (.int ((p1.toUInt32.toUInt16.toUInt32.toInt32) - (48 : Int32))), .val (.int (0 : Int32)), .val (.int (((p1.toUInt32.toUInt16.toUInt32.toInt32) ||| (32 : Int32)) - (97 : Int32))), .val (.int (1 : Int32))] [(.int (own_f1 (p1.toUInt32.toUInt16.toUInt32.toInt32)))])) _
          refine XS.iconst X2.here hx rfl (hb hby at_65) ?_
          show Steps p.tables e below (T2.setTop (mkF m 66 #[.val (.int p1), .val (.int (p1.toUInt32.toUInt16.toUInt32.toInt32)), .val (.int ((p1.toUInt32.toUInt16.toUInt32.toInt32) - (48 : Int32))), .val (.int (0 : Int32)), .val (.int (((p1.toUInt32.toUInt16.toUInt32.toInt32) ||| (32 : Int32)) - (97 : Int32))), .val (.int (1 : Int32))] [(.int (1 : Int32)), (.int (own_f1 (p1.toUInt32.toUInt16.toUInt32.toInt32)))])) _
          refine XS.goto X2.here hx rfl (pc0 := 66) (pc' := 70) rfl (hb hby at_66) (by decide) (by decide) ?_
          show Steps p.tables e below (T2.setTop (mkF m 70 #[.val (.int p1), .val (.int (p1.toUInt32.toUInt16.toUInt32.toInt32)), .val (.int ((p1.toUInt32.toUInt16.toUInt32.toInt32) - (48 : Int32))), .val (.int (0 : Int32)), .val (.int (((p1.toUInt32.toUInt16.toUInt32.toInt32) ||| (32 : Int32)) - (97 : Int32))), .val (.int (1 : Int32))] [(.int (1 : Int32)), (.int (own_f1 (p1.toUInt32.toUInt16.toUInt32.toInt32)))])) _
          refine XS.icmpNo X2.here hx rfl (hb hby at_70) rfl (teq (show (own_f1 (p1.toUInt32.toUInt16.toUInt32.toInt32)) = (1 : Int32) by first | exact own_1a _ (c_i2c p1).2 hc9 hc15 | exact own_1b _ (c_i2c p1).2 hc35 hc42 | exact own_0 _ (c_i2c p1).2 (Or.inl hc9) (Or.inl hc35) | exact own_0 _ (c_i2c p1).2 (Or.inl hc9) (Or.inr hc42) | exact own_0 _ (c_i2c p1).2 (Or.inr hc15) (Or.inl hc35) | exact own_0 _ (c_i2c p1).2 (Or.inr hc15) (Or.inr hc42))).2 ?_
          show Steps p.tables e below (T2.setTop (mkF m 73 #[.val (.int p1), .val (.int (p1.toUInt32.toUInt16.toUInt32.toInt32)), .val (.int ((p1.toUInt32.toUInt16.toUInt32.toInt32) - (48 : Int32))), .val (.int (0 : Int32)), .val (.int (((p1.toUInt32.toUInt16.toUInt32.toInt32) ||| (32 : Int32)) - (97 : Int32))), .val (.int (1 : Int32))] [])) _
          refine XS.iconst X2.here hx rfl (hb hby at_73) ?_
          show Steps p.tables e below (T2.setTop (mkF m 74 #[.val (.int p1), .val (.int (p1.toUInt32.toUInt16.toUInt32.toInt32)), .val (.int ((p1.toUInt32.toUInt16.toUInt32.toInt32) - (48 : Int32))), .val (.int (0 : Int32)), .val (.int (((p1.toUInt32.toUInt16.toUInt32.toInt32) ||| (32 : Int32)) - (97 : Int32))), .val (.int (1 : Int32))] [(.int (1 : Int32))])) _
          refine XS.goto X2.here hx rfl (pc0 := 74) (pc' := 78) rfl (hb hby at_74) (by decide) (by decide) ?_
          show Steps p.tables e below (T2.setTop (mkF m 78 #[.val (.int p1), .val (.int (p1.toUInt32.toUInt16.toUInt32.toInt32)), .val (.int ((p1.toUInt32.toUInt16.toUInt32.toInt32) - (48 : Int32))), .val (.int (0 : Int32)), .val (.int (((p1.toUInt32.toUInt16.toUInt32.toInt32) ||| (32 : Int32)) - (97 : Int32))), .val (.int (1 : Int32))] [(.int (1 : Int32))])) _
          exact retN X2 hx (t := .boolean) Bd.returns (by simp) (hb hby at_78) hr
        · show Q0 Z p1 h0 n0 _ T2.heap _
          exact ⟨rfl, N2⟩
      · obtain ⟨_, _, ⟨T2, L2, k2, n2⟩, -, X2, ⟨Lc2, hQ2, l2, y2, z2⟩, st2⟩ := Jvm.LawKit.callS X0 hx (y := (⟨"com/example/usher/usher/Member", "isLetterOrDigit", "(C)Z"⟩ : MethodName)) hown (mvT hZ (hw _ (List.mem_of_getElem? (i := 0) rfl))) (mvT hZ (hw _ (List.mem_of_getElem? (i := 1) rfl))) (mvT hZ (hw _ (List.mem_of_getElem? (i := 2) rfl))) (mvT hZ (hw _ (List.mem_of_getElem? (i := 3) rfl))) (by decide) (backOf (W := 0) (rm1 l Z a0 hw [] (p1.toUInt32.toUInt16.toUInt32.toInt32) h0 n0 Z0) hZ (hw _ (List.mem_of_getElem? (i := 3) rfl)) (hw _ (List.mem_of_getElem? (i := 2) rfl)) (by decide) (by decide)) (g := (mkF m 53 #[.val (.int p1), .val (.int (p1.toUInt32.toUInt16.toUInt32.toInt32)), .val (.int ((p1.toUInt32.toUInt16.toUInt32.toInt32) - (48 : Int32))), .val (.int (0 : Int32)), .val (.int (((p1.toUInt32.toUInt16.toUInt32.toInt32) ||| (32 : Int32)) - (97 : Int32))), .val (.int (0 : Int32))] [(.int (p1.toUInt32.toUInt16.toUInt32.toInt32))])) rfl (by rw [hml]; rfl) (argsL := [(.int (p1.toUInt32.toUInt16.toUInt32.toInt32))]) (rest := []) (lenOf pd_0_0 rfl) rfl (by show 2 * 0 + _ ≤ _; exact Nat.le_of_eq rfl) (hb hby at_53) (fun _ _ => ⟨rfl, e0, (by decide : 0 + 0 ≤ _), (by decide : 0 + 0 ≤ _)⟩)
        dsimp only [Pt.U, Pt.locs, Pt.cells, Pt.slots] at X2 l2 y2 z2 st2 hQ2
        subst l2 y2 z2
        obtain ⟨rfl, N2q, q2'⟩ := hQ2
        have q2 : T2.heap = h0 := q2'
        have N2 := Fr.app N0 N2q
        obtain ⟨fs, hr, hrun, hended, hW, hsame⟩ := X2.leave (v := some (.int (1 : Int32))) (fun h => by rw [Bd.returns] at h; cases h)
        refine ⟨_, _, pre0 _ ?_, hrun, hended, _, _, rfl, ?_, ⟨_, rfl⟩, hW, hsame.mono (by decide) (by decide)⟩
        · show Steps p.tables e below (s₁.setTop (mkF m 0 #[.val (.int p1), .unset, .unset, .unset, .unset, .unset] [])) _
          refine XS.iloadN X0.here hx rfl (hb hby at_0) rfl ?_
          show Steps p.tables e below (s₁.setTop (mkF m 1 #[.val (.int p1), .unset, .unset, .unset, .unset, .unset] [(.int p1)])) _
          refine XS.i2c X0.here hx rfl (hb hby at_1) rfl ?_
          show Steps p.tables e below (s₁.setTop (mkF m 2 #[.val (.int p1), .unset, .unset, .unset, .unset, .unset] [(.int (p1.toUInt32.toUInt16.toUInt32.toInt32))])) _
          refine XS.istoreN X0.here hx rfl (hb hby at_2) rfl (l' := #[.val (.int p1), .val (.int (p1.toUInt32.toUInt16.toUInt32.toInt32)), .unset, .unset, .unset, .unset]) rfl ?_
          show Steps p.tables e below (s₁.setTop (mkF m 3 #[.val (.int p1), .val (.int (p1.toUInt32.toUInt16.toUInt32.toInt32)), .unset, .unset, .unset, .unset] [])) _
          refine XS.iloadN X0.here hx rfl (hb hby at_3) rfl ?_
          show Steps p.tables e below (s₁.setTop (mkF m 4 #[.val (.int p1), .val (.int (p1.toUInt32.toUInt16.toUInt32.toInt32)), .unset, .unset, .unset, .unset] [(.int (p1.toUInt32.toUInt16.toUInt32.toInt32))])) _
          refine XS.bipush X0.here hx rfl (hb hby at_4) ?_
          show Steps p.tables e below (s₁.setTop (mkF m 6 #[.val (.int p1), .val (.int (p1.toUInt32.toUInt16.toUInt32.toInt32)), .unset, .unset, .unset, .unset] [(.int (48 : Int32)), (.int (p1.toUInt32.toUInt16.toUInt32.toInt32))])) _
          refine XS.isub X0.here hx rfl (hb hby at_6) rfl ?_
          show Steps p.tables e below (s₁.setTop (mkF m 7 #[.val (.int p1), .val (.int (p1.toUInt32.toUInt16.toUInt32.toInt32)), .unset, .unset, .unset, .unset] [(.int ((p1.toUInt32.toUInt16.toUInt32.toInt32) - (48 : Int32)))])) _
          refine XS.istoreN X0.here hx rfl (hb hby at_7) rfl (l' := #[.val (.int p1), .val (.int (p1.toUInt32.toUInt16.toUInt32.toInt32)), .val (.int ((p1.toUInt32.toUInt16.toUInt32.toInt32) - (48 : Int32))), .unset, .unset, .unset]) rfl ?_
          show Steps p.tables e below (s₁.setTop (mkF m 8 #[.val (.int p1), .val (.int (p1.toUInt32.toUInt16.toUInt32.toInt32)), .val (.int ((p1.toUInt32.toUInt16.toUInt32.toInt32) - (48 : Int32))), .unset, .unset, .unset] [])) _
          refine XS.iloadN X0.here hx rfl (hb hby at_8) rfl ?_
          show Steps p.tables e below (s₁.setTop (mkF m 9 #[.val (.int p1), .val (.int (p1.toUInt32.toUInt16.toUInt32.toInt32)), .val (.int ((p1.toUInt32.toUInt16.toUInt32.toInt32) - (48 : Int32))), .unset, .unset, .unset] [(.int ((p1.toUInt32.toUInt16.toUInt32.toInt32) - (48 : Int32)))])) _
          refine XS.ifYes X0.here hx rfl (pc0 := 9) (pc' := 22) rfl (hb hby at_9) rfl ((if0 _ _).trans (tlt hc9).1) (by decide) (by decide) ?_
          show Steps p.tables e below (s₁.setTop (mkF m 22 #[.val (.int p1), .val (.int (p1.toUInt32.toUInt16.toUInt32.toInt32)), .val (.int ((p1.toUInt32.toUInt16.toUInt32.toInt32) - (48 : Int32))), .unset, .unset, .unset] [])) _
          refine XS.iconst X0.here hx rfl (hb hby at_22) ?_
          show Steps p.tables e below (s₁.setTop (mkF m 23 #[.val (.int p1), .val (.int (p1.toUInt32.toUInt16.toUInt32.toInt32)), .val (.int ((p1.toUInt32.toUInt16.toUInt32.toInt32) - (48 : Int32))), .unset, .unset, .unset] [(.int (0 : Int32))])) _
          refine XS.istoreN X0.here hx rfl (hb hby at_23) rfl (l' := #[.val (.int p1), .val (.int (p1.toUInt32.toUInt16.toUInt32.toInt32)), .val (.int ((p1.toUInt32.toUInt16.toUInt32.toInt32) - (48 : Int32))), .val (.int (0 : Int32)), .unset, .unset]) rfl ?_
          show Steps p.tables e below (s₁.setTop (mkF m 24 #[.val (.int p1), .val (.int (p1.toUInt32.toUInt16.toUInt32.toInt32)), .val (.int ((p1.toUInt32.toUInt16.toUInt32.toInt32) - (48 : Int32))), .val (.int (0 : Int32)), .unset, .unset] [])) _
          refine XS.iloadN X0.here hx rfl (hb hby at_24) rfl ?_
          show Steps p.tables e below (s₁.setTop (mkF m 25 #[.val (.int p1), .val (.int (p1.toUInt32.toUInt16.toUInt32.toInt32)), .val (.int ((p1.toUInt32.toUInt16.toUInt32.toInt32) - (48 : Int32))), .val (.int (0 : Int32)), .unset, .unset] [(.int (p1.toUInt32.toUInt16.toUInt32.toInt32))])) _
          refine XS.bipush X0.here hx rfl (hb hby at_25) ?_
          show Steps p.tables e below (s₁.setTop (mkF m 27 #[.val (.int p1), .val (.int (p1.toUInt32.toUInt16.toUInt32.toInt32)), .val (.int ((p1.toUInt32.toUInt16.toUInt32.toInt32) - (48 : Int32))), .val (.int (0 : Int32)), .unset, .unset] [(.int (32 : Int32)), (.int (p1.toUInt32.toUInt16.toUInt32.toInt32))])) _
          refine XS.ior X0.here hx rfl (hb hby at_27) rfl ?_
          show Steps p.tables e below (s₁.setTop (mkF m 28 #[.val (.int p1), .val (.int (p1.toUInt32.toUInt16.toUInt32.toInt32)), .val (.int ((p1.toUInt32.toUInt16.toUInt32.toInt32) - (48 : Int32))), .val (.int (0 : Int32)), .unset, .unset] [(.int ((p1.toUInt32.toUInt16.toUInt32.toInt32) ||| (32 : Int32)))])) _
          refine XS.bipush X0.here hx rfl (hb hby at_28) ?_
          show Steps p.tables e below (s₁.setTop (mkF m 30 #[.val (.int p1), .val (.int (p1.toUInt32.toUInt16.toUInt32.toInt32)), .val (.int ((p1.toUInt32.toUInt16.toUInt32.toInt32) - (48 : Int32))), .val (.int (0 : Int32)), .unset, .unset] [(.int (97 : Int32)), (.int ((p1.toUInt32.toUInt16.toUInt32.toInt32) ||| (32 : Int32)))])) _
          refine XS.isub X0.here hx rfl (hb hby at_30) rfl ?_
          show Steps p.tables e below (s₁.setTop (mkF m 31 #[.val (.int p1), .val (.int (p1.toUInt32.toUInt16.toUInt32.toInt32)), .val (.int ((p1.toUInt32.toUInt16.toUInt32.toInt32) - (48 : Int32))), .val (.int (0 : Int32)), .unset, .unset] [(.int (((p1.toUInt32.toUInt16.toUInt32.toInt32) ||| (32 : Int32)) - (97 : Int32)))])) _
          refine XS.istore X0.here hx rfl (hb hby at_31) rfl (l' := #[.val (.int p1), .val (.int (p1.toUInt32.toUInt16.toUInt32.toInt32)), .val (.int ((p1.toUInt32.toUInt16.toUInt32.toInt32) - (48 : Int32))), .val (.int (0 : Int32)), .val (.int (((p1.toUInt32.toUInt16.toUInt32.toInt32) ||| (32 : Int32)) - (97 : Int32))), .unset]) rfl ?_
          show Steps p.tables e below (s₁.setTop (mkF m 33 #[.val (.int p1), .val (.int (p1.toUInt32.toUInt16.toUInt32.toInt32)), .val (.int ((p1.toUInt32.toUInt16.toUInt32.toInt32) - (48 : Int32))), .val (.int (0 : Int32)), .val (.int (((p1.toUInt32.toUInt16.toUInt32.toInt32) ||| (32 : Int32)) - (97 : Int32))), .unset] [])) _
          refine XS.iload X0.here hx rfl (hb hby at_33) rfl ?_
          show Steps p.tables e below (s₁.setTop (mkF m 35 #[.val (.int p1), .val (.int (p1.toUInt32.toUInt16.toUInt32.toInt32)), .val (.int ((p1.toUInt32.toUInt16.toUInt32.toInt32) - (48 : Int32))), .val (.int (0 : Int32)), .val (.int (((p1.toUInt32.toUInt16.toUInt32.toInt32) ||| (32 : Int32)) - (97 : Int32))), .unset] [(.int (((p1.toUInt32.toUInt16.toUInt32.toInt32) ||| (32 : Int32)) - (97 : Int32)))])) _
          refine XS.ifNo X0.here hx rfl (hb hby at_35) rfl ((if0 _ _).trans (flt hc35).1) ?_
          show Steps p.tables e below (s₁.setTop (mkF m 38 #[.val (.int p1), .val (.int (p1.toUInt32.toUInt16.toUInt32.toInt32)), .val (.int ((p1.toUInt32.toUInt16.toUInt32.toInt32) - (48 : Int32))), .val (.int (0 : Int32)), .val (.int (((p1.toUInt32.toUInt16.toUInt32.toInt32) ||| (32 : Int32)) - (97 : Int32))), .unset] [])) _
          refine XS.iload X0.here hx rfl (hb hby at_38) rfl ?_
          show Steps p.tables e below (s₁.setTop (mkF m 40 #[.val (.int p1), .val (.int (p1.toUInt32.toUInt16.toUInt32.toInt32)), .val (.int ((p1.toUInt32.toUInt16.toUInt32.toInt32) - (48 : Int32))), .val (.int (0 : Int32)), .val (.int (((p1.toUInt32.toUInt16.toUInt32.toInt32) ||| (32 : Int32)) - (97 : Int32))), .unset] [(.int (((p1.toUInt32.toUInt16.toUInt32.toInt32) ||| (32 : Int32)) - (97 : Int32)))])) _
          refine XS.bipush X0.here hx rfl (hb hby at_40) ?_
          show Steps p.tables e below (s₁.setTop (mkF m 42 #[.val (.int p1), .val (.int (p1.toUInt32.toUInt16.toUInt32.toInt32)), .val (.int ((p1.toUInt32.toUInt16.toUInt32.toInt32) - (48 : Int32))), .val (.int (0 : Int32)), .val (.int (((p1.toUInt32.toUInt16.toUInt32.toInt32) ||| (32 : Int32)) - (97 : Int32))), .unset] [(.int (26 : Int32)), (.int (((p1.toUInt32.toUInt16.toUInt32.toInt32) ||| (32 : Int32)) - (97 : Int32)))])) _
          refine XS.icmpYes X0.here hx rfl (pc0 := 42) (pc' := 49) rfl (hb hby at_42) rfl (flt hc42).2.1 (by decide) (by decide) ?_
          show Steps p.tables e below (s₁.setTop (mkF m 49 #[.val (.int p1), .val (.int (p1.toUInt32.toUInt16.toUInt32.toInt32)), .val (.int ((p1.toUInt32.toUInt16.toUInt32.toInt32) - (48 : Int32))), .val (.int (0 : Int32)), .val (.int (((p1.toUInt32.toUInt16.toUInt32.toInt32) ||| (32 : Int32)) - (97 : Int32))), .unset] [])) _
          refine XS.iconst X0.here hx rfl (hb hby at_49) ?_
          show Steps p.tables e below (s₁.setTop (mkF m 50 #[.val (.int p1), .val (.int (p1.toUInt32.toUInt16.toUInt32.toInt32)), .val (.int ((p1.toUInt32.toUInt16.toUInt32.toInt32) - (48 : Int32))), .val (.int (0 : Int32)), .val (.int (((p1.toUInt32.toUInt16.toUInt32.toInt32) ||| (32 : Int32)) - (97 : Int32))), .unset] [(.int (0 : Int32))])) _
          refine XS.istore X0.here hx rfl (hb hby at_50) rfl (l' := #[.val (.int p1), .val (.int (p1.toUInt32.toUInt16.toUInt32.toInt32)), .val (.int ((p1.toUInt32.toUInt16.toUInt32.toInt32) - (48 : Int32))), .val (.int (0 : Int32)), .val (.int (((p1.toUInt32.toUInt16.toUInt32.toInt32) ||| (32 : Int32)) - (97 : Int32))), .val (.int (0 : Int32))]) rfl ?_
          show Steps p.tables e below (s₁.setTop (mkF m 52 #[.val (.int p1), .val (.int (p1.toUInt32.toUInt16.toUInt32.toInt32)), .val (.int ((p1.toUInt32.toUInt16.toUInt32.toInt32) - (48 : Int32))), .val (.int (0 : Int32)), .val (.int (((p1.toUInt32.toUInt16.toUInt32.toInt32) ||| (32 : Int32)) - (97 : Int32))), .val (.int (0 : Int32))] [])) _
          refine XS.iloadN X0.here hx rfl (hb hby at_52) rfl ?_
          show Steps p.tables e below (s₁.setTop (mkF m 53 #[.val (.int p1), .val (.int (p1.toUInt32.toUInt16.toUInt32.toInt32)), .val (.int ((p1.toUInt32.toUInt16.toUInt32.toInt32) - (48 : Int32))), .val (.int (0 : Int32)), .val (.int (((p1.toUInt32.toUInt16.toUInt32.toInt32) ||| (32 : Int32)) - (97 : Int32))), .val (.int (0 : Int32))] [(.int (p1.toUInt32.toUInt16.toUInt32.toInt32))])) _
          refine st2 _ ?_
          show Steps p.tables e below (T2.setTop (mkF m 56 #[.val (.int p1), .val (.int (p1.toUInt32.toUInt16.toUInt32.toInt32)), .val (.int ((p1.toUInt32.toUInt16.toUInt32.toInt32) - (48 : Int32))), .val (.int (0 : Int32)), .val (.int (((p1.toUInt32.toUInt16.toUInt32.toInt32) ||| (32 : Int32)) - (97 : Int32))), .val (.int (0 : Int32))] [(.int (own_f1 (p1.toUInt32.toUInt16.toUInt32.toInt32)))])) _
          refine XS.iloadN X2.here hx rfl (hb hby at_56) rfl ?_
          show Steps p.tables e below (T2.setTop (mkF m 57 #[.val (.int p1), .val (.int (p1.toUInt32.toUInt16.toUInt32.toInt32)), .val (.int ((p1.toUInt32.toUInt16.toUInt32.toInt32) - (48 : Int32))), .val (.int (0 : Int32)), .val (.int (((p1.toUInt32.toUInt16.toUInt32.toInt32) ||| (32 : Int32)) - (97 : Int32))), .val (.int (0 : Int32))] [(.int (0 : Int32)), (.int (own_f1 (p1.toUInt32.toUInt16.toUInt32.toInt32)))])) _
          refine XS.ifNo X2.here hx rfl (hb hby at_57) rfl ((if0 _ _).trans (teq (rfl : (0 : Int32) = (0 : Int32))).2) ?_
          show Steps p.tables e below (T2.setTop (mkF m 60 #[.val (.int p1), .val (.int (p1.toUInt32.toUInt16.toUInt32.toInt32)), .val (.int ((p1.toUInt32.toUInt16.toUInt32.toInt32) - (48 : Int32))), .val (.int (0 : Int32)), .val (.int (((p1.toUInt32.toUInt16.toUInt32.toInt32) ||| (32 : Int32)) - (97 : Int32))), .val (.int (0 : Int32))] [(.int (own_f1 (p1.toUInt32.toUInt16.toUInt32.toInt32)))])) _
          refine XS.iload X2.here hx rfl (hb hby at_60) rfl ?_
          show Steps p.tables e below (T2.setTop (mkF m 62 #[.val (.int p1), .val (.int (p1.toUInt32.toUInt16.toUInt32.toInt32)), .val (.int ((p1.toUInt32.toUInt16.toUInt32.toInt32) - (48 : Int32))), .val (.int (0 : Int32)), .val (.int (((p1.toUInt32.toUInt16.toUInt32.toInt32) ||| (32 : Int32)) - (97 : Int32))), .val (.int (0 : Int32))] [(.int (0 : Int32)), (.int (own_f1 (p1.toUInt32.toUInt16.toUInt32.toInt32)))])) _
          refine XS.ifYes X2.here hx rfl (pc0 := 62) (pc' := 69) rfl (hb hby at_62) rfl ((if0 _ _).trans (teq (rfl : (0 : Int32) = (0 : Int32))).1) (by decide) (by decide) ?_
          show Steps p.tables e below (T2.setTop (mkF m 69 #[.val (.int p1), .val (.int (p1.toUInt32.toUInt16.toUInt32.toInt32)), .val (.int ((p1.toUInt32.toUInt16.toUInt32.toInt32) - (48 : Int32))), .val (.int (0 : Int32)), .val (.int (((p1.toUInt32.toUInt16.toUInt32.toInt32) ||| (32 : Int32)) - (97 : Int32))), .val (.int (0 : Int32))] [(.int (own_f1 (p1.toUInt32.toUInt16.toUInt32.toInt32)))])) _
          refine XS.iconst X2.here hx rfl (hb hby at_69) ?_
          show Steps p.tables e below (T2.setTop (mkF m 70 #[.val (.int p1), .val (.int (p1.toUInt32.toUInt16.toUInt32.toInt32)), .val (.int ((p1.toUInt32.toUInt16.toUInt32.toInt32) - (48 : Int32))), .val (.int (0 : Int32)), .val (.int (((p1.toUInt32.toUInt16.toUInt32.toInt32) ||| (32 : Int32)) - (97 : Int32))), .val (.int (0 : Int32))] [(.int (0 : Int32)), (.int (own_f1 (p1.toUInt32.toUInt16.toUInt32.toInt32)))])) _
          refine XS.icmpNo X2.here hx rfl (hb hby at_70) rfl (teq (show (own_f1 (p1.toUInt32.toUInt16.toUInt32.toInt32)) = (0 : Int32) by first | exact own_1a _ (c_i2c p1).2 hc9 hc15 | exact own_1b _ (c_i2c p1).2 hc35 hc42 | exact own_0 _ (c_i2c p1).2 (Or.inl hc9) (Or.inl hc35) | exact own_0 _ (c_i2c p1).2 (Or.inl hc9) (Or.inr hc42) | exact own_0 _ (c_i2c p1).2 (Or.inr hc15) (Or.inl hc35) | exact own_0 _ (c_i2c p1).2 (Or.inr hc15) (Or.inr hc42))).2 ?_
          show Steps p.tables e below (T2.setTop (mkF m 73 #[.val (.int p1), .val (.int (p1.toUInt32.toUInt16.toUInt32.toInt32)), .val (.int ((p1.toUInt32.toUInt16.toUInt32.toInt32) - (48 : Int32))), .val (.int (0 : Int32)), .val (.int (((p1.toUInt32.toUInt16.toUInt32.toInt32) ||| (32 : Int32)) - (97 : Int32))), .val (.int (0 : Int32))] [])) _
          refine XS.iconst X2.here hx rfl (hb hby at_73) ?_
          show Steps p.tables e below (T2.setTop (mkF m 74 #[.val (.int p1), .val (.int (p1.toUInt32.toUInt16.toUInt32.toInt32)), .val (.int ((p1.toUInt32.toUInt16.toUInt32.toInt32) - (48 : Int32))), .val (.int (0 : Int32)), .val (.int (((p1.toUInt32.toUInt16.toUInt32.toInt32) ||| (32 : Int32)) - (97 : Int32))), .val (.int (0 : Int32))] [(.int (1 : Int32))])) _
          refine XS.goto X2.here hx rfl (pc0 := 74) (pc' := 78) rfl (hb hby at_74) (by decide) (by decide) ?_
          show Steps p.tables e below (T2.setTop (mkF m 78 #[.val (.int p1), .val (.int (p1.toUInt32.toUInt16.toUInt32.toInt32)), .val (.int ((p1.toUInt32.toUInt16.toUInt32.toInt32) - (48 : Int32))), .val (.int (0 : Int32)), .val (.int (((p1.toUInt32.toUInt16.toUInt32.toInt32) ||| (32 : Int32)) - (97 : Int32))), .val (.int (0 : Int32))] [(.int (1 : Int32))])) _
          exact retN X2 hx (t := .boolean) Bd.returns (by simp) (hb hby at_78) hr
        · show Q0 Z p1 h0 n0 _ T2.heap _
          exact ⟨rfl, N2⟩
  · by_cases hc15 : ((p1.toUInt32.toUInt16.toUInt32.toInt32) - (48 : Int32)) < (10 : Int32)
    · by_cases hc35 : (((p1.toUInt32.toUInt16.toUInt32.toInt32) ||| (32 : Int32)) - (97 : Int32)) < (0 : Int32)
      · have hc57 : ¬ ((1 : Int32) = (0 : Int32)) := by decide
        obtain ⟨_, _, ⟨T2, L2, k2, n2⟩, -, X2, ⟨Lc2, hQ2, l2, y2, z2⟩, st2⟩ := Jvm.LawKit.callS X0 hx (y := (⟨"com/example/usher/usher/Member", "isLetterOrDigit", "(C)Z"⟩ : MethodName)) hown (mvT hZ (hw _ (List.mem_of_getElem? (i := 0) rfl))) (mvT hZ (hw _ (List.mem_of_getElem? (i := 1) rfl))) (mvT hZ (hw _ (List.mem_of_getElem? (i := 2) rfl))) (mvT hZ (hw _ (List.mem_of_getElem? (i := 3) rfl))) (by decide) (backOf (W := 0) (rm1 l Z a0 hw [] (p1.toUInt32.toUInt16.toUInt32.toInt32) h0 n0 Z0) hZ (hw _ (List.mem_of_getElem? (i := 3) rfl)) (hw _ (List.mem_of_getElem? (i := 2) rfl)) (by decide) (by decide)) (g := (mkF m 53 #[.val (.int p1), .val (.int (p1.toUInt32.toUInt16.toUInt32.toInt32)), .val (.int ((p1.toUInt32.toUInt16.toUInt32.toInt32) - (48 : Int32))), .val (.int (1 : Int32)), .val (.int (((p1.toUInt32.toUInt16.toUInt32.toInt32) ||| (32 : Int32)) - (97 : Int32))), .val (.int (0 : Int32))] [(.int (p1.toUInt32.toUInt16.toUInt32.toInt32))])) rfl (by rw [hml]; rfl) (argsL := [(.int (p1.toUInt32.toUInt16.toUInt32.toInt32))]) (rest := []) (lenOf pd_0_0 rfl) rfl (by show 2 * 0 + _ ≤ _; exact Nat.le_of_eq rfl) (hb hby at_53) (fun _ _ => ⟨rfl, e0, (by decide : 0 + 0 ≤ _), (by decide : 0 + 0 ≤ _)⟩)
        dsimp only [Pt.U, Pt.locs, Pt.cells, Pt.slots] at X2 l2 y2 z2 st2 hQ2
        subst l2 y2 z2
        obtain ⟨rfl, N2q, q2'⟩ := hQ2
        have q2 : T2.heap = h0 := q2'
        have N2 := Fr.app N0 N2q
        obtain ⟨fs, hr, hrun, hended, hW, hsame⟩ := X2.leave (v := some (.int (1 : Int32))) (fun h => by rw [Bd.returns] at h; cases h)
        refine ⟨_, _, pre0 _ ?_, hrun, hended, _, _, rfl, ?_, ⟨_, rfl⟩, hW, hsame.mono (by decide) (by decide)⟩
        · show Steps p.tables e below (s₁.setTop (mkF m 0 #[.val (.int p1), .unset, .unset, .unset, .unset, .unset] [])) _
          refine XS.iloadN X0.here hx rfl (hb hby at_0) rfl ?_
          show Steps p.tables e below (s₁.setTop (mkF m 1 #[.val (.int p1), .unset, .unset, .unset, .unset, .unset] [(.int p1)])) _
          refine XS.i2c X0.here hx rfl (hb hby at_1) rfl ?_
          show Steps p.tables e below (s₁.setTop (mkF m 2 #[.val (.int p1), .unset, .unset, .unset, .unset, .unset] [(.int (p1.toUInt32.toUInt16.toUInt32.toInt32))])) _
          refine XS.istoreN X0.here hx rfl (hb hby at_2) rfl (l' := #[.val (.int p1), .val (.int (p1.toUInt32.toUInt16.toUInt32.toInt32)), .unset, .unset, .unset, .unset]) rfl ?_
          show Steps p.tables e below (s₁.setTop (mkF m 3 #[.val (.int p1), .val (.int (p1.toUInt32.toUInt16.toUInt32.toInt32)), .unset, .unset, .unset, .unset] [])) _
          refine XS.iloadN X0.here hx rfl (hb hby at_3) rfl ?_
          show Steps p.tables e below (s₁.setTop (mkF m 4 #[.val (.int p1), .val (.int (p1.toUInt32.toUInt16.toUInt32.toInt32)), .unset, .unset, .unset, .unset] [(.int (p1.toUInt32.toUInt16.toUInt32.toInt32))])) _
          refine XS.bipush X0.here hx rfl (hb hby at_4) ?_
          show Steps p.tables e below (s₁.setTop (mkF m 6 #[.val (.int p1), .val (.int (p1.toUInt32.toUInt16.toUInt32.toInt32)), .unset, .unset, .unset, .unset] [(.int (48 : Int32)), (.int (p1.toUInt32.toUInt16.toUInt32.toInt32))])) _
          refine XS.isub X0.here hx rfl (hb hby at_6) rfl ?_
          show Steps p.tables e below (s₁.setTop (mkF m 7 #[.val (.int p1), .val (.int (p1.toUInt32.toUInt16.toUInt32.toInt32)), .unset, .unset, .unset, .unset] [(.int ((p1.toUInt32.toUInt16.toUInt32.toInt32) - (48 : Int32)))])) _
          refine XS.istoreN X0.here hx rfl (hb hby at_7) rfl (l' := #[.val (.int p1), .val (.int (p1.toUInt32.toUInt16.toUInt32.toInt32)), .val (.int ((p1.toUInt32.toUInt16.toUInt32.toInt32) - (48 : Int32))), .unset, .unset, .unset]) rfl ?_
          show Steps p.tables e below (s₁.setTop (mkF m 8 #[.val (.int p1), .val (.int (p1.toUInt32.toUInt16.toUInt32.toInt32)), .val (.int ((p1.toUInt32.toUInt16.toUInt32.toInt32) - (48 : Int32))), .unset, .unset, .unset] [])) _
          refine XS.iloadN X0.here hx rfl (hb hby at_8) rfl ?_
          show Steps p.tables e below (s₁.setTop (mkF m 9 #[.val (.int p1), .val (.int (p1.toUInt32.toUInt16.toUInt32.toInt32)), .val (.int ((p1.toUInt32.toUInt16.toUInt32.toInt32) - (48 : Int32))), .unset, .unset, .unset] [(.int ((p1.toUInt32.toUInt16.toUInt32.toInt32) - (48 : Int32)))])) _
          refine XS.ifNo X0.here hx rfl (hb hby at_9) rfl ((if0 _ _).trans (flt hc9).1) ?_
          show Steps p.tables e below (s₁.setTop (mkF m 12 #[.val (.int p1), .val (.int (p1.toUInt32.toUInt16.toUInt32.toInt32)), .val (.int ((p1.toUInt32.toUInt16.toUInt32.toInt32) - (48 : Int32))), .unset, .unset, .unset] [])) _
          refine XS.iloadN X0.here hx rfl (hb hby at_12) rfl ?_
          show Steps p.tables e below (s₁.setTop (mkF m 13 #[.val (.int p1), .val (.int (p1.toUInt32.toUInt16.toUInt32.toInt32)), .val (.int ((p1.toUInt32.toUInt16.toUInt32.toInt32) - (48 : Int32))), .unset, .unset, .unset] [(.int ((p1.toUInt32.toUInt16.toUInt32.toInt32) - (48 : Int32)))])) _
          refine XS.bipush X0.here hx rfl (hb hby at_13) ?_
          show Steps p.tables e below (s₁.setTop (mkF m 15 #[.val (.int p1), .val (.int (p1.toUInt32.toUInt16.toUInt32.toInt32)), .val (.int ((p1.toUInt32.toUInt16.toUInt32.toInt32) - (48 : Int32))), .unset, .unset, .unset] [(.int (10 : Int32)), (.int ((p1.toUInt32.toUInt16.toUInt32.toInt32) - (48 : Int32)))])) _
          refine XS.icmpNo X0.here hx rfl (hb hby at_15) rfl (tlt hc15).2.1 ?_
          show Steps p.tables e below (s₁.setTop (mkF m 18 #[.val (.int p1), .val (.int (p1.toUInt32.toUInt16.toUInt32.toInt32)), .val (.int ((p1.toUInt32.toUInt16.toUInt32.toInt32) - (48 : Int32))), .unset, .unset, .unset] [])) _
          refine XS.iconst X0.here hx rfl (hb hby at_18) ?_
          show Steps p.tables e below (s₁.setTop (mkF m 19 #[.val (.int p1), .val (.int (p1.toUInt32.toUInt16.toUInt32.toInt32)), .val (.int ((p1.toUInt32.toUInt16.toUInt32.toInt32) - (48 : Int32))), .unset, .unset, .unset] [(.int (1 : Int32))])) _
          refine XS.goto X0.here hx rfl (pc0 := 19) (pc' := 23) rfl (hb hby at_19) (by decide) (by decide) ?_
          show Steps p.tables e below (s₁.setTop (mkF m 23 #[.val (.int p1), .val (.int (p1.toUInt32.toUInt16.toUInt32.toInt32)), .val (.int ((p1.toUInt32.toUInt16.toUInt32.toInt32) - (48 : Int32))), .unset, .unset, .unset] [(.int (1 : Int32))])) _
          refine XS.istoreN X0.here hx rfl (hb hby at_23) rfl (l' := #[.val (.int p1), .val (.int (p1.toUInt32.toUInt16.toUInt32.toInt32)), .val (.int ((p1.toUInt32.toUInt16.toUInt32.toInt32) - (48 : Int32))), .val (.int (1 : Int32)), .unset, .unset]) rfl ?_
          show Steps p.tables e below (s₁.setTop (mkF m 24 #[.val (.int p1), .val (.int (p1.toUInt32.toUInt16.toUInt32.toInt32)), .val (.int ((p1.toUInt32.toUInt16.toUInt32.toInt32) - (48 : Int32))), .val (.int (1 : Int32)), .unset, .unset] [])) _
          refine XS.iloadN X0.here hx rfl (hb hby at_24) rfl ?_
          show Steps p.tables e below (s₁.setTop (mkF m 25 #[.val (.int p1), .val (.int (p1.toUInt32.toUInt16.toUInt32.toInt32)), .val (.int ((p1.toUInt32.toUInt16.toUInt32.toInt32) - (48 : Int32))), .val (.int (1 : Int32)), .unset, .unset] [(.int (p1.toUInt32.toUInt16.toUInt32.toInt32))])) _
          refine XS.bipush X0.here hx rfl (hb hby at_25) ?_
          show Steps p.tables e below (s₁.setTop (mkF m 27 #[.val (.int p1), .val (.int (p1.toUInt32.toUInt16.toUInt32.toInt32)), .val (.int ((p1.toUInt32.toUInt16.toUInt32.toInt32) - (48 : Int32))), .val (.int (1 : Int32)), .unset, .unset] [(.int (32 : Int32)), (.int (p1.toUInt32.toUInt16.toUInt32.toInt32))])) _
          refine XS.ior X0.here hx rfl (hb hby at_27) rfl ?_
          show Steps p.tables e below (s₁.setTop (mkF m 28 #[.val (.int p1), .val (.int (p1.toUInt32.toUInt16.toUInt32.toInt32)), .val (.int ((p1.toUInt32.toUInt16.toUInt32.toInt32) - (48 : Int32))), .val (.int (1 : Int32)), .unset, .unset] [(.int ((p1.toUInt32.toUInt16.toUInt32.toInt32) ||| (32 : Int32)))])) _
          refine XS.bipush X0.here hx rfl (hb hby at_28) ?_
          show Steps p.tables e below (s₁.setTop (mkF m 30 #[.val (.int p1), .val (.int (p1.toUInt32.toUInt16.toUInt32.toInt32)), .val (.int ((p1.toUInt32.toUInt16.toUInt32.toInt32) - (48 : Int32))), .val (.int (1 : Int32)), .unset, .unset] [(.int (97 : Int32)), (.int ((p1.toUInt32.toUInt16.toUInt32.toInt32) ||| (32 : Int32)))])) _
          refine XS.isub X0.here hx rfl (hb hby at_30) rfl ?_
          show Steps p.tables e below (s₁.setTop (mkF m 31 #[.val (.int p1), .val (.int (p1.toUInt32.toUInt16.toUInt32.toInt32)), .val (.int ((p1.toUInt32.toUInt16.toUInt32.toInt32) - (48 : Int32))), .val (.int (1 : Int32)), .unset, .unset] [(.int (((p1.toUInt32.toUInt16.toUInt32.toInt32) ||| (32 : Int32)) - (97 : Int32)))])) _
          refine XS.istore X0.here hx rfl (hb hby at_31) rfl (l' := #[.val (.int p1), .val (.int (p1.toUInt32.toUInt16.toUInt32.toInt32)), .val (.int ((p1.toUInt32.toUInt16.toUInt32.toInt32) - (48 : Int32))), .val (.int (1 : Int32)), .val (.int (((p1.toUInt32.toUInt16.toUInt32.toInt32) ||| (32 : Int32)) - (97 : Int32))), .unset]) rfl ?_
          show Steps p.tables e below (s₁.setTop (mkF m 33 #[.val (.int p1), .val (.int (p1.toUInt32.toUInt16.toUInt32.toInt32)), .val (.int ((p1.toUInt32.toUInt16.toUInt32.toInt32) - (48 : Int32))), .val (.int (1 : Int32)), .val (.int (((p1.toUInt32.toUInt16.toUInt32.toInt32) ||| (32 : Int32)) - (97 : Int32))), .unset] [])) _
          refine XS.iload X0.here hx rfl (hb hby at_33) rfl ?_
          show Steps p.tables e below (s₁.setTop (mkF m 35 #[.val (.int p1), .val (.int (p1.toUInt32.toUInt16.toUInt32.toInt32)), .val (.int ((p1.toUInt32.toUInt16.toUInt32.toInt32) - (48 : Int32))), .val (.int (1 : Int32)), .val (.int (((p1.toUInt32.toUInt16.toUInt32.toInt32) ||| (32 : Int32)) - (97 : Int32))), .unset] [(.int (((p1.toUInt32.toUInt16.toUInt32.toInt32) ||| (32 : Int32)) - (97 : Int32)))])) _
          refine XS.ifYes X0.here hx rfl (pc0 := 35) (pc' := 49) rfl (hb hby at_35) rfl ((if0 _ _).trans (tlt hc35).1) (by decide) (by decide) ?_
          show Steps p.tables e below (s₁.setTop (mkF m 49 #[.val (.int p1), .val (.int (p1.toUInt32.toUInt16.toUInt32.toInt32)), .val (.int ((p1.toUInt32.toUInt16.toUInt32.toInt32) - (48 : Int32))), .val (.int (1 : Int32)), .val (.int (((p1.toUInt32.toUInt16.toUInt32.toInt32) ||| (32 : Int32)) - (97 : Int32))), .unset] [])) _
          refine XS.iconst X0.here hx rfl (hb hby at_49) ?_
          show Steps p.tables e below (s₁.setTop (mkF m 50 #[.val (.int p1), .val (.int (p1.toUInt32.toUInt16.toUInt32.toInt32)), .val (.int ((p1.toUInt32.toUInt16.toUInt32.toInt32) - (48 : Int32))), .val (.int (1 : Int32)), .val (.int (((p1.toUInt32.toUInt16.toUInt32.toInt32) ||| (32 : Int32)) - (97 : Int32))), .unset] [(.int (0 : Int32))])) _
          refine XS.istore X0.here hx rfl (hb hby at_50) rfl (l' := #[.val (.int p1), .val (.int (p1.toUInt32.toUInt16.toUInt32.toInt32)), .val (.int ((p1.toUInt32.toUInt16.toUInt32.toInt32) - (48 : Int32))), .val (.int (1 : Int32)), .val (.int (((p1.toUInt32.toUInt16.toUInt32.toInt32) ||| (32 : Int32)) - (97 : Int32))), .val (.int (0 : Int32))]) rfl ?_
          show Steps p.tables e below (s₁.setTop (mkF m 52 #[.val (.int p1), .val (.int (p1.toUInt32.toUInt16.toUInt32.toInt32)), .val (.int ((p1.toUInt32.toUInt16.toUInt32.toInt32) - (48 : Int32))), .val (.int (1 : Int32)), .val (.int (((p1.toUInt32.toUInt16.toUInt32.toInt32) ||| (32 : Int32)) - (97 : Int32))), .val (.int (0 : Int32))] [])) _
          refine XS.iloadN X0.here hx rfl (hb hby at_52) rfl ?_
          show Steps p.tables e below (s₁.setTop (mkF m 53 #[.val (.int p1), .val (.int (p1.toUInt32.toUInt16.toUInt32.toInt32)), .val (.int ((p1.toUInt32.toUInt16.toUInt32.toInt32) - (48 : Int32))), .val (.int (1 : Int32)), .val (.int (((p1.toUInt32.toUInt16.toUInt32.toInt32) ||| (32 : Int32)) - (97 : Int32))), .val (.int (0 : Int32))] [(.int (p1.toUInt32.toUInt16.toUInt32.toInt32))])) _
          refine st2 _ ?_
          show Steps p.tables e below (T2.setTop (mkF m 56 #[.val (.int p1), .val (.int (p1.toUInt32.toUInt16.toUInt32.toInt32)), .val (.int ((p1.toUInt32.toUInt16.toUInt32.toInt32) - (48 : Int32))), .val (.int (1 : Int32)), .val (.int (((p1.toUInt32.toUInt16.toUInt32.toInt32) ||| (32 : Int32)) - (97 : Int32))), .val (.int (0 : Int32))] [(.int (own_f1 (p1.toUInt32.toUInt16.toUInt32.toInt32)))])) _
          refine XS.iloadN X2.here hx rfl (hb hby at_56) rfl ?_
          show Steps p.tables e below (T2.setTop (mkF m 57 #[.val (.int p1), .val (.int (p1.toUInt32.toUInt16.toUInt32.toInt32)), .val (.int ((p1.toUInt32.toUInt16.toUInt32.toInt32) - (48 : Int32))), .val (.int (1 : Int32)), .val (.int (((p1.toUInt32.toUInt16.toUInt32.toInt32) ||| (32 : Int32)) - (97 : Int32))), .val (.int (0 : Int32))] [(.int (1 : Int32)), (.int (own_f1 (p1.toUInt32.toUInt16.toUInt32.toInt32)))])) _
          refine XS.ifYes X2.here hx rfl (pc0 := 57) (pc' := 65) rfl (hb hby at_57) rfl ((if0 _ _).trans (feq hc57).2) (by decide) (by decide) ?_
          show Steps p.tables e below (T2.setTop (mkF m 65 #[.val (.int p1), .val (.int (p1.toUInt32.toUInt16.toUInt32.toInt32)), .val (.int ((p1.toUInt32.toUInt16.toUInt32.toInt32) - (48 : Int32))), .val (.int (1 : Int32)), .val (.int (((p1.toUInt32.toUInt16.toUInt32.toInt32) ||| (32 : Int32)) - (97 : Int32))), .val (.int (0 : Int32))] [(.int (own_f1 (p1.toUInt32.toUInt16.toUInt32.toInt32)))])) _
          refine XS.iconst X2.here hx rfl (hb hby at_65) ?_
          show Steps p.tables e below (T2.setTop (mkF m 66 #[.val (.int p1), .val (.int (p1.toUInt32.toUInt16.toUInt32.toInt32)), .val (.int ((p1.toUInt32.toUInt16.toUInt32.toInt32) - (48 : Int32))), .val (.int (1 : Int32)), .val (.int (((p1.toUInt32.toUInt16.toUInt32.toInt32) ||| (32 : Int32)) - (97 : Int32))), .val (.int (0 : Int32))] [(.int (1 : Int32)), (.int (own_f1 (p1.toUInt32.toUInt16.toUInt32.toInt32)))])) _
          refine XS.goto X2.here hx rfl (pc0 := 66) (pc' := 70) rfl (hb hby at_66) (by decide) (by decide) ?_
          show Steps p.tables e below (T2.setTop (mkF m 70 #[.val (.int p1), .val (.int (p1.toUInt32.toUInt16.toUInt32.toInt32)), .val (.int ((p1.toUInt32.toUInt16.toUInt32.toInt32) - (48 : Int32))), .val (.int (1 : Int32)), .val (.int (((p1.toUInt32.toUInt16.toUInt32.toInt32) ||| (32 : Int32)) - (97 : Int32))), .val (.int (0 : Int32))] [(.int (1 : Int32)), (.int (own_f1 (p1.toUInt32.toUInt16.toUInt32.toInt32)))])) _
          refine XS.icmpNo X2.here hx rfl (hb hby at_70) rfl (teq (show (own_f1 (p1.toUInt32.toUInt16.toUInt32.toInt32)) = (1 : Int32) by first | exact own_1a _ (c_i2c p1).2 hc9 hc15 | exact own_1b _ (c_i2c p1).2 hc35 hc42 | exact own_0 _ (c_i2c p1).2 (Or.inl hc9) (Or.inl hc35) | exact own_0 _ (c_i2c p1).2 (Or.inl hc9) (Or.inr hc42) | exact own_0 _ (c_i2c p1).2 (Or.inr hc15) (Or.inl hc35) | exact own_0 _ (c_i2c p1).2 (Or.inr hc15) (Or.inr hc42))).2 ?_
          show Steps p.tables e below (T2.setTop (mkF m 73 #[.val (.int p1), .val (.int (p1.toUInt32.toUInt16.toUInt32.toInt32)), .val (.int ((p1.toUInt32.toUInt16.toUInt32.toInt32) - (48 : Int32))), .val (.int (1 : Int32)), .val (.int (((p1.toUInt32.toUInt16.toUInt32.toInt32) ||| (32 : Int32)) - (97 : Int32))), .val (.int (0 : Int32))] [])) _
          refine XS.iconst X2.here hx rfl (hb hby at_73) ?_
          show Steps p.tables e below (T2.setTop (mkF m 74 #[.val (.int p1), .val (.int (p1.toUInt32.toUInt16.toUInt32.toInt32)), .val (.int ((p1.toUInt32.toUInt16.toUInt32.toInt32) - (48 : Int32))), .val (.int (1 : Int32)), .val (.int (((p1.toUInt32.toUInt16.toUInt32.toInt32) ||| (32 : Int32)) - (97 : Int32))), .val (.int (0 : Int32))] [(.int (1 : Int32))])) _
          refine XS.goto X2.here hx rfl (pc0 := 74) (pc' := 78) rfl (hb hby at_74) (by decide) (by decide) ?_
          show Steps p.tables e below (T2.setTop (mkF m 78 #[.val (.int p1), .val (.int (p1.toUInt32.toUInt16.toUInt32.toInt32)), .val (.int ((p1.toUInt32.toUInt16.toUInt32.toInt32) - (48 : Int32))), .val (.int (1 : Int32)), .val (.int (((p1.toUInt32.toUInt16.toUInt32.toInt32) ||| (32 : Int32)) - (97 : Int32))), .val (.int (0 : Int32))] [(.int (1 : Int32))])) _
          exact retN X2 hx (t := .boolean) Bd.returns (by simp) (hb hby at_78) hr
        · show Q0 Z p1 h0 n0 _ T2.heap _
          exact ⟨rfl, N2⟩
      · by_cases hc42 : (((p1.toUInt32.toUInt16.toUInt32.toInt32) ||| (32 : Int32)) - (97 : Int32)) < (26 : Int32)
        · have hc57 : ¬ ((1 : Int32) = (0 : Int32)) := by decide
          obtain ⟨_, _, ⟨T2, L2, k2, n2⟩, -, X2, ⟨Lc2, hQ2, l2, y2, z2⟩, st2⟩ := Jvm.LawKit.callS X0 hx (y := (⟨"com/example/usher/usher/Member", "isLetterOrDigit", "(C)Z"⟩ : MethodName)) hown (mvT hZ (hw _ (List.mem_of_getElem? (i := 0) rfl))) (mvT hZ (hw _ (List.mem_of_getElem? (i := 1) rfl))) (mvT hZ (hw _ (List.mem_of_getElem? (i := 2) rfl))) (mvT hZ (hw _ (List.mem_of_getElem? (i := 3) rfl))) (by decide) (backOf (W := 0) (rm1 l Z a0 hw [] (p1.toUInt32.toUInt16.toUInt32.toInt32) h0 n0 Z0) hZ (hw _ (List.mem_of_getElem? (i := 3) rfl)) (hw _ (List.mem_of_getElem? (i := 2) rfl)) (by decide) (by decide)) (g := (mkF m 53 #[.val (.int p1), .val (.int (p1.toUInt32.toUInt16.toUInt32.toInt32)), .val (.int ((p1.toUInt32.toUInt16.toUInt32.toInt32) - (48 : Int32))), .val (.int (1 : Int32)), .val (.int (((p1.toUInt32.toUInt16.toUInt32.toInt32) ||| (32 : Int32)) - (97 : Int32))), .val (.int (1 : Int32))] [(.int (p1.toUInt32.toUInt16.toUInt32.toInt32))])) rfl (by rw [hml]; rfl) (argsL := [(.int (p1.toUInt32.toUInt16.toUInt32.toInt32))]) (rest := []) (lenOf pd_0_0 rfl) rfl (by show 2 * 0 + _ ≤ _; exact Nat.le_of_eq rfl) (hb hby at_53) (fun _ _ => ⟨rfl, e0, (by decide : 0 + 0 ≤ _), (by decide : 0 + 0 ≤ _)⟩)
          dsimp only [Pt.U, Pt.locs, Pt.cells, Pt.slots] at X2 l2 y2 z2 st2 hQ2
          subst l2 y2 z2
          obtain ⟨rfl, N2q, q2'⟩ := hQ2
          have q2 : T2.heap = h0 := q2'
          have N2 := Fr.app N0 N2q
          obtain ⟨fs, hr, hrun, hended, hW, hsame⟩ := X2.leave (v := some (.int (1 : Int32))) (fun h => by rw [Bd.returns] at h; cases h)
          refine ⟨_, _, pre0 _ ?_, hrun, hended, _, _, rfl, ?_, ⟨_, rfl⟩, hW, hsame.mono (by decide) (by decide)⟩
          · show Steps p.tables e below (s₁.setTop (mkF m 0 #[.val (.int p1), .unset, .unset, .unset, .unset, .unset] [])) _
            refine XS.iloadN X0.here hx rfl (hb hby at_0) rfl ?_
            show Steps p.tables e below (s₁.setTop (mkF m 1 #[.val (.int p1), .unset, .unset, .unset, .unset, .unset] [(.int p1)])) _
            refine XS.i2c X0.here hx rfl (hb hby at_1) rfl ?_
            show Steps p.tables e below (s₁.setTop (mkF m 2 #[.val (.int p1), .unset, .unset, .unset, .unset, .unset] [(.int (p1.toUInt32.toUInt16.toUInt32.toInt32))])) _
            refine XS.istoreN X0.here hx rfl (hb hby at_2) rfl (l' := #[.val (.int p1), .val (.int (p1.toUInt32.toUInt16.toUInt32.toInt32)), .unset, .unset, .unset, .unset]) rfl ?_
            show Steps p.tables e below (s₁.setTop (mkF m 3 #[.val (.int p1), .val (.int (p1.toUInt32.toUInt16.toUInt32.toInt32)), .unset, .unset, .unset, .unset] [])) _
            refine XS.iloadN X0.here hx rfl (hb hby at_3) rfl ?_
            show Steps p.tables e below (s₁.setTop (mkF m 4 #[.val (.int p1), .val (.int (p1.toUInt32.toUInt16.toUInt32.toInt32)), .unset, .unset, .unset, .unset] [(.int (p1.toUInt32.toUInt16.toUInt32.toInt32))])) _
            refine XS.bipush X0.here hx rfl (hb hby at_4) ?_
            show Steps p.tables e below (s₁.setTop (mkF m 6 #[.val (.int p1), .val (.int (p1.toUInt32.toUInt16.toUInt32.toInt32)), .unset, .unset, .unset, .unset] [(.int (48 : Int32)), (.int (p1.toUInt32.toUInt16.toUInt32.toInt32))])) _
            refine XS.isub X0.here hx rfl (hb hby at_6) rfl ?_
            show Steps p.tables e below (s₁.setTop (mkF m 7 #[.val (.int p1), .val (.int (p1.toUInt32.toUInt16.toUInt32.toInt32)), .unset, .unset, .unset, .unset] [(.int ((p1.toUInt32.toUInt16.toUInt32.toInt32) - (48 : Int32)))])) _
            refine XS.istoreN X0.here hx rfl (hb hby at_7) rfl (l' := #[.val (.int p1), .val (.int (p1.toUInt32.toUInt16.toUInt32.toInt32)), .val (.int ((p1.toUInt32.toUInt16.toUInt32.toInt32) - (48 : Int32))), .unset, .unset, .unset]) rfl ?_
            show Steps p.tables e below (s₁.setTop (mkF m 8 #[.val (.int p1), .val (.int (p1.toUInt32.toUInt16.toUInt32.toInt32)), .val (.int ((p1.toUInt32.toUInt16.toUInt32.toInt32) - (48 : Int32))), .unset, .unset, .unset] [])) _
            refine XS.iloadN X0.here hx rfl (hb hby at_8) rfl ?_
            show Steps p.tables e below (s₁.setTop (mkF m 9 #[.val (.int p1), .val (.int (p1.toUInt32.toUInt16.toUInt32.toInt32)), .val (.int ((p1.toUInt32.toUInt16.toUInt32.toInt32) - (48 : Int32))), .unset, .unset, .unset] [(.int ((p1.toUInt32.toUInt16.toUInt32.toInt32) - (48 : Int32)))])) _
            refine XS.ifNo X0.here hx rfl (hb hby at_9) rfl ((if0 _ _).trans (flt hc9).1) ?_
            show Steps p.tables e below (s₁.setTop (mkF m 12 #[.val (.int p1), .val (.int (p1.toUInt32.toUInt16.toUInt32.toInt32)), .val (.int ((p1.toUInt32.toUInt16.toUInt32.toInt32) - (48 : Int32))), .unset, .unset, .unset] [])) _
            refine XS.iloadN X0.here hx rfl (hb hby at_12) rfl ?_
            show Steps p.tables e below (s₁.setTop (mkF m 13 #[.val (.int p1), .val (.int (p1.toUInt32.toUInt16.toUInt32.toInt32)), .val (.int ((p1.toUInt32.toUInt16.toUInt32.toInt32) - (48 : Int32))), .unset, .unset, .unset] [(.int ((p1.toUInt32.toUInt16.toUInt32.toInt32) - (48 : Int32)))])) _
            refine XS.bipush X0.here hx rfl (hb hby at_13) ?_
            show Steps p.tables e below (s₁.setTop (mkF m 15 #[.val (.int p1), .val (.int (p1.toUInt32.toUInt16.toUInt32.toInt32)), .val (.int ((p1.toUInt32.toUInt16.toUInt32.toInt32) - (48 : Int32))), .unset, .unset, .unset] [(.int (10 : Int32)), (.int ((p1.toUInt32.toUInt16.toUInt32.toInt32) - (48 : Int32)))])) _
            refine XS.icmpNo X0.here hx rfl (hb hby at_15) rfl (tlt hc15).2.1 ?_
            show Steps p.tables e below (s₁.setTop (mkF m 18 #[.val (.int p1), .val (.int (p1.toUInt32.toUInt16.toUInt32.toInt32)), .val (.int ((p1.toUInt32.toUInt16.toUInt32.toInt32) - (48 : Int32))), .unset, .unset, .unset] [])) _
            refine XS.iconst X0.here hx rfl (hb hby at_18) ?_
            show Steps p.tables e below (s₁.setTop (mkF m 19 #[.val (.int p1), .val (.int (p1.toUInt32.toUInt16.toUInt32.toInt32)), .val (.int ((p1.toUInt32.toUInt16.toUInt32.toInt32) - (48 : Int32))), .unset, .unset, .unset] [(.int (1 : Int32))])) _
            refine XS.goto X0.here hx rfl (pc0 := 19) (pc' := 23) rfl (hb hby at_19) (by decide) (by decide) ?_
            show Steps p.tables e below (s₁.setTop (mkF m 23 #[.val (.int p1), .val (.int (p1.toUInt32.toUInt16.toUInt32.toInt32)), .val (.int ((p1.toUInt32.toUInt16.toUInt32.toInt32) - (48 : Int32))), .unset, .unset, .unset] [(.int (1 : Int32))])) _
            refine XS.istoreN X0.here hx rfl (hb hby at_23) rfl (l' := #[.val (.int p1), .val (.int (p1.toUInt32.toUInt16.toUInt32.toInt32)), .val (.int ((p1.toUInt32.toUInt16.toUInt32.toInt32) - (48 : Int32))), .val (.int (1 : Int32)), .unset, .unset]) rfl ?_
            show Steps p.tables e below (s₁.setTop (mkF m 24 #[.val (.int p1), .val (.int (p1.toUInt32.toUInt16.toUInt32.toInt32)), .val (.int ((p1.toUInt32.toUInt16.toUInt32.toInt32) - (48 : Int32))), .val (.int (1 : Int32)), .unset, .unset] [])) _
            refine XS.iloadN X0.here hx rfl (hb hby at_24) rfl ?_
            show Steps p.tables e below (s₁.setTop (mkF m 25 #[.val (.int p1), .val (.int (p1.toUInt32.toUInt16.toUInt32.toInt32)), .val (.int ((p1.toUInt32.toUInt16.toUInt32.toInt32) - (48 : Int32))), .val (.int (1 : Int32)), .unset, .unset] [(.int (p1.toUInt32.toUInt16.toUInt32.toInt32))])) _
            refine XS.bipush X0.here hx rfl (hb hby at_25) ?_
            show Steps p.tables e below (s₁.setTop (mkF m 27 #[.val (.int p1), .val (.int (p1.toUInt32.toUInt16.toUInt32.toInt32)), .val (.int ((p1.toUInt32.toUInt16.toUInt32.toInt32) - (48 : Int32))), .val (.int (1 : Int32)), .unset, .unset] [(.int (32 : Int32)), (.int (p1.toUInt32.toUInt16.toUInt32.toInt32))])) _
            refine XS.ior X0.here hx rfl (hb hby at_27) rfl ?_
            show Steps p.tables e below (s₁.setTop (mkF m 28 #[.val (.int p1), .val (.int (p1.toUInt32.toUInt16.toUInt32.toInt32)), .val (.int ((p1.toUInt32.toUInt16.toUInt32.toInt32) - (48 : Int32))), .val (.int (1 : Int32)), .unset, .unset] [(.int ((p1.toUInt32.toUInt16.toUInt32.toInt32) ||| (32 : Int32)))])) _
            refine XS.bipush X0.here hx rfl (hb hby at_28) ?_
            show Steps p.tables e below (s₁.setTop (mkF m 30 #[.val (.int p1), .val (.int (p1.toUInt32.toUInt16.toUInt32.toInt32)), .val (.int ((p1.toUInt32.toUInt16.toUInt32.toInt32) - (48 : Int32))), .val (.int (1 : Int32)), .unset, .unset] [(.int (97 : Int32)), (.int ((p1.toUInt32.toUInt16.toUInt32.toInt32) ||| (32 : Int32)))])) _
            refine XS.isub X0.here hx rfl (hb hby at_30) rfl ?_
            show Steps p.tables e below (s₁.setTop (mkF m 31 #[.val (.int p1), .val (.int (p1.toUInt32.toUInt16.toUInt32.toInt32)), .val (.int ((p1.toUInt32.toUInt16.toUInt32.toInt32) - (48 : Int32))), .val (.int (1 : Int32)), .unset, .unset] [(.int (((p1.toUInt32.toUInt16.toUInt32.toInt32) ||| (32 : Int32)) - (97 : Int32)))])) _
            refine XS.istore X0.here hx rfl (hb hby at_31) rfl (l' := #[.val (.int p1), .val (.int (p1.toUInt32.toUInt16.toUInt32.toInt32)), .val (.int ((p1.toUInt32.toUInt16.toUInt32.toInt32) - (48 : Int32))), .val (.int (1 : Int32)), .val (.int (((p1.toUInt32.toUInt16.toUInt32.toInt32) ||| (32 : Int32)) - (97 : Int32))), .unset]) rfl ?_
            show Steps p.tables e below (s₁.setTop (mkF m 33 #[.val (.int p1), .val (.int (p1.toUInt32.toUInt16.toUInt32.toInt32)), .val (.int ((p1.toUInt32.toUInt16.toUInt32.toInt32) - (48 : Int32))), .val (.int (1 : Int32)), .val (.int (((p1.toUInt32.toUInt16.toUInt32.toInt32) ||| (32 : Int32)) - (97 : Int32))), .unset] [])) _
            refine XS.iload X0.here hx rfl (hb hby at_33) rfl ?_
            show Steps p.tables e below (s₁.setTop (mkF m 35 #[.val (.int p1), .val (.int (p1.toUInt32.toUInt16.toUInt32.toInt32)), .val (.int ((p1.toUInt32.toUInt16.toUInt32.toInt32) - (48 : Int32))), .val (.int (1 : Int32)), .val (.int (((p1.toUInt32.toUInt16.toUInt32.toInt32) ||| (32 : Int32)) - (97 : Int32))), .unset] [(.int (((p1.toUInt32.toUInt16.toUInt32.toInt32) ||| (32 : Int32)) - (97 : Int32)))])) _
            refine XS.ifNo X0.here hx rfl (hb hby at_35) rfl ((if0 _ _).trans (flt hc35).1) ?_
            show Steps p.tables e below (s₁.setTop (mkF m 38 #[.val (.int p1), .val (.int (p1.toUInt32.toUInt16.toUInt32.toInt32)), .val (.int ((p1.toUInt32.toUInt16.toUInt32.toInt32) - (48 : Int32))), .val (.int (1 : Int32)), .val (.int (((p1.toUInt32.toUInt16.toUInt32.toInt32) ||| (32 : Int32)) - (97 : Int32))), .unset] [])) _
            refine XS.iload X0.here hx rfl (hb hby at_38) rfl ?_
            show Steps p.tables e below (s₁.setTop (mkF m 40 #[.val (.int p1), .val (.int (p1.toUInt32.toUInt16.toUInt32.toInt32)), .val (.int ((p1.toUInt32.toUInt16.toUInt32.toInt32) - (48 : Int32))), .val (.int (1 : Int32)), .val (.int (((p1.toUInt32.toUInt16.toUInt32.toInt32) ||| (32 : Int32)) - (97 : Int32))), .unset] [(.int (((p1.toUInt32.toUInt16.toUInt32.toInt32) ||| (32 : Int32)) - (97 : Int32)))])) _
            refine XS.bipush X0.here hx rfl (hb hby at_40) ?_
            show Steps p.tables e below (s₁.setTop (mkF m 42 #[.val (.int p1), .val (.int (p1.toUInt32.toUInt16.toUInt32.toInt32)), .val (.int ((p1.toUInt32.toUInt16.toUInt32.toInt32) - (48 : Int32))), .val (.int (1 : Int32)), .val (.int (((p1.toUInt32.toUInt16.toUInt32.toInt32) ||| (32 : Int32)) - (97 : Int32))), .unset] [(.int (26 : Int32)), (.int (((p1.toUInt32.toUInt16.toUInt32.toInt32) ||| (32 : Int32)) - (97 : Int32)))])) _
            refine XS.icmpNo X0.here hx rfl (hb hby at_42) rfl (tlt hc42).2.1 ?_
            show Steps p.tables e below (s₁.setTop (mkF m 45 #[.val (.int p1), .val (.int (p1.toUInt32.toUInt16.toUInt32.toInt32)), .val (.int ((p1.toUInt32.toUInt16.toUInt32.toInt32) - (48 : Int32))), .val (.int (1 : Int32)), .val (.int (((p1.toUInt32.toUInt16.toUInt32.toInt32) ||| (32 : Int32)) - (97 : Int32))), .unset] [])) _
            refine XS.iconst X0.here hx rfl (hb hby at_45) ?_
            show Steps p.tables e below (s₁.setTop (mkF m 46 #[.val (.int p1), .val (.int (p1.toUInt32.toUInt16.toUInt32.toInt32)), .val (.int ((p1.toUInt32.toUInt16.toUInt32.toInt32) - (48 : Int32))), .val (.int (1 : Int32)), .val (.int (((p1.toUInt32.toUInt16.toUInt32.toInt32) ||| (32 : Int32)) - (97 : Int32))), .unset] [(.int (1 : Int32))])) _
            refine XS.goto X0.here hx rfl (pc0 := 46) (pc' := 50) rfl (hb hby at_46) (by decide) (by decide) ?_
            show Steps p.tables e below (s₁.setTop (mkF m 50 #[.val (.int p1), .val (.int (p1.toUInt32.toUInt16.toUInt32.toInt32)), .val (.int ((p1.toUInt32.toUInt16.toUInt32.toInt32) - (48 : Int32))), .val (.int (1 : Int32)), .val (.int (((p1.toUInt32.toUInt16.toUInt32.toInt32) ||| (32 : Int32)) - (97 : Int32))), .unset] [(.int (1 : Int32))])) _
            refine XS.istore X0.here hx rfl (hb hby at_50) rfl (l' := #[.val (.int p1), .val (.int (p1.toUInt32.toUInt16.toUInt32.toInt32)), .val (.int ((p1.toUInt32.toUInt16.toUInt32.toInt32) - (48 : Int32))), .val (.int (1 : Int32)), .val (.int (((p1.toUInt32.toUInt16.toUInt32.toInt32) ||| (32 : Int32)) - (97 : Int32))), .val (.int (1 : Int32))]) rfl ?_
            show Steps p.tables e below (s₁.setTop (mkF m 52 #[.val (.int p1), .val (.int (p1.toUInt32.toUInt16.toUInt32.toInt32)), .val (.int ((p1.toUInt32.toUInt16.toUInt32.toInt32) - (48 : Int32))), .val (.int (1 : Int32)), .val (.int (((p1.toUInt32.toUInt16.toUInt32.toInt32) ||| (32 : Int32)) - (97 : Int32))), .val (.int (1 : Int32))] [])) _
            refine XS.iloadN X0.here hx rfl (hb hby at_52) rfl ?_
            show Steps p.tables e below (s₁.setTop (mkF m 53 #[.val (.int p1), .val (.int (p1.toUInt32.toUInt16.toUInt32.toInt32)), .val (.int ((p1.toUInt32.toUInt16.toUInt32.toInt32) - (48 : Int32))), .val (.int (1 : Int32)), .val (.int (((p1.toUInt32.toUInt16.toUInt32.toInt32) ||| (32 : Int32)) - (97 : Int32))), .val (.int (1 : Int32))] [(.int (p1.toUInt32.toUInt16.toUInt32.toInt32))])) _
            refine st2 _ ?_
            show Steps p.tables e below (T2.setTop (mkF m 56 #[.val (.int p1), .val (.int (p1.toUInt32.toUInt16.toUInt32.toInt32)), .val (.int ((p1.toUInt32.toUInt16.toUInt32.toInt32) - (48 : Int32))), .val (.int (1 : Int32)), .val (.int (((p1.toUInt32.toUInt16.toUInt32.toInt32) ||| (32 : Int32)) - (97 : Int32))), .val (.int (1 : Int32))] [(.int (own_f1 (p1.toUInt32.toUInt16.toUInt32.toInt32)))])) _
            refine XS.iloadN X2.here hx rfl (hb hby at_56) rfl ?_
            show Steps p.tables e below (T2.setTop (mkF m 57 #[.val (.int p1), .val (.int (p1.toUInt32.toUInt16.toUInt32.toInt32)), .val (.int ((p1.toUInt32.toUInt16.toUInt32.toInt32) - (48 : Int32))), .val (.int (1 : Int32)), .val (.int (((p1.toUInt32.toUInt16.toUInt32.toInt32) ||| (32 : Int32)) - (97 : Int32))), .val (.int (1 : Int32))] [(.int (1 : Int32)), (.int (own_f1 (p1.toUInt32.toUInt16.toUInt32.toInt32)))])) _
            refine XS.ifYes X2.here hx rfl (pc0 := 57) (pc' := 65) rfl (hb hby at_57) rfl ((if0 _ _).trans (feq hc57).2) (by decide) (by decide) ?_
            show Steps p.tables e below (T2.setTop (mkF m 65 #[.val (.int p1), .val (.int (p1.toUInt32.toUInt16.toUInt32.toInt32)), .val (.int ((p1.toUInt32.toUInt16.toUInt32.toInt32) - (48 : Int32))), .val (.int (1 : Int32)), .val (.int (((p1.toUInt32.toUInt16.toUInt32.toInt32) ||| (32 : Int32)) - (97 : Int32))), .val (.int (1 : Int32))] [(.int (own_f1 (p1.toUInt32.toUInt16.toUInt32.toInt32)))])) _
            refine XS.iconst X2.here hx rfl (hb hby at_65) ?_
            show Steps p.tables e below (T2.setTop (mkF m 66 #[.val (.int p1), .val (.int (p1.toUInt32.toUInt16.toUInt32.toInt32)), .val (.int ((p1.toUInt32.toUInt16.toUInt32.toInt32) - (48 : Int32))), .val (.int (1 : Int32)), .val (.int (((p1.toUInt32.toUInt16.toUInt32.toInt32) ||| (32 : Int32)) - (97 : Int32))), .val (.int (1 : Int32))] [(.int (1 : Int32)), (.int (own_f1 (p1.toUInt32.toUInt16.toUInt32.toInt32)))])) _
            refine XS.goto X2.here hx rfl (pc0 := 66) (pc' := 70) rfl (hb hby at_66) (by decide) (by decide) ?_
            show Steps p.tables e below (T2.setTop (mkF m 70 #[.val (.int p1), .val (.int (p1.toUInt32.toUInt16.toUInt32.toInt32)), .val (.int ((p1.toUInt32.toUInt16.toUInt32.toInt32) - (48 : Int32))), .val (.int (1 : Int32)), .val (.int (((p1.toUInt32.toUInt16.toUInt32.toInt32) ||| (32 : Int32)) - (97 : Int32))), .val (.int (1 : Int32))] [(.int (1 : Int32)), (.int (own_f1 (p1.toUInt32.toUInt16.toUInt32.toInt32)))])) _
            refine XS.icmpNo X2.here hx rfl (hb hby at_70) rfl (teq (show (own_f1 (p1.toUInt32.toUInt16.toUInt32.toInt32)) = (1 : Int32) by first | exact own_1a _ (c_i2c p1).2 hc9 hc15 | exact own_1b _ (c_i2c p1).2 hc35 hc42 | exact own_0 _ (c_i2c p1).2 (Or.inl hc9) (Or.inl hc35) | exact own_0 _ (c_i2c p1).2 (Or.inl hc9) (Or.inr hc42) | exact own_0 _ (c_i2c p1).2 (Or.inr hc15) (Or.inl hc35) | exact own_0 _ (c_i2c p1).2 (Or.inr hc15) (Or.inr hc42))).2 ?_
            show Steps p.tables e below (T2.setTop (mkF m 73 #[.val (.int p1), .val (.int (p1.toUInt32.toUInt16.toUInt32.toInt32)), .val (.int ((p1.toUInt32.toUInt16.toUInt32.toInt32) - (48 : Int32))), .val (.int (1 : Int32)), .val (.int (((p1.toUInt32.toUInt16.toUInt32.toInt32) ||| (32 : Int32)) - (97 : Int32))), .val (.int (1 : Int32))] [])) _
            refine XS.iconst X2.here hx rfl (hb hby at_73) ?_
            show Steps p.tables e below (T2.setTop (mkF m 74 #[.val (.int p1), .val (.int (p1.toUInt32.toUInt16.toUInt32.toInt32)), .val (.int ((p1.toUInt32.toUInt16.toUInt32.toInt32) - (48 : Int32))), .val (.int (1 : Int32)), .val (.int (((p1.toUInt32.toUInt16.toUInt32.toInt32) ||| (32 : Int32)) - (97 : Int32))), .val (.int (1 : Int32))] [(.int (1 : Int32))])) _
            refine XS.goto X2.here hx rfl (pc0 := 74) (pc' := 78) rfl (hb hby at_74) (by decide) (by decide) ?_
            show Steps p.tables e below (T2.setTop (mkF m 78 #[.val (.int p1), .val (.int (p1.toUInt32.toUInt16.toUInt32.toInt32)), .val (.int ((p1.toUInt32.toUInt16.toUInt32.toInt32) - (48 : Int32))), .val (.int (1 : Int32)), .val (.int (((p1.toUInt32.toUInt16.toUInt32.toInt32) ||| (32 : Int32)) - (97 : Int32))), .val (.int (1 : Int32))] [(.int (1 : Int32))])) _
            exact retN X2 hx (t := .boolean) Bd.returns (by simp) (hb hby at_78) hr
          · show Q0 Z p1 h0 n0 _ T2.heap _
            exact ⟨rfl, N2⟩
        · have hc57 : ¬ ((1 : Int32) = (0 : Int32)) := by decide
          obtain ⟨_, _, ⟨T2, L2, k2, n2⟩, -, X2, ⟨Lc2, hQ2, l2, y2, z2⟩, st2⟩ := Jvm.LawKit.callS X0 hx (y := (⟨"com/example/usher/usher/Member", "isLetterOrDigit", "(C)Z"⟩ : MethodName)) hown (mvT hZ (hw _ (List.mem_of_getElem? (i := 0) rfl))) (mvT hZ (hw _ (List.mem_of_getElem? (i := 1) rfl))) (mvT hZ (hw _ (List.mem_of_getElem? (i := 2) rfl))) (mvT hZ (hw _ (List.mem_of_getElem? (i := 3) rfl))) (by decide) (backOf (W := 0) (rm1 l Z a0 hw [] (p1.toUInt32.toUInt16.toUInt32.toInt32) h0 n0 Z0) hZ (hw _ (List.mem_of_getElem? (i := 3) rfl)) (hw _ (List.mem_of_getElem? (i := 2) rfl)) (by decide) (by decide)) (g := (mkF m 53 #[.val (.int p1), .val (.int (p1.toUInt32.toUInt16.toUInt32.toInt32)), .val (.int ((p1.toUInt32.toUInt16.toUInt32.toInt32) - (48 : Int32))), .val (.int (1 : Int32)), .val (.int (((p1.toUInt32.toUInt16.toUInt32.toInt32) ||| (32 : Int32)) - (97 : Int32))), .val (.int (0 : Int32))] [(.int (p1.toUInt32.toUInt16.toUInt32.toInt32))])) rfl (by rw [hml]; rfl) (argsL := [(.int (p1.toUInt32.toUInt16.toUInt32.toInt32))]) (rest := []) (lenOf pd_0_0 rfl) rfl (by show 2 * 0 + _ ≤ _; exact Nat.le_of_eq rfl) (hb hby at_53) (fun _ _ => ⟨rfl, e0, (by decide : 0 + 0 ≤ _), (by decide : 0 + 0 ≤ _)⟩)
          dsimp only [Pt.U, Pt.locs, Pt.cells, Pt.slots] at X2 l2 y2 z2 st2 hQ2
          subst l2 y2 z2
          obtain ⟨rfl, N2q, q2'⟩ := hQ2
          have q2 : T2.heap = h0 := q2'
          have N2 := Fr.app N0 N2q
          obtain ⟨fs, hr, hrun, hended, hW, hsame⟩ := X2.leave (v := some (.int (1 : Int32))) (fun h => by rw [Bd.returns] at h; cases h)
          refine ⟨_, _, pre0 _ ?_, hrun, hended, _, _, rfl, ?_, ⟨_, rfl⟩, hW, hsame.mono (by decide) (by decide)⟩
          · show Steps p.tables e below (s₁.setTop (mkF m 0 #[.val (.int p1), .unset, .unset, .unset, .unset, .unset] [])) _
            refine XS.iloadN X0.here hx rfl (hb hby at_0) rfl ?_
            show Steps p.tables e below (s₁.setTop (mkF m 1 #[.val (.int p1), .unset, .unset, .unset, .unset, .unset] [(.int p1)])) _
            refine XS.i2c X0.here hx rfl (hb hby at_1) rfl ?_
            show Steps p.tables e below (s₁.setTop (mkF m 2 #[.val (.int p1), .unset, .unset, .unset, .unset, .unset] [(.int (p1.toUInt32.toUInt16.toUInt32.toInt32))])) _
            refine XS.istoreN X0.here hx rfl (hb hby at_2) rfl (l' := #[.val (.int p1), .val (.int (p1.toUInt32.toUInt16.toUInt32.toInt32)), .unset, .unset, .unset, .unset]) rfl ?_
            show Steps p.tables e below (s₁.setTop (mkF m 3 #[.val (.int p1), .val (.int (p1.toUInt32.toUInt16.toUInt32.toInt32)), .unset, .unset, .unset, .unset] [])) _
            refine XS.iloadN X0.here hx rfl (hb hby at_3) rfl ?_
            show Steps p.tables e below (s₁.setTop (mkF m 4 #[.val (.int p1), .val (.int (p1.toUInt32.toUInt16.toUInt32.toInt32)), .unset, .unset, .unset, .unset] [(.int (p1.toUInt32.toUInt16.toUInt32.toInt32))])) _
            refine XS.bipush X0.here hx rfl (hb hby at_4) ?_
            show Steps p.tables e below (s₁.setTop (mkF m 6 #[.val (.int p1), .val (.int (p1.toUInt32.toUInt16.toUInt32.toInt32)), .unset, .unset, .unset, .unset] [(.int (48 : Int32)), (.int (p1.toUInt32.toUInt16.toUInt32.toInt32))])) _
            refine XS.isub X0.here hx rfl (hb hby at_6) rfl ?_
            show Steps p.tables e below (s₁.setTop (mkF m 7 #[.val (.int p1), .val (.int (p1.toUInt32.toUInt16.toUInt32.toInt32)), .unset, .unset, .unset, .unset] [(.int ((p1.toUInt32.toUInt16.toUInt32.toInt32) - (48 : Int32)))])) _
            refine XS.istoreN X0.here hx rfl (hb hby at_7) rfl (l' := #[.val (.int p1), .val (.int (p1.toUInt32.toUInt16.toUInt32.toInt32)), .val (.int ((p1.toUInt32.toUInt16.toUInt32.toInt32) - (48 : Int32))), .unset, .unset, .unset]) rfl ?_
            show Steps p.tables e below (s₁.setTop (mkF m 8 #[.val (.int p1), .val (.int (p1.toUInt32.toUInt16.toUInt32.toInt32)), .val (.int ((p1.toUInt32.toUInt16.toUInt32.toInt32) - (48 : Int32))), .unset, .unset, .unset] [])) _
            refine XS.iloadN X0.here hx rfl (hb hby at_8) rfl ?_
            show Steps p.tables e below (s₁.setTop (mkF m 9 #[.val (.int p1), .val (.int (p1.toUInt32.toUInt16.toUInt32.toInt32)), .val (.int ((p1.toUInt32.toUInt16.toUInt32.toInt32) - (48 : Int32))), .unset, .unset, .unset] [(.int ((p1.toUInt32.toUInt16.toUInt32.toInt32) - (48 : Int32)))])) _
            refine XS.ifNo X0.here hx rfl (hb hby at_9) rfl ((if0 _ _).trans (flt hc9).1) ?_
            show Steps p.tables e below (s₁.setTop (mkF m 12 #[.val (.int p1), .val (.int (p1.toUInt32.toUInt16.toUInt32.toInt32)), .val (.int ((p1.toUInt32.toUInt16.toUInt32.toInt32) - (48 : Int32))), .unset, .unset, .unset] [])) _
            refine XS.iloadN X0.here hx rfl (hb hby at_12) rfl ?_
            show Steps p.tables e below (s₁.setTop (mkF m 13 #[.val (.int p1), .val (.int (p1.toUInt32.toUInt16.toUInt32.toInt32)), .val (.int ((p1.toUInt32.toUInt16.toUInt32.toInt32) - (48 : Int32))), .unset, .unset, .unset] [(.int ((p1.toUInt32.toUInt16.toUInt32.toInt32) - (48 : Int32)))])) _
            refine XS.bipush X0.here hx rfl (hb hby at_13) ?_
            show Steps p.tables e below (s₁.setTop (mkF m 15 #[.val (.int p1), .val (.int (p1.toUInt32.toUInt16.toUInt32.toInt32)), .val (.int ((p1.toUInt32.toUInt16.toUInt32.toInt32) - (48 : Int32))), .unset, .unset, .unset] [(.int (10 : Int32)), (.int ((p1.toUInt32.toUInt16.toUInt32.toInt32) - (48 : Int32)))])) _
            refine XS.icmpNo X0.here hx rfl (hb hby at_15) rfl (tlt hc15).2.1 ?_
            show Steps p.tables e below (s₁.setTop (mkF m 18 #[.val (.int p1), .val (.int (p1.toUInt32.toUInt16.toUInt32.toInt32)), .val (.int ((p1.toUInt32.toUInt16.toUInt32.toInt32) - (48 : Int32))), .unset, .unset, .unset] [])) _
            refine XS.iconst X0.here hx rfl (hb hby at_18) ?_
            show Steps p.tables e below (s₁.setTop (mkF m 19 #[.val (.int p1), .val (.int (p1.toUInt32.toUInt16.toUInt32.toInt32)), .val (.int ((p1.toUInt32.toUInt16.toUInt32.toInt32) - (48 : Int32))), .unset, .unset, .unset] [(.int (1 : Int32))])) _
            refine XS.goto X0.here hx rfl (pc0 := 19) (pc' := 23) rfl (hb hby at_19) (by decide) (by decide) ?_
            show Steps p.tables e below (s₁.setTop (mkF m 23 #[.val (.int p1), .val (.int (p1.toUInt32.toUInt16.toUInt32.toInt32)), .val (.int ((p1.toUInt32.toUInt16.toUInt32.toInt32) - (48 : Int32))), .unset, .unset, .unset] [(.int (1 : Int32))])) _
            refine XS.istoreN X0.here hx rfl (hb hby at_23) rfl (l' := #[.val (.int p1), .val (.int (p1.toUInt32.toUInt16.toUInt32.toInt32)), .val (.int ((p1.toUInt32.toUInt16.toUInt32.toInt32) - (48 : Int32))), .val (.int (1 : Int32)), .unset, .unset]) rfl ?_
            show Steps p.tables e below (s₁.setTop (mkF m 24 #[.val (.int p1), .val (.int (p1.toUInt32.toUInt16.toUInt32.toInt32)), .val (.int ((p1.toUInt32.toUInt16.toUInt32.toInt32) - (48 : Int32))), .val (.int (1 : Int32)), .unset, .unset] [])) _
            refine XS.iloadN X0.here hx rfl (hb hby at_24) rfl ?_
            show Steps p.tables e below (s₁.setTop (mkF m 25 #[.val (.int p1), .val (.int (p1.toUInt32.toUInt16.toUInt32.toInt32)), .val (.int ((p1.toUInt32.toUInt16.toUInt32.toInt32) - (48 : Int32))), .val (.int (1 : Int32)), .unset, .unset] [(.int (p1.toUInt32.toUInt16.toUInt32.toInt32))])) _
            refine XS.bipush X0.here hx rfl (hb hby at_25) ?_
            show Steps p.tables e below (s₁.setTop (mkF m 27 #[.val (.int p1), .val (.int (p1.toUInt32.toUInt16.toUInt32.toInt32)), .val (.int ((p1.toUInt32.toUInt16.toUInt32.toInt32) - (48 : Int32))), .val (.int (1 : Int32)), .unset, .unset] [(.int (32 : Int32)), (.int (p1.toUInt32.toUInt16.toUInt32.toInt32))])) _
            refine XS.ior X0.here hx rfl (hb hby at_27) rfl ?_
            show Steps p.tables e below (s₁.setTop (mkF m 28 #[.val (.int p1), .val (.int (p1.toUInt32.toUInt16.toUInt32.toInt32)), .val (.int ((p1.toUInt32.toUInt16.toUInt32.toInt32) - (48 : Int32))), .val (.int (1 : Int32)), .unset, .unset] [(.int ((p1.toUInt32.toUInt16.toUInt32.toInt32) ||| (32 : Int32)))])) _
            refine XS.bipush X0.here hx rfl (hb hby at_28) ?_
            show Steps p.tables e below (s₁.setTop (mkF m 30 #[.val (.int p1), .val (.int (p1.toUInt32.toUInt16.toUInt32.toInt32)), .val (.int ((p1.toUInt32.toUInt16.toUInt32.toInt32) - (48 : Int32))), .val (.int (1 : Int32)), .unset, .unset] [(.int (97 : Int32)), (.int ((p1.toUInt32.toUInt16.toUInt32.toInt32) ||| (32 : Int32)))])) _
            refine XS.isub X0.here hx rfl (hb hby at_30) rfl ?_
            show Steps p.tables e below (s₁.setTop (mkF m 31 #[.val (.int p1), .val (.int (p1.toUInt32.toUInt16.toUInt32.toInt32)), .val (.int ((p1.toUInt32.toUInt16.toUInt32.toInt32) - (48 : Int32))), .val (.int (1 : Int32)), .unset, .unset] [(.int (((p1.toUInt32.toUInt16.toUInt32.toInt32) ||| (32 : Int32)) - (97 : Int32)))])) _
            refine XS.istore X0.here hx rfl (hb hby at_31) rfl (l' := #[.val (.int p1), .val (.int (p1.toUInt32.toUInt16.toUInt32.toInt32)), .val (.int ((p1.toUInt32.toUInt16.toUInt32.toInt32) - (48 : Int32))), .val (.int (1 : Int32)), .val (.int (((p1.toUInt32.toUInt16.toUInt32.toInt32) ||| (32 : Int32)) - (97 : Int32))), .unset]) rfl ?_
            show Steps p.tables e below (s₁.setTop (mkF m 33 #[.val (.int p1), .val (.int (p1.toUInt32.toUInt16.toUInt32.toInt32)), .val (.int ((p1.toUInt32.toUInt16.toUInt32.toInt32) - (48 : Int32))), .val (.int (1 : Int32)), .val (.int (((p1.toUInt32.toUInt16.toUInt32.toInt32) ||| (32 : Int32)) - (97 : Int32))), .unset] [])) _
            refine XS.iload X0.here hx rfl (hb hby at_33) rfl ?_
            show Steps p.tables e below (s₁.setTop (mkF m 35 #[.val (.int p1), .val (.int (p1.toUInt32.toUInt16.toUInt32.toInt32)), .val (.int ((p1.toUInt32.toUInt16.toUInt32.toInt32) - (48 : Int32))), .val (.int (1 : Int32)), .val (.int (((p1.toUInt32.toUInt16.toUInt32.toInt32) ||| (32 : Int32)) - (97 : Int32))), .unset] [(.int (((p1.toUInt32.toUInt16.toUInt32.toInt32) ||| (32 : Int32)) - (97 : Int32)))])) _
            refine XS.ifNo X0.here hx rfl (hb hby at_35) rfl ((if0 _ _).trans (flt hc35).1) ?_
            show Steps p.tables e below (s₁.setTop (mkF m 38 #[.val (.int p1), .val (.int (p1.toUInt32.toUInt16.toUInt32.toInt32)), .val (.int ((p1.toUInt32.toUInt16.toUInt32.toInt32) - (48 : Int32))), .val (.int (1 : Int32)), .val (.int (((p1.toUInt32.toUInt16.toUInt32.toInt32) ||| (32 : Int32)) - (97 : Int32))), .unset] [])) _
            refine XS.iload X0.here hx rfl (hb hby at_38) rfl ?_
            show Steps p.tables e below (s₁.setTop (mkF m 40 #[.val (.int p1), .val (.int (p1.toUInt32.toUInt16.toUInt32.toInt32)), .val (.int ((p1.toUInt32.toUInt16.toUInt32.toInt32) - (48 : Int32))), .val (.int (1 : Int32)), .val (.int (((p1.toUInt32.toUInt16.toUInt32.toInt32) ||| (32 : Int32)) - (97 : Int32))), .unset] [(.int (((p1.toUInt32.toUInt16.toUInt32.toInt32) ||| (32 : Int32)) - (97 : Int32)))])) _
            refine XS.bipush X0.here hx rfl (hb hby at_40) ?_
            show Steps p.tables e below (s₁.setTop (mkF m 42 #[.val (.int p1), .val (.int (p1.toUInt32.toUInt16.toUInt32.toInt32)), .val (.int ((p1.toUInt32.toUInt16.toUInt32.toInt32) - (48 : Int32))), .val (.int (1 : Int32)), .val (.int (((p1.toUInt32.toUInt16.toUInt32.toInt32) ||| (32 : Int32)) - (97 : Int32))), .unset] [(.int (26 : Int32)), (.int (((p1.toUInt32.toUInt16.toUInt32.toInt32) ||| (32 : Int32)) - (97 : Int32)))])) _
            refine XS.icmpYes X0.here hx rfl (pc0 := 42) (pc' := 49) rfl (hb hby at_42) rfl (flt hc42).2.1 (by decide) (by decide) ?_
            show Steps p.tables e below (s₁.setTop (mkF m 49 #[.val (.int p1), .val (.int (p1.toUInt32.toUInt16.toUInt32.toInt32)), .val (.int ((p1.toUInt32.toUInt16.toUInt32.toInt32) - (48 : Int32))), .val (.int (1 : Int32)), .val (.int (((p1.toUInt32.toUInt16.toUInt32.toInt32) ||| (32 : Int32)) - (97 : Int32))), .unset] [])) _
            refine XS.iconst X0.here hx rfl (hb hby at_49) ?_
            show Steps p.tables e below (s₁.setTop (mkF m 50 #[.val (.int p1), .val (.int (p1.toUInt32.toUInt16.toUInt32.toInt32)), .val (.int ((p1.toUInt32.toUInt16.toUInt32.toInt32) - (48 : Int32))), .val (.int (1 : Int32)), .val (.int (((p1.toUInt32.toUInt16.toUInt32.toInt32) ||| (32 : Int32)) - (97 : Int32))), .unset] [(.int (0 : Int32))])) _
            refine XS.istore X0.here hx rfl (hb hby at_50) rfl (l' := #[.val (.int p1), .val (.int (p1.toUInt32.toUInt16.toUInt32.toInt32)), .val (.int ((p1.toUInt32.toUInt16.toUInt32.toInt32) - (48 : Int32))), .val (.int (1 : Int32)), .val (.int (((p1.toUInt32.toUInt16.toUInt32.toInt32) ||| (32 : Int32)) - (97 : Int32))), .val (.int (0 : Int32))]) rfl ?_
            show Steps p.tables e below (s₁.setTop (mkF m 52 #[.val (.int p1), .val (.int (p1.toUInt32.toUInt16.toUInt32.toInt32)), .val (.int ((p1.toUInt32.toUInt16.toUInt32.toInt32) - (48 : Int32))), .val (.int (1 : Int32)), .val (.int (((p1.toUInt32.toUInt16.toUInt32.toInt32) ||| (32 : Int32)) - (97 : Int32))), .val (.int (0 : Int32))] [])) _
            refine XS.iloadN X0.here hx rfl (hb hby at_52) rfl ?_
            show Steps p.tables e below (s₁.setTop (mkF m 53 #[.val (.int p1), .val (.int (p1.toUInt32.toUInt16.toUInt32.toInt32)), .val (.int ((p1.toUInt32.toUInt16.toUInt32.toInt32) - (48 : Int32))), .val (.int (1 : Int32)), .val (.int (((p1.toUInt32.toUInt16.toUInt32.toInt32) ||| (32 : Int32)) - (97 : Int32))), .val (.int (0 : Int32))] [(.int (p1.toUInt32.toUInt16.toUInt32.toInt32))])) _
            refine st2 _ ?_
            show Steps p.tables e below (T2.setTop (mkF m 56 #[.val (.int p1), .val (.int (p1.toUInt32.toUInt16.toUInt32.toInt32)), .val (.int ((p1.toUInt32.toUInt16.toUInt32.toInt32) - (48 : Int32))), .val (.int (1 : Int32)), .val (.int (((p1.toUInt32.toUInt16.toUInt32.toInt32) ||| (32 : Int32)) - (97 : Int32))), .val (.int (0 : Int32))] [(.int (own_f1 (p1.toUInt32.toUInt16.toUInt32.toInt32)))])) _
            refine XS.iloadN X2.here hx rfl (hb hby at_56) rfl ?_
            show Steps p.tables e below (T2.setTop (mkF m 57 #[.val (.int p1), .val (.int (p1.toUInt32.toUInt16.toUInt32.toInt32)), .val (.int ((p1.toUInt32.toUInt16.toUInt32.toInt32) - (48 : Int32))), .val (.int (1 : Int32)), .val (.int (((p1.toUInt32.toUInt16.toUInt32.toInt32) ||| (32 : Int32)) - (97 : Int32))), .val (.int (0 : Int32))] [(.int (1 : Int32)), (.int (own_f1 (p1.toUInt32.toUInt16.toUInt32.toInt32)))])) _
            refine XS.ifYes X2.here hx rfl (pc0 := 57) (pc' := 65) rfl (hb hby at_57) rfl ((if0 _ _).trans (feq hc57).2) (by decide) (by decide) ?_
            show Steps p.tables e below (T2.setTop (mkF m 65 #[.val (.int p1), .val (.int (p1.toUInt32.toUInt16.toUInt32.toInt32)), .val (.int ((p1.toUInt32.toUInt16.toUInt32.toInt32) - (48 : Int32))), .val (.int (1 : Int32)), .val (.int (((p1.toUInt32.toUInt16.toUInt32.toInt32) ||| (32 : Int32)) - (97 : Int32))), .val (.int (0 : Int32))] [(.int (own_f1 (p1.toUInt32.toUInt16.toUInt32.toInt32)))])) _
            refine XS.iconst X2.here hx rfl (hb hby at_65) ?_
            show Steps p.tables e below (T2.setTop (mkF m 66 #[.val (.int p1), .val (.int (p1.toUInt32.toUInt16.toUInt32.toInt32)), .val (.int ((p1.toUInt32.toUInt16.toUInt32.toInt32) - (48 : Int32))), .val (.int (1 : Int32)), .val (.int (((p1.toUInt32.toUInt16.toUInt32.toInt32) ||| (32 : Int32)) - (97 : Int32))), .val (.int (0 : Int32))] [(.int (1 : Int32)), (.int (own_f1 (p1.toUInt32.toUInt16.toUInt32.toInt32)))])) _
            refine XS.goto X2.here hx rfl (pc0 := 66) (pc' := 70) rfl (hb hby at_66) (by decide) (by decide) ?_
            show Steps p.tables e below (T2.setTop (mkF m 70 #[.val (.int p1), .val (.int (p1.toUInt32.toUInt16.toUInt32.toInt32)), .val (.int ((p1.toUInt32.toUInt16.toUInt32.toInt32) - (48 : Int32))), .val (.int (1 : Int32)), .val (.int (((p1.toUInt32.toUInt16.toUInt32.toInt32) ||| (32 : Int32)) - (97 : Int32))), .val (.int (0 : Int32))] [(.int (1 : Int32)), (.int (own_f1 (p1.toUInt32.toUInt16.toUInt32.toInt32)))])) _
            refine XS.icmpNo X2.here hx rfl (hb hby at_70) rfl (teq (show (own_f1 (p1.toUInt32.toUInt16.toUInt32.toInt32)) = (1 : Int32) by first | exact own_1a _ (c_i2c p1).2 hc9 hc15 | exact own_1b _ (c_i2c p1).2 hc35 hc42 | exact own_0 _ (c_i2c p1).2 (Or.inl hc9) (Or.inl hc35) | exact own_0 _ (c_i2c p1).2 (Or.inl hc9) (Or.inr hc42) | exact own_0 _ (c_i2c p1).2 (Or.inr hc15) (Or.inl hc35) | exact own_0 _ (c_i2c p1).2 (Or.inr hc15) (Or.inr hc42))).2 ?_
            show Steps p.tables e below (T2.setTop (mkF m 73 #[.val (.int p1), .val (.int (p1.toUInt32.toUInt16.toUInt32.toInt32)), .val (.int ((p1.toUInt32.toUInt16.toUInt32.toInt32) - (48 : Int32))), .val (.int (1 : Int32)), .val (.int (((p1.toUInt32.toUInt16.toUInt32.toInt32) ||| (32 : Int32)) - (97 : Int32))), .val (.int (0 : Int32))] [])) _
            refine XS.iconst X2.here hx rfl (hb hby at_73) ?_
            show Steps p.tables e below (T2.setTop (mkF m 74 #[.val (.int p1), .val (.int (p1.toUInt32.toUInt16.toUInt32.toInt32)), .val (.int ((p1.toUInt32.toUInt16.toUInt32.toInt32) - (48 : Int32))), .val (.int (1 : Int32)), .val (.int (((p1.toUInt32.toUInt16.toUInt32.toInt32) ||| (32 : Int32)) - (97 : Int32))), .val (.int (0 : Int32))] [(.int (1 : Int32))])) _
            refine XS.goto X2.here hx rfl (pc0 := 74) (pc' := 78) rfl (hb hby at_74) (by decide) (by decide) ?_
            show Steps p.tables e below (T2.setTop (mkF m 78 #[.val (.int p1), .val (.int (p1.toUInt32.toUInt16.toUInt32.toInt32)), .val (.int ((p1.toUInt32.toUInt16.toUInt32.toInt32) - (48 : Int32))), .val (.int (1 : Int32)), .val (.int (((p1.toUInt32.toUInt16.toUInt32.toInt32) ||| (32 : Int32)) - (97 : Int32))), .val (.int (0 : Int32))] [(.int (1 : Int32))])) _
            exact retN X2 hx (t := .boolean) Bd.returns (by simp) (hb hby at_78) hr
          · show Q0 Z p1 h0 n0 _ T2.heap _
            exact ⟨rfl, N2⟩
    · by_cases hc35 : (((p1.toUInt32.toUInt16.toUInt32.toInt32) ||| (32 : Int32)) - (97 : Int32)) < (0 : Int32)
      · obtain ⟨_, _, ⟨T2, L2, k2, n2⟩, -, X2, ⟨Lc2, hQ2, l2, y2, z2⟩, st2⟩ := Jvm.LawKit.callS X0 hx (y := (⟨"com/example/usher/usher/Member", "isLetterOrDigit", "(C)Z"⟩ : MethodName)) hown (mvT hZ (hw _ (List.mem_of_getElem? (i := 0) rfl))) (mvT hZ (hw _ (List.mem_of_getElem? (i := 1) rfl))) (mvT hZ (hw _ (List.mem_of_getElem? (i := 2) rfl))) (mvT hZ (hw _ (List.mem_of_getElem? (i := 3) rfl))) (by decide) (backOf (W := 0) (rm1 l Z a0 hw [] (p1.toUInt32.toUInt16.toUInt32.toInt32) h0 n0 Z0) hZ (hw _ (List.mem_of_getElem? (i := 3) rfl)) (hw _ (List.mem_of_getElem? (i := 2) rfl)) (by decide) (by decide)) (g := (mkF m 53 #[.val (.int p1), .val (.int (p1.toUInt32.toUInt16.toUInt32.toInt32)), .val (.int ((p1.toUInt32.toUInt16.toUInt32.toInt32) - (48 : Int32))), .val (.int (0 : Int32)), .val (.int (((p1.toUInt32.toUInt16.toUInt32.toInt32) ||| (32 : Int32)) - (97 : Int32))), .val (.int (0 : Int32))] [(.int (p1.toUInt32.toUInt16.toUInt32.toInt32))])) rfl (by rw [hml]; rfl) (argsL := [(.int (p1.toUInt32.toUInt16.toUInt32.toInt32))]) (rest := []) (lenOf pd_0_0 rfl) rfl (by show 2 * 0 + _ ≤ _; exact Nat.le_of_eq rfl) (hb hby at_53) (fun _ _ => ⟨rfl, e0, (by decide : 0 + 0 ≤ _), (by decide : 0 + 0 ≤ _)⟩)
        dsimp only [Pt.U, Pt.locs, Pt.cells, Pt.slots] at X2 l2 y2 z2 st2 hQ2
        subst l2 y2 z2
        obtain ⟨rfl, N2q, q2'⟩ := hQ2
        have q2 : T2.heap = h0 := q2'
        have N2 := Fr.app N0 N2q
        obtain ⟨fs, hr, hrun, hended, hW, hsame⟩ := X2.leave (v := some (.int (1 : Int32))) (fun h => by rw [Bd.returns] at h; cases h)
        refine ⟨_, _, pre0 _ ?_, hrun, hended, _, _, rfl, ?_, ⟨_, rfl⟩, hW, hsame.mono (by decide) (by decide)⟩
        · show Steps p.tables e below (s₁.setTop (mkF m 0 #[.val (.int p1), .unset, .unset, .unset, .unset, .unset] [])) _
          refine XS.iloadN X0.here hx rfl (hb hby at_0) rfl ?_
          show Steps p.tables e below (s₁.setTop (mkF m 1 #[.val (.int p1), .unset, .unset, .unset, .unset, .unset] [(.int p1)])) _
          refine XS.i2c X0.here hx rfl (hb hby at_1) rfl ?_
          show Steps p.tables e below (s₁.setTop (mkF m 2 #[.val (.int p1), .unset, .unset, .unset, .unset, .unset] [(.int (p1.toUInt32.toUInt16.toUInt32.toInt32))])) _
          refine XS.istoreN X0.here hx rfl (hb hby at_2) rfl (l' := #[.val (.int p1), .val (.int (p1.toUInt32.toUInt16.toUInt32.toInt32)), .unset, .unset, .unset, .unset]) rfl ?_
          show Steps p.tables e below (s₁.setTop (mkF m 3 #[.val (.int p1), .val (.int (p1.toUInt32.toUInt16.toUInt32.toInt32)), .unset, .unset, .unset, .unset] [])) _
          refine XS.iloadN X0.here hx rfl (hb hby at_3) rfl ?_
          show Steps p.tables e below (s₁.setTop (mkF m 4 #[.val (.int p1), .val (.int (p1.toUInt32.toUInt16.toUInt32.toInt32)), .unset, .unset, .unset, .unset] [(.int (p1.toUInt32.toUInt16.toUInt32.toInt32))])) _
          refine XS.bipush X0.here hx rfl (hb hby at_4) ?_
          show Steps p.tables e below (s₁.setTop (mkF m 6 #[.val (.int p1), .val (.int (p1.toUInt32.toUInt16.toUInt32.toInt32)), .unset, .unset, .unset, .unset] [(.int (48 : Int32)), (.int (p1.toUInt32.toUInt16.toUInt32.toInt32))])) _
          refine XS.isub X0.here hx rfl (hb hby at_6) rfl ?_
          show Steps p.tables e below (s₁.setTop (mkF m 7 #[.val (.int p1), .val (.int (p1.toUInt32.toUInt16.toUInt32.toInt32)), .unset, .unset, .unset, .unset] [(.int ((p1.toUInt32.toUInt16.toUInt32.toInt32) - (48 : Int32)))])) _
          refine XS.istoreN X0.here hx rfl (hb hby at_7) rfl (l' := #[.val (.int p1), .val (.int (p1.toUInt32.toUInt16.toUInt32.toInt32)), .val (.int ((p1.toUInt32.toUInt16.toUInt32.toInt32) - (48 : Int32))), .unset, .unset, .unset]) rfl ?_
          show Steps p.tables e below (s₁.setTop (mkF m 8 #[.val (.int p1), .val (.int (p1.toUInt32.toUInt16.toUInt32.toInt32)), .val (.int ((p1.toUInt32.toUInt16.toUInt32.toInt32) - (48 : Int32))), .unset, .unset, .unset] [])) _
          refine XS.iloadN X0.here hx rfl (hb hby at_8) rfl ?_
          show Steps p.tables e below (s₁.setTop (mkF m 9 #[.val (.int p1), .val (.int (p1.toUInt32.toUInt16.toUInt32.toInt32)), .val (.int ((p1.toUInt32.toUInt16.toUInt32.toInt32) - (48 : Int32))), .unset, .unset, .unset] [(.int ((p1.toUInt32.toUInt16.toUInt32.toInt32) - (48 : Int32)))])) _
          refine XS.ifNo X0.here hx rfl (hb hby at_9) rfl ((if0 _ _).trans (flt hc9).1) ?_
          show Steps p.tables e below (s₁.setTop (mkF m 12 #[.val (.int p1), .val (.int (p1.toUInt32.toUInt16.toUInt32.toInt32)), .val (.int ((p1.toUInt32.toUInt16.toUInt32.toInt32) - (48 : Int32))), .unset, .unset, .unset] [])) _
          refine XS.iloadN X0.here hx rfl (hb hby at_12) rfl ?_
          show Steps p.tables e below (s₁.setTop (mkF m 13 #[.val (.int p1), .val (.int (p1.toUInt32.toUInt16.toUInt32.toInt32)), .val (.int ((p1.toUInt32.toUInt16.toUInt32.toInt32) - (48 : Int32))), .unset, .unset, .unset] [(.int ((p1.toUInt32.toUInt16.toUInt32.toInt32) - (48 : Int32)))])) _
          refine XS.bipush X0.here hx rfl (hb hby at_13) ?_
          show Steps p.tables e below (s₁.setTop (mkF m 15 #[.val (.int p1), .val (.int (p1.toUInt32.toUInt16.toUInt32.toInt32)), .val (.int ((p1.toUInt32.toUInt16.toUInt32.toInt32) - (48 : Int32))), .unset, .unset, .unset] [(.int (10 : Int32)), (.int ((p1.toUInt32.toUInt16.toUInt32.toInt32) - (48 : Int32)))])) _
          refine XS.icmpYes X0.here hx rfl (pc0 := 15) (pc' := 22) rfl (hb hby at_15) rfl (flt hc15).2.1 (by decide) (by decide) ?_
          show Steps p.tables e below (s₁.setTop (mkF m 22 #[.val (.int p1), .val (.int (p1.toUInt32.toUInt16.toUInt32.toInt32)), .val (.int ((p1.toUInt32.toUInt16.toUInt32.toInt32) - (48 : Int32))), .unset, .unset, .unset] [])) _
          refine XS.iconst X0.here hx rfl (hb hby at_22) ?_
          show Steps p.tables e below (s₁.setTop (mkF m 23 #[.val (.int p1), .val (.int (p1.toUInt32.toUInt16.toUInt32.toInt32)), .val (.int ((p1.toUInt32.toUInt16.toUInt32.toInt32) - (48 : Int32))), .unset, .unset, .unset] [(.int (0 : Int32))])) _
          refine XS.istoreN X0.here hx rfl (hb hby at_23) rfl (l' := #[.val (.int p1), .val (.int (p1.toUInt32.toUInt16.toUInt32.toInt32)), .val (.int ((p1.toUInt32.toUInt16.toUInt32.toInt32) - (48 : Int32))), .val (.int (0 : Int32)), .unset, .unset]) rfl ?_
          show Steps p.tables e below (s₁.setTop (mkF m 24 #[.val (.int p1), .val (.int (p1.toUInt32.toUInt16.toUInt32.toInt32)), .val (.int ((p1.toUInt32.toUInt16.toUInt32.toInt32) - (48 : Int32))), .val (.int (0 : Int32)), .unset, .unset] [])) _
          refine XS.iloadN X0.here hx rfl (hb hby at_24) rfl ?_
          show Steps p.tables e below (s₁.setTop (mkF m 25 #[.val (.int p1), .val (.int (p1.toUInt32.toUInt16.toUInt32.toInt32)), .val (.int ((p1.toUInt32.toUInt16.toUInt32.toInt32) - (48 : Int32))), .val (.int (0 : Int32)), .unset, .unset] [(.int (p1.toUInt32.toUInt16.toUInt32.toInt32))])) _
          refine XS.bipush X0.here hx rfl (hb hby at_25) ?_
          show Steps p.tables e below (s₁.setTop (mkF m 27 #[.val (.int p1), .val (.int (p1.toUInt32.toUInt16.toUInt32.toInt32)), .val (.int ((p1.toUInt32.toUInt16.toUInt32.toInt32) - (48 : Int32))), .val (.int (0 : Int32)), .unset, .unset] [(.int (32 : Int32)), (.int (p1.toUInt32.toUInt16.toUInt32.toInt32))])) _
          refine XS.ior X0.here hx rfl (hb hby at_27) rfl ?_
          show Steps p.tables e below (s₁.setTop (mkF m 28 #[.val (.int p1), .val (.int (p1.toUInt32.toUInt16.toUInt32.toInt32)), .val (.int ((p1.toUInt32.toUInt16.toUInt32.toInt32) - (48 : Int32))), .val (.int (0 : Int32)), .unset, .unset] [(.int ((p1.toUInt32.toUInt16.toUInt32.toInt32) ||| (32 : Int32)))])) _
          refine XS.bipush X0.here hx rfl (hb hby at_28) ?_
          show Steps p.tables e below (s₁.setTop (mkF m 30 #[.val (.int p1), .val (.int (p1.toUInt32.toUInt16.toUInt32.toInt32)), .val (.int ((p1.toUInt32.toUInt16.toUInt32.toInt32) - (48 : Int32))), .val (.int (0 : Int32)), .unset, .unset] [(.int (97 : Int32)), (.int ((p1.toUInt32.toUInt16.toUInt32.toInt32) ||| (32 : Int32)))])) _
          refine XS.isub X0.here hx rfl (hb hby at_30) rfl ?_
          show Steps p.tables e below (s₁.setTop (mkF m 31 #[.val (.int p1), .val (.int (p1.toUInt32.toUInt16.toUInt32.toInt32)), .val (.int ((p1.toUInt32.toUInt16.toUInt32.toInt32) - (48 : Int32))), .val (.int (0 : Int32)), .unset, .unset] [(.int (((p1.toUInt32.toUInt16.toUInt32.toInt32) ||| (32 : Int32)) - (97 : Int32)))])) _
          refine XS.istore X0.here hx rfl (hb hby at_31) rfl (l' := #[.val (.int p1), .val (.int (p1.toUInt32.toUInt16.toUInt32.toInt32)), .val (.int ((p1.toUInt32.toUInt16.toUInt32.toInt32) - (48 : Int32))), .val (.int (0 : Int32)), .val (.int (((p1.toUInt32.toUInt16.toUInt32.toInt32) ||| (32 : Int32)) - (97 : Int32))), .unset]) rfl ?_
          show Steps p.tables e below (s₁.setTop (mkF m 33 #[.val (.int p1), .val (.int (p1.toUInt32.toUInt16.toUInt32.toInt32)), .val (.int ((p1.toUInt32.toUInt16.toUInt32.toInt32) - (48 : Int32))), .val (.int (0 : Int32)), .val (.int (((p1.toUInt32.toUInt16.toUInt32.toInt32) ||| (32 : Int32)) - (97 : Int32))), .unset] [])) _
          refine XS.iload X0.here hx rfl (hb hby at_33) rfl ?_
          show Steps p.tables e below (s₁.setTop (mkF m 35 #[.val (.int p1), .val (.int (p1.toUInt32.toUInt16.toUInt32.toInt32)), .val (.int ((p1.toUInt32.toUInt16.toUInt32.toInt32) - (48 : Int32))), .val (.int (0 : Int32)), .val (.int (((p1.toUInt32.toUInt16.toUInt32.toInt32) ||| (32 : Int32)) - (97 : Int32))), .unset] [(.int (((p1.toUInt32.toUInt16.toUInt32.toInt32) ||| (32 : Int32)) - (97 : Int32)))])) _
          refine XS.ifYes X0.here hx rfl (pc0 := 35) (pc' := 49) rfl (hb hby at_35) rfl ((if0 _ _).trans (tlt hc35).1) (by decide) (by decide) ?_
          show Steps p.tables e below (s₁.setTop (mkF m 49 #[.val (.int p1), .val (.int (p1.toUInt32.toUInt16.toUInt32.toInt32)), .val (.int ((p1.toUInt32.toUInt16.toUInt32.toInt32) - (48 : Int32))), .val (.int (0 : Int32)), .val (.int (((p1.toUInt32.toUInt16.toUInt32.toInt32) ||| (32 : Int32)) - (97 : Int32))), .unset] [])) _
          refine XS.iconst X0.here hx rfl (hb hby at_49) ?_
          show Steps p.tables e below (s₁.setTop (mkF m 50 #[.val (.int p1), .val (.int (p1.toUInt32.toUInt16.toUInt32.toInt32)), .val (.int ((p1.toUInt32.toUInt16.toUInt32.toInt32) - (48 : Int32))), .val (.int (0 : Int32)), .val (.int (((p1.toUInt32.toUInt16.toUInt32.toInt32) ||| (32 : Int32)) - (97 : Int32))), .unset] [(.int (0 : Int32))])) _
          refine XS.istore X0.here hx rfl (hb hby at_50) rfl (l' := #[.val (.int p1), .val (.int (p1.toUInt32.toUInt16.toUInt32.toInt32)), .val (.int ((p1.toUInt32.toUInt16.toUInt32.toInt32) - (48 : Int32))), .val (.int (0 : Int32)), .val (.int (((p1.toUInt32.toUInt16.toUInt32.toInt32) ||| (32 : Int32)) - (97 : Int32))), .val (.int (0 : Int32))]) rfl ?_
          show Steps p.tables e below (s₁.setTop (mkF m 52 #[.val (.int p1), .val (.int (p1.toUInt32.toUInt16.toUInt32.toInt32)), .val (.int ((p1.toUInt32.toUInt16.toUInt32.toInt32) - (48 : Int32))), .val (.int (0 : Int32)), .val (.int (((p1.toUInt32.toUInt16.toUInt32.toInt32) ||| (32 : Int32)) - (97 : Int32))), .val (.int (0 : Int32))] [])) _
          refine XS.iloadN X0.here hx rfl (hb hby at_52) rfl ?_
          show Steps p.tables e below (s₁.setTop (mkF m 53 #[.val (.int p1), .val (.int (p1.toUInt32.toUInt16.toUInt32.toInt32)), .val (.int ((p1.toUInt32.toUInt16.toUInt32.toInt32) - (48 : Int32))), .val (.int (0 : Int32)), .val (.int (((p1.toUInt32.toUInt16.toUInt32.toInt32) ||| (32 : Int32)) - (97 : Int32))), .val (.int (0 : Int32))] [(.int (p1.toUInt32.toUInt16.toUInt32.toInt32))])) _
          refine st2 _ ?_
          show Steps p.tables e below (T2.setTop (mkF m 56 #[.val (.int p1), .val (.int (p1.toUInt32.toUInt16.toUInt32.toInt32)), .val (.int ((p1.toUInt32.toUInt16.toUInt32.toInt32) - (48 : Int32))), .val (.int (0 : Int32)), .val (.int (((p1.toUInt32.toUInt16.toUInt32.toInt32) ||| (32 : Int32)) - (97 : Int32))), .val (.int (0 : Int32))] [(.int (own_f1 (p1.toUInt32.toUInt16.toUInt32.toInt32)))])) _
          refine XS.iloadN X2.here hx rfl (hb hby at_56) rfl ?_
          show Steps p.tables e below (T2.setTop (mkF m 57 #[.val (.int p1), .val (.int (p1.toUInt32.toUInt16.toUInt32.toInt32)), .val (.int ((p1.toUInt32.toUInt16.toUInt32.toInt32) - (48 : Int32))), .val (.int (0 : Int32)), .val (.int (((p1.toUInt32.toUInt16.toUInt32.toInt32) ||| (32 : Int32)) - (97 : Int32))), .val (.int (0 : Int32))] [(.int (0 : Int32)), (.int (own_f1 (p1.toUInt32.toUInt16.toUInt32.toInt32)))])) _
          refine XS.ifNo X2.here hx rfl (hb hby at_57) rfl ((if0 _ _).trans (teq (rfl : (0 : Int32) = (0 : Int32))).2) ?_
          show Steps p.tables e below (T2.setTop (mkF m 60 #[.val (.int p1), .val (.int (p1.toUInt32.toUInt16.toUInt32.toInt32)), .val (.int ((p1.toUInt32.toUInt16.toUInt32.toInt32) - (48 : Int32))), .val (.int (0 : Int32)), .val (.int (((p1.toUInt32.toUInt16.toUInt32.toInt32) ||| (32 : Int32)) - (97 : Int32))), .val (.int (0 : Int32))] [(.int (own_f1 (p1.toUInt32.toUInt16.toUInt32.toInt32)))])) _
          refine XS.iload X2.here hx rfl (hb hby at_60) rfl ?_
          show Steps p.tables e below (T2.setTop (mkF m 62 #[.val (.int p1), .val (.int (p1.toUInt32.toUInt16.toUInt32.toInt32)), .val (.int ((p1.toUInt32.toUInt16.toUInt32.toInt32) - (48 : Int32))), .val (.int (0 : Int32)), .val (.int (((p1.toUInt32.toUInt16.toUInt32.toInt32) ||| (32 : Int32)) - (97 : Int32))), .val (.int (0 : Int32))] [(.int (0 : Int32)), (.int (own_f1 (p1.toUInt32.toUInt16.toUInt32.toInt32)))])) _
          refine XS.ifYes X2.here hx rfl (pc0 := 62) (pc' := 69) rfl (hb hby at_62) rfl ((if0 _ _).trans (teq (rfl : (0 : Int32) = (0 : Int32))).1) (by decide) (by decide) ?_
          show Steps p.tables e below (T2.setTop (mkF m 69 #[.val (.int p1), .val (.int (p1.toUInt32.toUInt16.toUInt32.toInt32)), .val (.int ((p1.toUInt32.toUInt16.toUInt32.toInt32) - (48 : Int32))), .val (.int (0 : Int32)), .val (.int (((p1.toUInt32.toUInt16.toUInt32.toInt32) ||| (32 : Int32)) - (97 : Int32))), .val (.int (0 : Int32))] [(.int (own_f1 (p1.toUInt32.toUInt16.toUInt32.toInt32)))])) _
          refine XS.iconst X2.here hx rfl (hb hby at_69) ?_
          show Steps p.tables e below (T2.setTop (mkF m 70 #[.val (.int p1), .val (.int (p1.toUInt32.toUInt16.toUInt32.toInt32)), .val (.int ((p1.toUInt32.toUInt16.toUInt32.toInt32) - (48 : Int32))), .val (.int (0 : Int32)), .val (.int (((p1.toUInt32.toUInt16.toUInt32.toInt32) ||| (32 : Int32)) - (97 : Int32))), .val (.int (0 : Int32))] [(.int (0 : Int32)), (.int (own_f1 (p1.toUInt32.toUInt16.toUInt32.toInt32)))])) _
          refine XS.icmpNo X2.here hx rfl (hb hby at_70) rfl (teq (show (own_f1 (p1.toUInt32.toUInt16.toUInt32.toInt32)) = (0 : Int32) by first | exact own_1a _ (c_i2c p1).2 hc9 hc15 | exact own_1b _ (c_i2c p1).2 hc35 hc42 | exact own_0 _ (c_i2c p1).2 (Or.inl hc9) (Or.inl hc35) | exact own_0 _ (c_i2c p1).2 (Or.inl hc9) (Or.inr hc42) | exact own_0 _ (c_i2c p1).2 (Or.inr hc15) (Or.inl hc35) | exact own_0 _ (c_i2c p1).2 (Or.inr hc15) (Or.inr hc42))).2 ?_
          show Steps p.tables e below (T2.setTop (mkF m 73 #[.val (.int p1), .val (.int (p1.toUInt32.toUInt16.toUInt32.toInt32)), .val (.int ((p1.toUInt32.toUInt16.toUInt32.toInt32) - (48 : Int32))), .val (.int (0 : Int32)), .val (.int (((p1.toUInt32.toUInt16.toUInt32.toInt32) ||| (32 : Int32)) - (97 : Int32))), .val (.int (0 : Int32))] [])) _
          refine XS.iconst X2.here hx rfl (hb hby at_73) ?_
          show Steps p.tables e below (T2.setTop (mkF m 74 #[.val (.int p1), .val (.int (p1.toUInt32.toUInt16.toUInt32.toInt32)), .val (.int ((p1.toUInt32.toUInt16.toUInt32.toInt32) - (48 : Int32))), .val (.int (0 : Int32)), .val (.int (((p1.toUInt32.toUInt16.toUInt32.toInt32) ||| (32 : Int32)) - (97 : Int32))), .val (.int (0 : Int32))] [(.int (1 : Int32))])) _
          refine XS.goto X2.here hx rfl (pc0 := 74) (pc' := 78) rfl (hb hby at_74) (by decide) (by decide) ?_
          show Steps p.tables e below (T2.setTop (mkF m 78 #[.val (.int p1), .val (.int (p1.toUInt32.toUInt16.toUInt32.toInt32)), .val (.int ((p1.toUInt32.toUInt16.toUInt32.toInt32) - (48 : Int32))), .val (.int (0 : Int32)), .val (.int (((p1.toUInt32.toUInt16.toUInt32.toInt32) ||| (32 : Int32)) - (97 : Int32))), .val (.int (0 : Int32))] [(.int (1 : Int32))])) _
          exact retN X2 hx (t := .boolean) Bd.returns (by simp) (hb hby at_78) hr
        · show Q0 Z p1 h0 n0 _ T2.heap _
          exact ⟨rfl, N2⟩
      · by_cases hc42 : (((p1.toUInt32.toUInt16.toUInt32.toInt32) ||| (32 : Int32)) - (97 : Int32)) < (26 : Int32)
        · have hc62 : ¬ ((1 : Int32) = (0 : Int32)) := by decide
          obtain ⟨_, _, ⟨T2, L2, k2, n2⟩, -, X2, ⟨Lc2, hQ2, l2, y2, z2⟩, st2⟩ := Jvm.LawKit.callS X0 hx (y := (⟨"com/example/usher/usher/Member", "isLetterOrDigit", "(C)Z"⟩ : MethodName)) hown (mvT hZ (hw _ (List.mem_of_getElem? (i := 0) rfl))) (mvT hZ (hw _ (List.mem_of_getElem? (i := 1) rfl))) (mvT hZ (hw _ (List.mem_of_getElem? (i := 2) rfl))) (mvT hZ (hw _ (List.mem_of_getElem? (i := 3) rfl))) (by decide) (backOf (W := 0) (rm1 l Z a0 hw [] (p1.toUInt32.toUInt16.toUInt32.toInt32) h0 n0 Z0) hZ (hw _ (List.mem_of_getElem? (i := 3) rfl)) (hw _ (List.mem_of_getElem? (i := 2) rfl)) (by decide) (by decide)) (g := (mkF m 53 #[.val (.int p1), .val (.int (p1.toUInt32.toUInt16.toUInt32.toInt32)), .val (.int ((p1.toUInt32.toUInt16.toUInt32.toInt32) - (48 : Int32))), .val (.int (0 : Int32)), .val (.int (((p1.toUInt32.toUInt16.toUInt32.toInt32) ||| (32 : Int32)) - (97 : Int32))), .val (.int (1 : Int32))] [(.int (p1.toUInt32.toUInt16.toUInt32.toInt32))])) rfl (by rw [hml]; rfl) (argsL := [(.int (p1.toUInt32.toUInt16.toUInt32.toInt32))]) (rest := []) (lenOf pd_0_0 rfl) rfl (by show 2 * 0 + _ ≤ _; exact Nat.le_of_eq rfl) (hb hby at_53) (fun _ _ => ⟨rfl, e0, (by decide : 0 + 0 ≤ _), (by decide : 0 + 0 ≤ _)⟩)
          dsimp only [Pt.U, Pt.locs, Pt.cells, Pt.slots] at X2 l2 y2 z2 st2 hQ2
          subst l2 y2 z2
          obtain ⟨rfl, N2q, q2'⟩ := hQ2
          have q2 : T2.heap = h0 := q2'
          have N2 := Fr.app N0 N2q
          obtain ⟨fs, hr, hrun, hended, hW, hsame⟩ := X2.leave (v := some (.int (1 : Int32))) (fun h => by rw [Bd.returns] at h; cases h)
          refine ⟨_, _, pre0 _ ?_, hrun, hended, _, _, rfl, ?_, ⟨_, rfl⟩, hW, hsame.mono (by decide) (by decide)⟩
          · show Steps p.tables e below (s₁.setTop (mkF m 0 #[.val (.int p1), .unset, .unset, .unset, .unset, .unset] [])) _
            refine XS.iloadN X0.here hx rfl (hb hby at_0) rfl ?_
            show Steps p.tables e below (s₁.setTop (mkF m 1 #[.val (.int p1), .unset, .unset, .unset, .unset, .unset] [(.int p1)])) _
            refine XS.i2c X0.here hx rfl (hb hby at_1) rfl ?_
            show Steps p.tables e below (s₁.setTop (mkF m 2 #[.val (.int p1), .unset, .unset, .unset, .unset, .unset] [(.int (p1.toUInt32.toUInt16.toUInt32.toInt32))])) _
            refine XS.istoreN X0.here hx rfl (hb hby at_2) rfl (l' := #[.val (.int p1), .val (.int (p1.toUInt32.toUInt16.toUInt32.toInt32)), .unset, .unset, .unset, .unset]) rfl ?_
            show Steps p.tables e below (s₁.setTop (mkF m 3 #[.val (.int p1), .val (.int (p1.toUInt32.toUInt16.toUInt32.toInt32)), .unset, .unset, .unset, .unset] [])) _
            refine XS.iloadN X0.here hx rfl (hb hby at_3) rfl ?_
            show Steps p.tables e below (s₁.setTop (mkF m 4 #[.val (.int p1), .val (.int (p1.toUInt32.toUInt16.toUInt32.toInt32)), .unset, .unset, .unset, .unset] [(.int (p1.toUInt32.toUInt16.toUInt32.toInt32))])) _
            refine XS.bipush X0.here hx rfl (hb hby at_4) ?_
            show Steps p.tables e below (s₁.setTop (mkF m 6 #[.val (.int p1), .val (.int (p1.toUInt32.toUInt16.toUInt32.toInt32)), .unset, .unset, .unset, .unset] [(.int (48 : Int32)), (.int (p1.toUInt32.toUInt16.toUInt32.toInt32))])) _
            refine XS.isub X0.here hx rfl (hb hby at_6) rfl ?_
            show Steps p.tables e below (s₁.setTop (mkF m 7 #[.val (.int p1), .val (.int (p1.toUInt32.toUInt16.toUInt32.toInt32)), .unset, .unset, .unset, .unset] [(.int ((p1.toUInt32.toUInt16.toUInt32.toInt32) - (48 : Int32)))])) _
            refine XS.istoreN X0.here hx rfl (hb hby at_7) rfl (l' := #[.val (.int p1), .val (.int (p1.toUInt32.toUInt16.toUInt32.toInt32)), .val (.int ((p1.toUInt32.toUInt16.toUInt32.toInt32) - (48 : Int32))), .unset, .unset, .unset]) rfl ?_
            show Steps p.tables e below (s₁.setTop (mkF m 8 #[.val (.int p1), .val (.int (p1.toUInt32.toUInt16.toUInt32.toInt32)), .val (.int ((p1.toUInt32.toUInt16.toUInt32.toInt32) - (48 : Int32))), .unset, .unset, .unset] [])) _
            refine XS.iloadN X0.here hx rfl (hb hby at_8) rfl ?_
            show Steps p.tables e below (s₁.setTop (mkF m 9 #[.val (.int p1), .val (.int (p1.toUInt32.toUInt16.toUInt32.toInt32)), .val (.int ((p1.toUInt32.toUInt16.toUInt32.toInt32) - (48 : Int32))), .unset, .unset, .unset] [(.int ((p1.toUInt32.toUInt16.toUInt32.toInt32) - (48 : Int32)))])) _
            refine XS.ifNo X0.here hx rfl (hb hby at_9) rfl ((if0 _ _).trans (flt hc9).1) ?_
            show Steps p.tables e below (s₁.setTop (mkF m 12 #[.val (.int p1), .val (.int (p1.toUInt32.toUInt16.toUInt32.toInt32)), .val (.int ((p1.toUInt32.toUInt16.toUInt32.toInt32) - (48 : Int32))), .unset, .unset, .unset] [])) _
            refine XS.iloadN X0.here hx rfl (hb hby at_12) rfl ?_
            show Steps p.tables e below (s₁.setTop (mkF m 13 #[.val (.int p1), .val (.int (p1.toUInt32.toUInt16.toUInt32.toInt32)), .val (.int ((p1.toUInt32.toUInt16.toUInt32.toInt32) - (48 : Int32))), .unset, .unset, .unset] [(.int ((p1.toUInt32.toUInt16.toUInt32.toInt32) - (48 : Int32)))])) _
            refine XS.bipush X0.here hx rfl (hb hby at_13) ?_
            show Steps p.tables e below (s₁.setTop (mkF m 15 #[.val (.int p1), .val (.int (p1.toUInt32.toUInt16.toUInt32.toInt32)), .val (.int ((p1.toUInt32.toUInt16.toUInt32.toInt32) - (48 : Int32))), .unset, .unset, .unset] [(.int (10 : Int32)), (.int ((p1.toUInt32.toUInt16.toUInt32.toInt32) - (48 : Int32)))])) _
            refine XS.icmpYes X0.here hx rfl (pc0 := 15) (pc' := 22) rfl (hb hby at_15) rfl (flt hc15).2.1 (by decide) (by decide) ?_
            show Steps p.tables e below (s₁.setTop (mkF m 22 #[.val (.int p1), .val (.int (p1.toUInt32.toUInt16.toUInt32.toInt32)), .val (.int ((p1.toUInt32.toUInt16.toUInt32.toInt32) - (48 : Int32))), .unset, .unset, .unset] [])) _
            refine XS.iconst X0.here hx rfl (hb hby at_22) ?_
            show Steps p.tables e below (s₁.setTop (mkF m 23 #[.val (.int p1), .val (.int (p1.toUInt32.toUInt16.toUInt32.toInt32)), .val (.int ((p1.toUInt32.toUInt16.toUInt32.toInt32) - (48 : Int32))), .unset, .unset, .unset] [(.int (0 : Int32))])) _
            refine XS.istoreN X0.here hx rfl (hb hby at_23) rfl (l' := #[.val (.int p1), .val (.int (p1.toUInt32.toUInt16.toUInt32.toInt32)), .val (.int ((p1.toUInt32.toUInt16.toUInt32.toInt32) - (48 : Int32))), .val (.int (0 : Int32)), .unset, .unset]) rfl ?_
            show Steps p.tables e below (s₁.setTop (mkF m 24 #[.val (.int p1), .val (.int (p1.toUInt32.toUInt16.toUInt32.toInt32)), .val (.int ((p1.toUInt32.toUInt16.toUInt32.toInt32) - (48 : Int32))), .val (.int (0 : Int32)), .unset, .unset] [])) _
            refine XS.iloadN X0.here hx rfl (hb hby at_24) rfl ?_
            show Steps p.tables e below (s₁.setTop (mkF m 25 #[.val (.int p1), .val (.int (p1.toUInt32.toUInt16.toUInt32.toInt32)), .val (.int ((p1.toUInt32.toUInt16.toUInt32.toInt32) - (48 : Int32))), .val (.int (0 : Int32)), .unset, .unset] [(.int (p1.toUInt32.toUInt16.toUInt32.toInt32))])) _
            refine XS.bipush X0.here hx rfl (hb hby at_25) ?_
            show Steps p.tables e below (s₁.setTop (mkF m 27 #[.val (.int p1), .val (.int (p1.toUInt32.toUInt16.toUInt32.toInt32)), .val (.int ((p1.toUInt32.toUInt16.toUInt32.toInt32) - (48 : Int32))), .val (.int (0 : Int32)), .unset, .unset] [(.int (32 : Int32)), (.int (p1.toUInt32.toUInt16.toUInt32.toInt32))])) _
            refine XS.ior X0.here hx rfl (hb hby at_27) rfl ?_
            show Steps p.tables e below (s₁.setTop (mkF m 28 #[.val (.int p1), .val (.int (p1.toUInt32.toUInt16.toUInt32.toInt32)), .val (.int ((p1.toUInt32.toUInt16.toUInt32.toInt32) - (48 : Int32))), .val (.int (0 : Int32)), .unset, .unset] [(.int ((p1.toUInt32.toUInt16.toUInt32.toInt32) ||| (32 : Int32)))])) _
            refine XS.bipush X0.here hx rfl (hb hby at_28) ?_
            show Steps p.tables e below (s₁.setTop (mkF m 30 #[.val (.int p1), .val (.int (p1.toUInt32.toUInt16.toUInt32.toInt32)), .val (.int ((p1.toUInt32.toUInt16.toUInt32.toInt32) - (48 : Int32))), .val (.int (0 : Int32)), .unset, .unset] [(.int (97 : Int32)), (.int ((p1.toUInt32.toUInt16.toUInt32.toInt32) ||| (32 : Int32)))])) _
            refine XS.isub X0.here hx rfl (hb hby at_30) rfl ?_
            show Steps p.tables e below (s₁.setTop (mkF m 31 #[.val (.int p1), .val (.int (p1.toUInt32.toUInt16.toUInt32.toInt32)), .val (.int ((p1.toUInt32.toUInt16.toUInt32.toInt32) - (48 : Int32))), .val (.int (0 : Int32)), .unset, .unset] [(.int (((p1.toUInt32.toUInt16.toUInt32.toInt32) ||| (32 : Int32)) - (97 : Int32)))])) _
            refine XS.istore X0.here hx rfl (hb hby at_31) rfl (l' := #[.val (.int p1), .val (.int (p1.toUInt32.toUInt16.toUInt32.toInt32)), .val (.int ((p1.toUInt32.toUInt16.toUInt32.toInt32) - (48 : Int32))), .val (.int (0 : Int32)), .val (.int (((p1.toUInt32.toUInt16.toUInt32.toInt32) ||| (32 : Int32)) - (97 : Int32))), .unset]) rfl ?_
            show Steps p.tables e below (s₁.setTop (mkF m 33 #[.val (.int p1), .val (.int (p1.toUInt32.toUInt16.toUInt32.toInt32)), .val (.int ((p1.toUInt32.toUInt16.toUInt32.toInt32) - (48 : Int32))), .val (.int (0 : Int32)), .val (.int (((p1.toUInt32.toUInt16.toUInt32.toInt32) ||| (32 : Int32)) - (97 : Int32))), .unset] [])) _
            refine XS.iload X0.here hx rfl (hb hby at_33) rfl ?_
            show Steps p.tables e below (s₁.setTop (mkF m 35 #[.val (.int p1), .val (.int (p1.toUInt32.toUInt16.toUInt32.toInt32)), .val (.int ((p1.toUInt32.toUInt16.toUInt32.toInt32) - (48 : Int32))), .val (.int (0 : Int32)), .val (.int (((p1.toUInt32.toUInt16.toUInt32.toInt32) ||| (32 : Int32)) - (97 : Int32))), .unset] [(.int (((p1.toUInt32.toUInt16.toUInt32.toInt32) ||| (32 : Int32)) - (97 : Int32)))])) _
            refine XS.ifNo X0.here hx rfl (hb hby at_35) rfl ((if0 _ _).trans (flt hc35).1) ?_
            show Steps p.tables e below (s₁.setTop (mkF m 38 #[.val (.int p1), .val (.int (p1.toUInt32.toUInt16.toUInt32.toInt32)), .val (.int ((p1.toUInt32.toUInt16.toUInt32.toInt32) - (48 : Int32))), .val (.int (0 : Int32)), .val (.int (((p1.toUInt32.toUInt16.toUInt32.toInt32) ||| (32 : Int32)) - (97 : Int32))), .unset] [])) _
            refine XS.iload X0.here hx rfl (hb hby at_38) rfl ?_
            show Steps p.tables e below (s₁.setTop (mkF m 40 #[.val (.int p1), .val (.int (p1.toUInt32.toUInt16.toUInt32.toInt32)), .val (.int ((p1.toUInt32.toUInt16.toUInt32.toInt32) - (48 : Int32))), .val (.int (0 : Int32)), .val (.int (((p1.toUInt32.toUInt16.toUInt32.toInt32) ||| (32 : Int32)) - (97 : Int32))), .unset] [(.int (((p1.toUInt32.toUInt16.toUInt32.toInt32) ||| (32 : Int32)) - (97 : Int32)))])) _
            refine XS.bipush X0.here hx rfl (hb hby at_40) ?_
            show Steps p.tables e below (s₁.setTop (mkF m 42 #[.val (.int p1), .val (.int (p1.toUInt32.toUInt16.toUInt32.toInt32)), .val (.int ((p1.toUInt32.toUInt16.toUInt32.toInt32) - (48 : Int32))), .val (.int (0 : Int32)), .val (.int (((p1.toUInt32.toUInt16.toUInt32.toInt32) ||| (32 : Int32)) - (97 : Int32))), .unset] [(.int (26 : Int32)), (.int (((p1.toUInt32.toUInt16.toUInt32.toInt32) ||| (32 : Int32)) - (97 : Int32)))])) _
            refine XS.icmpNo X0.here hx rfl (hb hby at_42) rfl (tlt hc42).2.1 ?_
            show Steps p.tables e below (s₁.setTop (mkF m 45 #[.val (.int p1), .val (.int (p1.toUInt32.toUInt16.toUInt32.toInt32)), .val (.int ((p1.toUInt32.toUInt16.toUInt32.toInt32) - (48 : Int32))), .val (.int (0 : Int32)), .val (.int (((p1.toUInt32.toUInt16.toUInt32.toInt32) ||| (32 : Int32)) - (97 : Int32))), .unset] [])) _
            refine XS.iconst X0.here hx rfl (hb hby at_45) ?_
            show Steps p.tables e below (s₁.setTop (mkF m 46 #[.val (.int p1), .val (.int (p1.toUInt32.toUInt16.toUInt32.toInt32)), .val (.int ((p1.toUInt32.toUInt16.toUInt32.toInt32) - (48 : Int32))), .val (.int (0 : Int32)), .val (.int (((p1.toUInt32.toUInt16.toUInt32.toInt32) ||| (32 : Int32)) - (97 : Int32))), .unset] [(.int (1 : Int32))])) _
            refine XS.goto X0.here hx rfl (pc0 := 46) (pc' := 50) rfl (hb hby at_46) (by decide) (by decide) ?_
            show Steps p.tables e below (s₁.setTop (mkF m 50 #[.val (.int p1), .val (.int (p1.toUInt32.toUInt16.toUInt32.toInt32)), .val (.int ((p1.toUInt32.toUInt16.toUInt32.toInt32) - (48 : Int32))), .val (.int (0 : Int32)), .val (.int (((p1.toUInt32.toUInt16.toUInt32.toInt32) ||| (32 : Int32)) - (97 : Int32))), .unset] [(.int (1 : Int32))])) _
            refine XS.istore X0.here hx rfl (hb hby at_50) rfl (l' := #[.val (.int p1), .val (.int (p1.toUInt32.toUInt16.toUInt32.toInt32)), .val (.int ((p1.toUInt32.toUInt16.toUInt32.toInt32) - (48 : Int32))), .val (.int (0 : Int32)), .val (.int (((p1.toUInt32.toUInt16.toUInt32.toInt32) ||| (32 : Int32)) - (97 : Int32))), .val (.int (1 : Int32))]) rfl ?_
            show Steps p.tables e below (s₁.setTop (mkF m 52 #[.val (.int p1), .val (.int (p1.toUInt32.toUInt16.toUInt32.toInt32)), .val (.int ((p1.toUInt32.toUInt16.toUInt32.toInt32) - (48 : Int32))), .val (.int (0 : Int32)), .val (.int (((p1.toUInt32.toUInt16.toUInt32.toInt32) ||| (32 : Int32)) - (97 : Int32))), .val (.int (1 : Int32))] [])) _
            refine XS.iloadN X0.here hx rfl (hb hby at_52) rfl ?_
            show Steps p.tables e below (s₁.setTop (mkF m 53 #[.val (.int p1), .val (.int (p1.toUInt32.toUInt16.toUInt32.toInt32)), .val (.int ((p1.toUInt32.toUInt16.toUInt32.toInt32) - (48 : Int32))), .val (.int (0 : Int32)), .val (.int (((p1.toUInt32.toUInt16.toUInt32.toInt32) ||| (32 : Int32)) - (97 : Int32))), .val (.int (1 : Int32))] [(.int (p1.toUInt32.toUInt16.toUInt32.toInt32))])) _
            refine st2 _ ?_
            show Steps p.tables e below (T2.setTop (mkF m 56 #[.val (.int p1), .val (.int (p1.toUInt32.toUInt16.toUInt32.toInt32)), .val (.int ((p1.toUInt32.toUInt16.toUInt32.toInt32) - (48 : Int32))), .val (.int (0 : Int32)), .val (.int (((p1.toUInt32.toUInt16.toUInt32.toInt32) ||| (32 : Int32)) - (97 : Int32))), .val (.int (1 : Int32))] [(.int (own_f1 (p1.toUInt32.toUInt16.toUInt32.toInt32)))])) _
            refine XS.iloadN X2.here hx rfl (hb hby at_56) rfl ?_
            show Steps p.tables e below (T2.setTop (mkF m 57 #[.val (.int p1), .val (.int (p1.toUInt32.toUInt16.toUInt32.toInt32)), .val (.int ((p1.toUInt32.toUInt16.toUInt32.toInt32) - (48 : Int32))), .val (.int (0 : Int32)), .val (.int (((p1.toUInt32.toUInt16.toUInt32.toInt32) ||| (32 : Int32)) - (97 : Int32))), .val (.int (1 : Int32))] [(.int (0 : Int32)), (.int (own_f1 (p1.toUInt32.toUInt16.toUInt32.toInt32)))])) _
            refine XS.ifNo X2.here hx rfl (hb hby at_57) rfl ((if0 _ _).trans (teq (rfl : (0 : Int32) = (0 : Int32))).2) ?_
            show Steps p.tables e below (T2.setTop (mkF m 60 #[.val (.int p1), .val (.int (p1.toUInt32.toUInt16.toUInt32.toInt32)), .val (.int ((p1.toUInt32.toUInt16.toUInt32.toInt32) - (48 : Int32))), .val (.int (0 : Int32)), .val (.int (((p1.toUInt32.toUInt16.toUInt32.toInt32) ||| (32 : Int32)) - (97 : Int32))), .val (.int (1 : Int32))] [(.int (own_f1 (p1.toUInt32.toUInt16.toUInt32.toInt32)))])) _
            refine XS.iload X2.here hx rfl (hb hby at_60) rfl ?_
            show Steps p.tables e below (T2.setTop (mkF m 62 #[.val (.int p1), .val (.int (p1.toUInt32.toUInt16.toUInt32.toInt32)), .val (.int ((p1.toUInt32.toUInt16.toUInt32.toInt32) - (48 : Int32))), .val (.int (0 : Int32)), .val (.int (((p1.toUInt32.toUInt16.toUInt32.toInt32) ||| (32 : Int32)) - (97 : Int32))), .val (.int (1 : Int32))] [(.int (1 : Int32)), (.int (own_f1 (p1.toUInt32.toUInt16.toUInt32.toInt32)))])) _
            refine XS.ifNo X2.here hx rfl (hb hby at_62) rfl ((if0 _ _).trans (feq hc62).1) ?_
            show Steps p.tables e below (T2.setTop (mkF m 65 #[.val (.int p1), .val (.int (p1.toUInt32.toUInt16.toUInt32.toInt32)), .val (.int ((p1.toUInt32.toUInt16.toUInt32.toInt32) - (48 : Int32))), .val (.int (0 : Int32)), .val (.int (((p1.toUInt32.toUInt16.toUInt32.toInt32) ||| (32 : Int32)) - (97 : Int32))), .val (.int (1 : Int32))] [(.int (own_f1 (p1.toUInt32.toUInt16.toUInt32.toInt32)))])) _
            refine XS.iconst X2.here hx rfl (hb hby at_65) ?_
            show Steps p.tables e below (T2.setTop (mkF m 66 #[.val (.int p1), .val (.int (p1.toUInt32.toUInt16.toUInt32.toInt32)), .val (.int ((p1.toUInt32.toUInt16.toUInt32.toInt32) - (48 : Int32))), .val (.int (0 : Int32)), .val (.int (((p1.toUInt32.toUInt16.toUInt32.toInt32) ||| (32 : Int32)) - (97 : Int32))), .val (.int (1 : Int32))] [(.int (1 : Int32)), (.int (own_f1 (p1.toUInt32.toUInt16.toUInt32.toInt32)))])) _
            refine XS.goto X2.here hx rfl (pc0 := 66) (pc' := 70) rfl (hb hby at_66) (by decide) (by decide) ?_
            show Steps p.tables e below (T2.setTop (mkF m 70 #[.val (.int p1), .val (.int (p1.toUInt32.toUInt16.toUInt32.toInt32)), .val (.int ((p1.toUInt32.toUInt16.toUInt32.toInt32) - (48 : Int32))), .val (.int (0 : Int32)), .val (.int (((p1.toUInt32.toUInt16.toUInt32.toInt32) ||| (32 : Int32)) - (97 : Int32))), .val (.int (1 : Int32))] [(.int (1 : Int32)), (.int (own_f1 (p1.toUInt32.toUInt16.toUInt32.toInt32)))])) _
            refine XS.icmpNo X2.here hx rfl (hb hby at_70) rfl (teq (show (own_f1 (p1.toUInt32.toUInt16.toUInt32.toInt32)) = (1 : Int32) by first | exact own_1a _ (c_i2c p1).2 hc9 hc15 | exact own_1b _ (c_i2c p1).2 hc35 hc42 | exact own_0 _ (c_i2c p1).2 (Or.inl hc9) (Or.inl hc35) | exact own_0 _ (c_i2c p1).2 (Or.inl hc9) (Or.inr hc42) | exact own_0 _ (c_i2c p1).2 (Or.inr hc15) (Or.inl hc35) | exact own_0 _ (c_i2c p1).2 (Or.inr hc15) (Or.inr hc42))).2 ?_
            show Steps p.tables e below (T2.setTop (mkF m 73 #[.val (.int p1), .val (.int (p1.toUInt32.toUInt16.toUInt32.toInt32)), .val (.int ((p1.toUInt32.toUInt16.toUInt32.toInt32) - (48 : Int32))), .val (.int (0 : Int32)), .val (.int (((p1.toUInt32.toUInt16.toUInt32.toInt32) ||| (32 : Int32)) - (97 : Int32))), .val (.int (1 : Int32))] [])) _
            refine XS.iconst X2.here hx rfl (hb hby at_73) ?_
            show Steps p.tables e below (T2.setTop (mkF m 74 #[.val (.int p1), .val (.int (p1.toUInt32.toUInt16.toUInt32.toInt32)), .val (.int ((p1.toUInt32.toUInt16.toUInt32.toInt32) - (48 : Int32))), .val (.int (0 : Int32)), .val (.int (((p1.toUInt32.toUInt16.toUInt32.toInt32) ||| (32 : Int32)) - (97 : Int32))), .val (.int (1 : Int32))] [(.int (1 : Int32))])) _
            refine XS.goto X2.here hx rfl (pc0 := 74) (pc' := 78) rfl (hb hby at_74) (by decide) (by decide) ?_
            show Steps p.tables e below (T2.setTop (mkF m 78 #[.val (.int p1), .val (.int (p1.toUInt32.toUInt16.toUInt32.toInt32)), .val (.int ((p1.toUInt32.toUInt16.toUInt32.toInt32) - (48 : Int32))), .val (.int (0 : Int32)), .val (.int (((p1.toUInt32.toUInt16.toUInt32.toInt32) ||| (32 : Int32)) - (97 : Int32))), .val (.int (1 : Int32))] [(.int (1 : Int32))])) _
            exact retN X2 hx (t := .boolean) Bd.returns (by simp) (hb hby at_78) hr
          · show Q0 Z p1 h0 n0 _ T2.heap _
            exact ⟨rfl, N2⟩
        · obtain ⟨_, _, ⟨T2, L2, k2, n2⟩, -, X2, ⟨Lc2, hQ2, l2, y2, z2⟩, st2⟩ := Jvm.LawKit.callS X0 hx (y := (⟨"com/example/usher/usher/Member", "isLetterOrDigit", "(C)Z"⟩ : MethodName)) hown (mvT hZ (hw _ (List.mem_of_getElem? (i := 0) rfl))) (mvT hZ (hw _ (List.mem_of_getElem? (i := 1) rfl))) (mvT hZ (hw _ (List.mem_of_getElem? (i := 2) rfl))) (mvT hZ (hw _ (List.mem_of_getElem? (i := 3) rfl))) (by decide) (backOf (W := 0) (rm1 l Z a0 hw [] (p1.toUInt32.toUInt16.toUInt32.toInt32) h0 n0 Z0) hZ (hw _ (List.mem_of_getElem? (i := 3) rfl)) (hw _ (List.mem_of_getElem? (i := 2) rfl)) (by decide) (by decide)) (g := (mkF m 53 #[.val (.int p1), .val (.int (p1.toUInt32.toUInt16.toUInt32.toInt32)), .val (.int ((p1.toUInt32.toUInt16.toUInt32.toInt32) - (48 : Int32))), .val (.int (0 : Int32)), .val (.int (((p1.toUInt32.toUInt16.toUInt32.toInt32) ||| (32 : Int32)) - (97 : Int32))), .val (.int (0 : Int32))] [(.int (p1.toUInt32.toUInt16.toUInt32.toInt32))])) rfl (by rw [hml]; rfl) (argsL := [(.int (p1.toUInt32.toUInt16.toUInt32.toInt32))]) (rest := []) (lenOf pd_0_0 rfl) rfl (by show 2 * 0 + _ ≤ _; exact Nat.le_of_eq rfl) (hb hby at_53) (fun _ _ => ⟨rfl, e0, (by decide : 0 + 0 ≤ _), (by decide : 0 + 0 ≤ _)⟩)
          dsimp only [Pt.U, Pt.locs, Pt.cells, Pt.slots] at X2 l2 y2 z2 st2 hQ2
          subst l2 y2 z2
          obtain ⟨rfl, N2q, q2'⟩ := hQ2
          have q2 : T2.heap = h0 := q2'
          have N2 := Fr.app N0 N2q
          obtain ⟨fs, hr, hrun, hended, hW, hsame⟩ := X2.leave (v := some (.int (1 : Int32))) (fun h => by rw [Bd.returns] at h; cases h)
          refine ⟨_, _, pre0 _ ?_, hrun, hended, _, _, rfl, ?_, ⟨_, rfl⟩, hW, hsame.mono (by decide) (by decide)⟩
          · show Steps p.tables e below (s₁.setTop (mkF m 0 #[.val (.int p1), .unset, .unset, .unset, .unset, .unset] [])) _
            refine XS.iloadN X0.here hx rfl (hb hby at_0) rfl ?_
            show Steps p.tables e below (s₁.setTop (mkF m 1 #[.val (.int p1), .unset, .unset, .unset, .unset, .unset] [(.int p1)])) _
            refine XS.i2c X0.here hx rfl (hb hby at_1) rfl ?_
            show Steps p.tables e below (s₁.setTop (mkF m 2 #[.val (.int p1), .unset, .unset, .unset, .unset, .unset] [(.int (p1.toUInt32.toUInt16.toUInt32.toInt32))])) _
            refine XS.istoreN X0.here hx rfl (hb hby at_2) rfl (l' := #[.val (.int p1), .val (.int (p1.toUInt32.toUInt16.toUInt32.toInt32)), .unset, .unset, .unset, .unset]) rfl ?_
            show Steps p.tables e below (s₁.setTop (mkF m 3 #[.val (.int p1), .val (.int (p1.toUInt32.toUInt16.toUInt32.toInt32)), .unset, .unset, .unset, .unset] [])) _
            refine XS.iloadN X0.here hx rfl (hb hby at_3) rfl ?_
            show Steps p.tables e below (s₁.setTop (mkF m 4 #[.val (.int p1), .val (.int (p1.toUInt32.toUInt16.toUInt32.toInt32)), .unset, .unset, .unset, .unset] [(.int (p1.toUInt32.toUInt16.toUInt32.toInt32))])) _
            refine XS.bipush X0.here hx rfl (hb hby at_4) ?_
            show Steps p.tables e below (s₁.setTop (mkF m 6 #[.val (.int p1), .val (.int (p1.toUInt32.toUInt16.toUInt32.toInt32)), .unset, .unset, .unset, .unset] [(.int (48 : Int32)), (.int (p1.toUInt32.toUInt16.toUInt32.toInt32))])) _
            refine XS.isub X0.here hx rfl (hb hby at_6) rfl ?_
            show Steps p.tables e below (s₁.setTop (mkF m 7 #[.val (.int p1), .val (.int (p1.toUInt32.toUInt16.toUInt32.toInt32)), .unset, .unset, .unset, .unset] [(.int ((p1.toUInt32.toUInt16.toUInt32.toInt32) - (48 : Int32)))])) _
            refine XS.istoreN X0.here hx rfl (hb hby at_7) rfl (l' := #[.val (.int p1), .val (.int (p1.toUInt32.toUInt16.toUInt32.toInt32)), .val (.int ((p1.toUInt32.toUInt16.toUInt32.toInt32) - (48 : Int32))), .unset, .unset, .unset]) rfl ?_
            show Steps p.tables e below (s₁.setTop (mkF m 8 #[.val (.int p1), .val (.int (p1.toUInt32.toUInt16.toUInt32.toInt32)), .val (.int ((p1.toUInt32.toUInt16.toUInt32.toInt32) - (48 : Int32))), .unset, .unset, .unset] [])) _
            refine XS.iloadN X0.here hx rfl (hb hby at_8) rfl ?_
            show Steps p.tables e below (s₁.setTop (mkF m 9 #[.val (.int p1), .val (.int (p1.toUInt32.toUInt16.toUInt32.toInt32)), .val (.int ((p1.toUInt32.toUInt16.toUInt32.toInt32) - (48 : Int32))), .unset, .unset, .unset] [(.int ((p1.toUInt32.toUInt16.toUInt32.toInt32) - (48 : Int32)))])) _
            refine XS.ifNo X0.here hx rfl (hb hby at_9) rfl ((if0 _ _).trans (flt hc9).1) ?_
            show Steps p.tables e below (s₁.setTop (mkF m 12 #[.val (.int p1), .val (.int (p1.toUInt32.toUInt16.toUInt32.toInt32)), .val (.int ((p1.toUInt32.toUInt16.toUInt32.toInt32) - (48 : Int32))), .unset, .unset, .unset] [])) _
            refine XS.iloadN X0.here hx rfl (hb hby at_12) rfl ?_
            show Steps p.tables e below (s₁.setTop (mkF m 13 #[.val (.int p1), .val (.int (p1.toUInt32.toUInt16.toUInt32.toInt32)), .val (.int ((p1.toUInt32.toUInt16.toUInt32.toInt32) - (48 : Int32))), .unset, .unset, .unset] [(.int ((p1.toUInt32.toUInt16.toUInt32.toInt32) - (48 : Int32)))])) _
            refine XS.bipush X0.here hx rfl (hb hby at_13) ?_
            show Steps p.tables e below (s₁.setTop (mkF m 15 #[.val (.int p1), .val (.int (p1.toUInt32.toUInt16.toUInt32.toInt32)), .val (.int ((p1.toUInt32.toUInt16.toUInt32.toInt32) - (48 : Int32))), .unset, .unset, .unset] [(.int (10 : Int32)), (.int ((p1.toUInt32.toUInt16.toUInt32.toInt32) - (48 : Int32)))])) _
            refine XS.icmpYes X0.here hx rfl (pc0 := 15) (pc' := 22) rfl (hb hby at_15) rfl (flt hc15).2.1 (by decide) (by decide) ?_
            show Steps p.tables e below (s₁.setTop (mkF m 22 #[.val (.int p1), .val (.int (p1.toUInt32.toUInt16.toUInt32.toInt32)), .val (.int ((p1.toUInt32.toUInt16.toUInt32.toInt32) - (48 : Int32))), .unset, .unset, .unset] [])) _
            refine XS.iconst X0.here hx rfl (hb hby at_22) ?_
            show Steps p.tables e below (s₁.setTop (mkF m 23 #[.val (.int p1), .val (.int (p1.toUInt32.toUInt16.toUInt32.toInt32)), .val (.int ((p1.toUInt32.toUInt16.toUInt32.toInt32) - (48 : Int32))), .unset, .unset, .unset] [(.int (0 : Int32))])) _
            refine XS.istoreN X0.here hx rfl (hb hby at_23) rfl (l' := #[.val (.int p1), .val (.int (p1.toUInt32.toUInt16.toUInt32.toInt32)), .val (.int ((p1.toUInt32.toUInt16.toUInt32.toInt32) - (48 : Int32))), .val (.int (0 : Int32)), .unset, .unset]) rfl ?_
            show Steps p.tables e below (s₁.setTop (mkF m 24 #[.val (.int p1), .val (.int (p1.toUInt32.toUInt16.toUInt32.toInt32)), .val (.int ((p1.toUInt32.toUInt16.toUInt32.toInt32) - (48 : Int32))), .val (.int (0 : Int32)), .unset, .unset] [])) _
            refine XS.iloadN X0.here hx rfl (hb hby at_24) rfl ?_
            show Steps p.tables e below (s₁.setTop (mkF m 25 #[.val (.int p1), .val (.int (p1.toUInt32.toUInt16.toUInt32.toInt32)), .val (.int ((p1.toUInt32.toUInt16.toUInt32.toInt32) - (48 : Int32))), .val (.int (0 : Int32)), .unset, .unset] [(.int (p1.toUInt32.toUInt16.toUInt32.toInt32))])) _
            refine XS.bipush X0.here hx rfl (hb hby at_25) ?_
            show Steps p.tables e below (s₁.setTop (mkF m 27 #[.val (.int p1), .val (.int (p1.toUInt32.toUInt16.toUInt32.toInt32)), .val (.int ((p1.toUInt32.toUInt16.toUInt32.toInt32) - (48 : Int32))), .val (.int (0 : Int32)), .unset, .unset] [(.int (32 : Int32)), (.int (p1.toUInt32.toUInt16.toUInt32.toInt32))])) _
            refine XS.ior X0.here hx rfl (hb hby at_27) rfl ?_
            show Steps p.tables e below (s₁.setTop (mkF m 28 #[.val (.int p1), .val (.int (p1.toUInt32.toUInt16.toUInt32.toInt32)), .val (.int ((p1.toUInt32.toUInt16.toUInt32.toInt32) - (48 : Int32))), .val (.int (0 : Int32)), .unset, .unset] [(.int ((p1.toUInt32.toUInt16.toUInt32.toInt32) ||| (32 : Int32)))])) _
            refine XS.bipush X0.here hx rfl (hb hby at_28) ?_
            show Steps p.tables e below (s₁.setTop (mkF m 30 #[.val (.int p1), .val (.int (p1.toUInt32.toUInt16.toUInt32.toInt32)), .val (.int ((p1.toUInt32.toUInt16.toUInt32.toInt32) - (48 : Int32))), .val (.int (0 : Int32)), .unset, .unset] [(.int (97 : Int32)), (.int ((p1.toUInt32.toUInt16.toUInt32.toInt32) ||| (32 : Int32)))])) _
            refine XS.isub X0.here hx rfl (hb hby at_30) rfl ?_
            show Steps p.tables e below (s₁.setTop (mkF m 31 #[.val (.int p1), .val (.int (p1.toUInt32.toUInt16.toUInt32.toInt32)), .val (.int ((p1.toUInt32.toUInt16.toUInt32.toInt32) - (48 : Int32))), .val (.int (0 : Int32)), .unset, .unset] [(.int (((p1.toUInt32.toUInt16.toUInt32.toInt32) ||| (32 : Int32)) - (97 : Int32)))])) _
            refine XS.istore X0.here hx rfl (hb hby at_31) rfl (l' := #[.val (.int p1), .val (.int (p1.toUInt32.toUInt16.toUInt32.toInt32)), .val (.int ((p1.toUInt32.toUInt16.toUInt32.toInt32) - (48 : Int32))), .val (.int (0 : Int32)), .val (.int (((p1.toUInt32.toUInt16.toUInt32.toInt32) ||| (32 : Int32)) - (97 : Int32))), .unset]) rfl ?_
            show Steps p.tables e below (s₁.setTop (mkF m 33 #[.val (.int p1), .val (.int (p1.toUInt32.toUInt16.toUInt32.toInt32)), .val (.int ((p1.toUInt32.toUInt16.toUInt32.toInt32) - (48 : Int32))), .val (.int (0 : Int32)), .val (.int (((p1.toUInt32.toUInt16.toUInt32.toInt32) ||| (32 : Int32)) - (97 : Int32))), .unset] [])) _
            refine XS.iload X0.here hx rfl (hb hby at_33) rfl ?_
            show Steps p.tables e below (s₁.setTop (mkF m 35 #[.val (.int p1), .val (.int (p1.toUInt32.toUInt16.toUInt32.toInt32)), .val (.int ((p1.toUInt32.toUInt16.toUInt32.toInt32) - (48 : Int32))), .val (.int (0 : Int32)), .val (.int (((p1.toUInt32.toUInt16.toUInt32.toInt32) ||| (32 : Int32)) - (97 : Int32))), .unset] [(.int (((p1.toUInt32.toUInt16.toUInt32.toInt32) ||| (32 : Int32)) - (97 : Int32)))])) _
            refine XS.ifNo X0.here hx rfl (hb hby at_35) rfl ((if0 _ _).trans (flt hc35).1) ?_
            show Steps p.tables e below (s₁.setTop (mkF m 38 #[.val (.int p1), .val (.int (p1.toUInt32.toUInt16.toUInt32.toInt32)), .val (.int ((p1.toUInt32.toUInt16.toUInt32.toInt32) - (48 : Int32))), .val (.int (0 : Int32)), .val (.int (((p1.toUInt32.toUInt16.toUInt32.toInt32) ||| (32 : Int32)) - (97 : Int32))), .unset] [])) _
            refine XS.iload X0.here hx rfl (hb hby at_38) rfl ?_
            show Steps p.tables e below (s₁.setTop (mkF m 40 #[.val (.int p1), .val (.int (p1.toUInt32.toUInt16.toUInt32.toInt32)), .val (.int ((p1.toUInt32.toUInt16.toUInt32.toInt32) - (48 : Int32))), .val (.int (0 : Int32)), .val (.int (((p1.toUInt32.toUInt16.toUInt32.toInt32) ||| (32 : Int32)) - (97 : Int32))), .unset] [(.int (((p1.toUInt32.toUInt16.toUInt32.toInt32) ||| (32 : Int32)) - (97 : Int32)))])) _
            refine XS.bipush X0.here hx rfl (hb hby at_40) ?_
            show Steps p.tables e below (s₁.setTop (mkF m 42 #[.val (.int p1), .val (.int (p1.toUInt32.toUInt16.toUInt32.toInt32)), .val (.int ((p1.toUInt32.toUInt16.toUInt32.toInt32) - (48 : Int32))), .val (.int (0 : Int32)), .val (.int (((p1.toUInt32.toUInt16.toUInt32.toInt32) ||| (32 : Int32)) - (97 : Int32))), .unset] [(.int (26 : Int32)), (.int (((p1.toUInt32.toUInt16.toUInt32.toInt32) ||| (32 : Int32)) - (97 : Int32)))])) _
            refine XS.icmpYes X0.here hx rfl (pc0 := 42) (pc' := 49) rfl (hb hby at_42) rfl (flt hc42).2.1 (by decide) (by decide) ?_
            show Steps p.tables e below (s₁.setTop (mkF m 49 #[.val (.int p1), .val (.int (p1.toUInt32.toUInt16.toUInt32.toInt32)), .val (.int ((p1.toUInt32.toUInt16.toUInt32.toInt32) - (48 : Int32))), .val (.int (0 : Int32)), .val (.int (((p1.toUInt32.toUInt16.toUInt32.toInt32) ||| (32 : Int32)) - (97 : Int32))), .unset] [])) _
            refine XS.iconst X0.here hx rfl (hb hby at_49) ?_
            show Steps p.tables e below (s₁.setTop (mkF m 50 #[.val (.int p1), .val (.int (p1.toUInt32.toUInt16.toUInt32.toInt32)), .val (.int ((p1.toUInt32.toUInt16.toUInt32.toInt32) - (48 : Int32))), .val (.int (0 : Int32)), .val (.int (((p1.toUInt32.toUInt16.toUInt32.toInt32) ||| (32 : Int32)) - (97 : Int32))), .unset] [(.int (0 : Int32))])) _
            refine XS.istore X0.here hx rfl (hb hby at_50) rfl (l' := #[.val (.int p1), .val (.int (p1.toUInt32.toUInt16.toUInt32.toInt32)), .val (.int ((p1.toUInt32.toUInt16.toUInt32.toInt32) - (48 : Int32))), .val (.int (0 : Int32)), .val (.int (((p1.toUInt32.toUInt16.toUInt32.toInt32) ||| (32 : Int32)) - (97 : Int32))), .val (.int (0 : Int32))]) rfl ?_
            show Steps p.tables e below (s₁.setTop (mkF m 52 #[.val (.int p1), .val (.int (p1.toUInt32.toUInt16.toUInt32.toInt32)), .val (.int ((p1.toUInt32.toUInt16.toUInt32.toInt32) - (48 : Int32))), .val (.int (0 : Int32)), .val (.int (((p1.toUInt32.toUInt16.toUInt32.toInt32) ||| (32 : Int32)) - (97 : Int32))), .val (.int (0 : Int32))] [])) _
            refine XS.iloadN X0.here hx rfl (hb hby at_52) rfl ?_
            show Steps p.tables e below (s₁.setTop (mkF m 53 #[.val (.int p1), .val (.int (p1.toUInt32.toUInt16.toUInt32.toInt32)), .val (.int ((p1.toUInt32.toUInt16.toUInt32.toInt32) - (48 : Int32))), .val (.int (0 : Int32)), .val (.int (((p1.toUInt32.toUInt16.toUInt32.toInt32) ||| (32 : Int32)) - (97 : Int32))), .val (.int (0 : Int32))] [(.int (p1.toUInt32.toUInt16.toUInt32.toInt32))])) _
            refine st2 _ ?_
            show Steps p.tables e below (T2.setTop (mkF m 56 #[.val (.int p1), .val (.int (p1.toUInt32.toUInt16.toUInt32.toInt32)), .val (.int ((p1.toUInt32.toUInt16.toUInt32.toInt32) - (48 : Int32))), .val (.int (0 : Int32)), .val (.int (((p1.toUInt32.toUInt16.toUInt32.toInt32) ||| (32 : Int32)) - (97 : Int32))), .val (.int (0 : Int32))] [(.int (own_f1 (p1.toUInt32.toUInt16.toUInt32.toInt32)))])) _
            refine XS.iloadN X2.here hx rfl (hb hby at_56) rfl ?_
            show Steps p.tables e below (T2.setTop (mkF m 57 #[.val (.int p1), .val (.int (p1.toUInt32.toUInt16.toUInt32.toInt32)), .val (.int ((p1.toUInt32.toUInt16.toUInt32.toInt32) - (48 : Int32))), .val (.int (0 : Int32)), .val (.int (((p1.toUInt32.toUInt16.toUInt32.toInt32) ||| (32 : Int32)) - (97 : Int32))), .val (.int (0 : Int32))] [(.int (0 : Int32)), (.int (own_f1 (p1.toUInt32.toUInt16.toUInt32.toInt32)))])) _
            refine XS.ifNo X2.here hx rfl (hb hby at_57) rfl ((if0 _ _).trans (teq (rfl : (0 : Int32) = (0 : Int32))).2) ?_
            show Steps p.tables e below (T2.setTop (mkF m 60 #[.val (.int p1), .val (.int (p1.toUInt32.toUInt16.toUInt32.toInt32)), .val (.int ((p1.toUInt32.toUInt16.toUInt32.toInt32) - (48 : Int32))), .val (.int (0 : Int32)), .val (.int (((p1.toUInt32.toUInt16.toUInt32.toInt32) ||| (32 : Int32)) - (97 : Int32))), .val (.int (0 : Int32))] [(.int (own_f1 (p1.toUInt32.toUInt16.toUInt32.toInt32)))])) _
            refine XS.iload X2.here hx rfl (hb hby at_60) rfl ?_
            show Steps p.tables e below (T2.setTop (mkF m 62 #[.val (.int p1), .val (.int (p1.toUInt32.toUInt16.toUInt32.toInt32)), .val (.int ((p1.toUInt32.toUInt16.toUInt32.toInt32) - (48 : Int32))), .val (.int (0 : Int32)), .val (.int (((p1.toUInt32.toUInt16.toUInt32.toInt32) ||| (32 : Int32)) - (97 : Int32))), .val (.int (0 : Int32))] [(.int (0 : Int32)), (.int (own_f1 (p1.toUInt32.toUInt16.toUInt32.toInt32)))])) _
            refine XS.ifYes X2.here hx rfl (pc0 := 62) (pc' := 69) rfl (hb hby at_62) rfl ((if0 _ _).trans (teq (rfl : (0 : Int32) = (0 : Int32))).1) (by decide) (by decide) ?_
            show Steps p.tables e below (T2.setTop (mkF m 69 #[.val (.int p1), .val (.int (p1.toUInt32.toUInt16.toUInt32.toInt32)), .val (.int ((p1.toUInt32.toUInt16.toUInt32.toInt32) - (48 : Int32))), .val (.int (0 : Int32)), .val (.int (((p1.toUInt32.toUInt16.toUInt32.toInt32) ||| (32 : Int32)) - (97 : Int32))), .val (.int (0 : Int32))] [(.int (own_f1 (p1.toUInt32.toUInt16.toUInt32.toInt32)))])) _
            refine XS.iconst X2.here hx rfl (hb hby at_69) ?_
            show Steps p.tables e below (T2.setTop (mkF m 70 #[.val (.int p1), .val (.int (p1.toUInt32.toUInt16.toUInt32.toInt32)), .val (.int ((p1.toUInt32.toUInt16.toUInt32.toInt32) - (48 : Int32))), .val (.int (0 : Int32)), .val (.int (((p1.toUInt32.toUInt16.toUInt32.toInt32) ||| (32 : Int32)) - (97 : Int32))), .val (.int (0 : Int32))] [(.int (0 : Int32)), (.int (own_f1 (p1.toUInt32.toUInt16.toUInt32.toInt32)))])) _
            refine XS.icmpNo X2.here hx rfl (hb hby at_70) rfl (teq (show (own_f1 (p1.toUInt32.toUInt16.toUInt32.toInt32)) = (0 : Int32) by first | exact own_1a _ (c_i2c p1).2 hc9 hc15 | exact own_1b _ (c_i2c p1).2 hc35 hc42 | exact own_0 _ (c_i2c p1).2 (Or.inl hc9) (Or.inl hc35) | exact own_0 _ (c_i2c p1).2 (Or.inl hc9) (Or.inr hc42) | exact own_0 _ (c_i2c p1).2 (Or.inr hc15) (Or.inl hc35) | exact own_0 _ (c_i2c p1).2 (Or.inr hc15) (Or.inr hc42))).2 ?_
            show Steps p.tables e below (T2.setTop (mkF m 73 #[.val (.int p1), .val (.int (p1.toUInt32.toUInt16.toUInt32.toInt32)), .val (.int ((p1.toUInt32.toUInt16.toUInt32.toInt32) - (48 : Int32))), .val (.int (0 : Int32)), .val (.int (((p1.toUInt32.toUInt16.toUInt32.toInt32) ||| (32 : Int32)) - (97 : Int32))), .val (.int (0 : Int32))] [])) _
            refine XS.iconst X2.here hx rfl (hb hby at_73) ?_
            show Steps p.tables e below (T2.setTop (mkF m 74 #[.val (.int p1), .val (.int (p1.toUInt32.toUInt16.toUInt32.toInt32)), .val (.int ((p1.toUInt32.toUInt16.toUInt32.toInt32) - (48 : Int32))), .val (.int (0 : Int32)), .val (.int (((p1.toUInt32.toUInt16.toUInt32.toInt32) ||| (32 : Int32)) - (97 : Int32))), .val (.int (0 : Int32))] [(.int (1 : Int32))])) _
            refine XS.goto X2.here hx rfl (pc0 := 74) (pc' := 78) rfl (hb hby at_74) (by decide) (by decide) ?_
            show Steps p.tables e below (T2.setTop (mkF m 78 #[.val (.int p1), .val (.int (p1.toUInt32.toUInt16.toUInt32.toInt32)), .val (.int ((p1.toUInt32.toUInt16.toUInt32.toInt32) - (48 : Int32))), .val (.int (0 : Int32)), .val (.int (((p1.toUInt32.toUInt16.toUInt32.toInt32) ||| (32 : Int32)) - (97 : Int32))), .val (.int (0 : Int32))] [(.int (1 : Int32))])) _
            exact retN X2 hx (t := .boolean) Bd.returns (by simp) (hb hby at_78) hr
          · show Q0 Z p1 h0 n0 _ T2.heap _
            exact ⟨rfl, N2⟩
set_option maxRecDepth 65536 in
set_option maxHeartbeats 40000000 in
theorem comes_1 {Post : Tables → Env → Array Value → State → Outcome → State → Prop} (hpost : ∀ tb e args s v u, (limb_1_1.after args s (.returned v) u = true ∧ limb_1_2.after args s (.returned v) u = true ∧ True) → FrameEnd s (.returned v) u (Jvm.fieldLocs frame_1_writes args s ++ Jvm.arrayLocs frame_1_arrays args s ++ Jvm.staticLocs frame_1_statics s) 0 0 → Post tb e args s (.returned v) u) :
    ArmFor flags0 classFile x code maxLocals ret World_1 tables_1 room_1 Calls_1 rest_1 Pre_1 Post := by
  intro l hfl _ _ p e ha hc hk s m args below hf hA hF happ hP
  obtain ⟨hcalls, hrest, hpre⟩ := hP
  obtain ⟨-, -, -, hnamed, -, -, -, hat⟩ := (Spec.applies_iff hf).mp happ
  obtain ⟨hg, hn⟩ := and_e (Cond.before_iff.mp (show (Jvm.Cond.and given_1 narrow_1).before args s = true from hpre))
  obtain ⟨g3, g4⟩ := and_e hg
  obtain ⟨w0, rfl⟩ : ∃ w0 : Value, args = #[w0] := by
    have hs : args.size = 1 := by simpa [Cond.value, given_1] using g3
    obtain ⟨L⟩ := args
    match L, hs with
    | [w0], _ => exact ⟨w0, rfl⟩
  have hw := fun d (hd : d ∈ tables_1) => atoms_spec (ws := Jvm.Cond.code x code maxLocals ret :: tables_1) hat d (List.mem_cons_of_mem _ hd)
  have hfit : Fit s := fun {y c} hc i hi => by
    obtain ⟨ha, rfl⟩ := Array.getElem?_eq_some_iff.mp hc
    have q := List.all_eq_true.mp ((Array.all_eq_true_iff_forall_mem.mp hF) _ (Array.getElem_mem ha)) i (List.mem_range.mpr hi)
    simpa [Array.getElem?_eq_getElem hi] using q
  obtain ⟨i0, ei0⟩ := is_v g4
  obtain rfl : w0 = (.int i0) := Option.some.inj ei0
  obtain ⟨n, o, h1, h2, h3, _, L, rfl, ⟨rfl, N⟩, hq⟩ := rm0 l s _ hw tables_1 i0 s.heap s.heap.size (Nat.le_refl _) p e ha hc hk s m _ below hf ((Spec.applies_iff_loose hf).mp happ).1 ⟨rfl, State.Warmed39.refl s, rfl⟩ trivial
  refine ⟨n, _, h1, h2, h3, hpost _ _ _ _ _ _ ⟨Cond.after_iff.mpr rfl, Cond.after_iff.mpr (eq_i res_at (Term.int_eval (1)) rfl), trivial⟩ ⟨hq.1, hq.2.1, (hq.2.2.sift fun y hy => Or.inr (N y hy)).mono (by decide) (by decide)⟩⟩
theorem main_1_1 : Claimed_1_1 := comes_1 fun _ _ _ _ _ _ h hF => ⟨h.1, hF⟩
theorem main_1_2 : Claimed_1_2 := comes_1 fun _ _ _ _ _ _ h hF => ⟨h.2.1, hF⟩
end Jvm.Pilot.@@N@@
namespace Jvm.Pilot.@@N@@
open Jvm Jvm.ClassFile Sem Op Lib Jvm.Free Jvm.Stand Jvm.Pilot.@@N@@.Jvm.D
/-! MADE BY PROGRAM (witnessworld.py) out of the Statement's table words and the real class files: 9 classes; the members and pool entries that the words name. The judged class is class 1, her method 1. -/
namespace start1
open Jvm.ClassFile
def u (s : String) : CpInfo := .utf8 (stringToUtf16 s)
/-- a pool by its gaps: so many unusable entries, then the entry; so many at the end -/
def gap : Nat → List CpInfo → List CpInfo
  | 0, r => r
  | n + 1, r => .unusable :: gap n r
def poolList (es : List (Nat × CpInfo)) (last : Nat) : List CpInfo := es.foldr (fun e r => gap e.1 (e.2 :: r)) (gap last [])
def pool (es : List (Nat × CpInfo)) (last : Nat) : Array CpInfo := ⟨poolList es last⟩
def fileOf (pool : Array CpInfo) (this : Nat) (attrs : Array Attribute := #[]) (ms : Array MethodInfo := #[]) (fl : Nat := 33) (sup : Nat := 0) (ifs : Array Nat := #[]) (fds : Array FieldInfo := #[]) : ClassFile where
  minorVersion := 0
  majorVersion := 65
  constantPool := pool
  accessFlags := fl
  thisClass := this
  superClass := sup
  interfaces := ifs
  fields := fds
  methods := ms
  attributes := attrs
def plain (name : String) (sup : Option ClassId) : Class where
  name := name
  kind := .ordinary
  loader := none
  accessFlags := 33
  super := sup
  interfaces := #[]
  cf := none
  fields := #[]
  methods := #[]
  instanceTypes := #[]
  staticTypes := #[]
  resolved := #[]
  callSites := []
  init := .initialized
  statics := none
  mirror := none

def pool0 : Array CpInfo := pool [(5, u "<init>"), (0, u "()V"), (1, .class_ 10), (1, u "java/lang/Object")] 113

def k0m0 : Method := { name := "<init>", desc := "()V", sig := { parameters := [], returnType := none }, accessFlags := 1, code := none }
/-- java/lang/Object -/
def k0 : Class := { plain "java/lang/Object" none with
  accessFlags := 33
  interfaces := #[]
  cf := some (fileOf pool0 8 #[] #[{ accessFlags := 1, nameIndex := 5, descriptorIndex := 6, attributes := #[] }] 33 0 #[] #[])
  fields := #[]
  methods := #[k0m0]
  instanceTypes := #[]
  staticTypes := #[]
  resolved := Array.replicate 124 none
  statics := none }

def pool1 : Array CpInfo := pool [(2, .class_ 4), (1, u "java/lang/Object"), (0, u "<init>"), (0, u "()V"), (0, .methodref 8 9), (0, .class_ 10), (0, .nameAndType 11 12), (0, u "com/example/usher/usher/Member"), (0, u "isLetterOrDigit"), (0, u "(C)Z"), (0, .class_ 14), (0, u "com/example/usher/usher/MemberIsLetterOrDigitPinLaw"), (2, u "law"), (0, u "(I)Z")] 3

def k1m0 : Method := { name := "<init>", desc := "()V", sig := { parameters := [], returnType := none }, accessFlags := 2, code := none }
def k1c1 : Code := { maxStack := 2, maxLocals := 6, code := code, exceptionTable := #[], attributes := #[] }
def k1m1 : Method := { name := "law", desc := "(I)Z", sig := { parameters := [.int], returnType := some .boolean }, accessFlags := 9, code := some k1c1 }
/-- com/example/usher/usher/MemberIsLetterOrDigitPinLaw -/
def k1 : Class := { plain "com/example/usher/usher/MemberIsLetterOrDigitPinLaw" (some 0) with
  accessFlags := 49
  interfaces := #[]
  cf := some (fileOf pool1 13 #[] #[{ accessFlags := 2, nameIndex := 5, descriptorIndex := 6, attributes := #[] }, { accessFlags := 9, nameIndex := 17, descriptorIndex := 18, attributes := #[] }] 49 2 #[] #[])
  fields := #[]
  methods := #[k1m0, k1m1]
  instanceTypes := #[]
  staticTypes := #[]
  resolved := Array.replicate 22 none
  statics := none }

def pool2 : Array CpInfo := pool [(4, .class_ 6), (1, u "java/lang/Object"), (3, .class_ 12), (1, u "com/example/usher/usher/Member"), (0, u "id"), (0, u "I"), (2, u "host"), (0, u "Ljava/lang/String;"), (2, u "port"), (134, u "(C)Z"), (2, u "isLetterOrDigit"), (1, u "MAX_ID"), (1, u "MAX_PORT"), (0, u "MAX_WHOLE_NUMBER"), (0, u "J")] 48

def k2c0 : Code := { maxStack := 2, maxLocals := 1, code := prog_24_method_16_code, exceptionTable := #[], attributes := #[] }
def k2m0 : Method := { name := "isLetterOrDigit", desc := "(C)Z", sig := { parameters := [.char], returnType := some .boolean }, accessFlags := 8, code := some k2c0 }
/-- com/example/usher/usher/Member -/
def k2 : Class := { plain "com/example/usher/usher/Member" (some 0) with
  accessFlags := 32
  interfaces := #[]
  cf := some (fileOf pool2 10 #[] #[{ accessFlags := 8, nameIndex := 159, descriptorIndex := 156, attributes := #[] }] 32 4 #[] #[{ accessFlags := 24, nameIndex := 161, descriptorIndex := 14, attributes := #[] }, { accessFlags := 24, nameIndex := 163, descriptorIndex := 14, attributes := #[] }, { accessFlags := 24, nameIndex := 164, descriptorIndex := 165, attributes := #[] }, { accessFlags := 18, nameIndex := 13, descriptorIndex := 14, attributes := #[] }, { accessFlags := 18, nameIndex := 17, descriptorIndex := 18, attributes := #[] }, { accessFlags := 18, nameIndex := 21, descriptorIndex := 14, attributes := #[] }])
  fields := #[{ name := "MAX_ID", type := .int, accessFlags := 24, slot := 0, constantValue := 0 }, { name := "MAX_PORT", type := .int, accessFlags := 24, slot := 1, constantValue := 0 }, { name := "MAX_WHOLE_NUMBER", type := .long, accessFlags := 24, slot := 2, constantValue := 0 }, { name := "id", type := .int, accessFlags := 18, slot := 0, constantValue := 0 }, { name := "host", type := (.object "java/lang/String"), accessFlags := 18, slot := 1, constantValue := 0 }, { name := "port", type := .int, accessFlags := 18, slot := 2, constantValue := 0 }]
  methods := #[k2m0]
  instanceTypes := #[.int, (.object "java/lang/String"), .int]
  staticTypes := #[.int, .int, .long]
  resolved := Array.replicate 214 none
  statics := none }

def pool3 : Array CpInfo := pool [(1, u "java/lang/Cloneable"), (0, .class_ 1), (0, u "java/lang/Object"), (0, .class_ 3)] 3

/-- java/lang/Cloneable -/
def k3 : Class := { plain "java/lang/Cloneable" (some 0) with
  accessFlags := 1537
  interfaces := #[]
  cf := some (fileOf pool3 2 #[] #[] 1537 4 #[] #[])
  fields := #[]
  methods := #[]
  instanceTypes := #[]
  staticTypes := #[]
  resolved := Array.replicate 8 none
  statics := none }

def pool4 : Array CpInfo := pool [(1, u "java/io/Serializable"), (0, .class_ 1), (0, u "java/lang/Object"), (0, .class_ 3)] 3

/-- java/io/Serializable -/
def k4 : Class := { plain "java/io/Serializable" (some 0) with
  accessFlags := 1537
  interfaces := #[]
  cf := some (fileOf pool4 2 #[] #[] 1537 4 #[] #[])
  fields := #[]
  methods := #[]
  instanceTypes := #[]
  staticTypes := #[]
  resolved := Array.replicate 8 none
  statics := none }

/-- the primitive byte -/
def k5 : Class := { plain "byte" none with kind := .primitive 'B', accessFlags := 0x411 }
/-- [B -/
def k6 : Class := { plain "[B" (some 0) with kind := .array 5 .byte, interfaces := #[3, 4], accessFlags := 1041 }

/-- the primitive int -/
def k7 : Class := { plain "int" none with kind := .primitive 'I', accessFlags := 0x411 }
/-- [I -/
def k8 : Class := { plain "[I" (some 0) with kind := .array 7 .int, interfaces := #[3, 4], accessFlags := 1041 }

def heap : Heap := #[]
def classes : Array Class := #[k0, k1, k2, k3, k4, k5, k6, k7, k8]
def interned : List (Array UInt16 × Addr) := []
def slotsUsed : Nat := 0
def theMethod : MethodId := ⟨1, 1⟩
def args0 : Array Value := #[.int 65]
def aboutOver (below : List Frame) : State where
  vm := { classes := classes, interned := interned.toArray }
  heap := heap
  slotsUsed := slotsUsed
  threads := #[{ frames := .invoking theMethod args0 :: below }]
def below0 : List Frame := [.native { method := ⟨0, 0⟩, args := #[] }]
def about1 : State := aboutOver below0
def p0 : Program := .bare "" "" ""
def e0 : Env := launch0.env 0 0 0
theorem w_frames : about1.frames = Frame.invoking theMethod args0 :: below0 := rfl
set_option maxRecDepth 65536 in
theorem w_args : argsFit about1.vm theMethod args0 = true := by decide +kernel
set_option maxRecDepth 65536 in
theorem w_heap : heapFits about1 = true := by decide +kernel
set_option maxRecDepth 65536 in
theorem w_runnable : about1.curStatus? = some .runnable := by decide +kernel
set_option maxRecDepth 65536 in
theorem w_alone : about1.alone = true := by decide +kernel
set_option maxRecDepth 65536 in
theorem w_named : about1.methodNamed? x = some theMethod := by decide +kernel
set_option maxRecDepth 65536 in
theorem w_hears : about1.hears theMethod below0 = true := by decide +kernel
set_option maxRecDepth 65536 in
theorem w_ripe : about1.ripe theMethod args0 below0 = true := by decide +kernel
theorem w_running : about1.status = .running := rfl
set_option maxRecDepth 65536 in
theorem w_room : about1.hasRoom e0.platform room_1 = true :=
  launch0.hasRoom_least _ room_1 (by decide +kernel) (by decide +kernel) (by decide +kernel) (by decide +kernel) (by decide +kernel) (by decide +kernel)
theorem allAtoms_all (ts : List Jvm.Cond) (a : Array Jvm.Value) (st : Jvm.State) : (allAtoms ts).before a st = ts.all (fun c => c.before a st) := by
  induction ts with
  | nil => rfl
  | cons c t ih =>
    show (Jvm.Cond.and c (allAtoms t)).before a st = _
    rw [Jvm.Cond.before_and, ih, List.all_cons]
def words1 : List Jvm.Cond := Jvm.Cond.code x code maxLocals ret :: tables_1
/-- a 'code' word, met by the world's own term for the bytes: nothing is compared byte by byte -/
theorem code_word {y : MethodName} {bytes : ByteArray} {mx : Nat} {rt : Option FieldType} {a : Array Value} {s : State} {m : MethodId} {meth : Method} {c : Code} (h1 : s.methodNamed? y = some m) (h2 : s.vm.method? m = some meth) (h3 : meth.code = some c) (h4 : c.code = bytes)
    (h5 : (c.maxLocals == mx && c.exceptionTable.isEmpty && decide (c.maxStack ≤ mostOperands) && decide (meth.sig.returnType = rt) && !meth.locks && decide (parseMethodDescriptor y.desc = some meth.sig)) = true) : (Jvm.Cond.code y bytes mx rt).before a s = true := by
  simp only [Bool.and_eq_true, beq_iff_eq, Bool.not_eq_true', decide_eq_true_eq] at h5
  obtain ⟨⟨⟨⟨⟨g1, g2⟩, g3⟩, g4⟩, g5⟩, g6⟩ := h5
  simp [Cond.before, Cond.holds, Cond.value, h1, h2, h3, h4, g1, g2, g3, g4, g5, g6]
def isCode : Jvm.Cond → Bool
  | .code _ _ _ _ => true
  | _ => false
theorem all_split {L : List Jvm.Cond} {P : Jvm.Cond → Bool} (h1 : L.all (fun c => isCode c || P c) = true) (h2 : ∀ c ∈ L.filter isCode, P c = true) : L.all P = true := by
  refine List.all_eq_true.mpr fun c hc => ?_
  have h := List.all_eq_true.mp h1 c hc
  rcases Bool.eq_false_or_eq_true (isCode c) with hi | hi
  · exact h2 c (List.mem_filter.mpr ⟨hc, hi⟩)
  · simpa [hi] using h
set_option maxRecDepth 65536 in
theorem w_c0 : (Jvm.Cond.code x code maxLocals ret).before args0 about1 = true := code_word (m := ⟨1, 1⟩) (meth := k1m1) (c := k1c1) (by decide +kernel) rfl rfl rfl (by decide +kernel)
set_option maxRecDepth 65536 in
theorem w_c1 : (Jvm.Cond.code ({ cls := "com/example/usher/usher/Member", name := "isLetterOrDigit", desc := "(C)Z" } : Jvm.MethodName) prog_24_method_16_code (1 : Nat) (Option.some Jvm.ClassFile.FieldType.boolean)).before args0 about1 = true := code_word (m := ⟨2, 0⟩) (meth := k2m0) (c := k2c0) (by decide +kernel) rfl rfl rfl (by decide +kernel)
def codes1 : List Jvm.Cond := [Jvm.Cond.code x code maxLocals ret, Jvm.Cond.code ({ cls := "com/example/usher/usher/Member", name := "isLetterOrDigit", desc := "(C)Z" } : Jvm.MethodName) prog_24_method_16_code (1 : Nat) (Option.some Jvm.ClassFile.FieldType.boolean)]
set_option maxRecDepth 65536 in
theorem codes_eq : words1.filter isCode = codes1 := rfl
theorem w_codes : ∀ c ∈ words1.filter isCode, c.before args0 about1 = true := by
  rw [codes_eq]
  intro c hc
  simp only [codes1, List.mem_cons, List.not_mem_nil, or_false] at hc
  rcases hc with rfl | rfl
  · exact w_c0
  · exact w_c1
set_option maxRecDepth 65536 in
theorem w_t1 : words1.all (fun c => isCode c || c.before args0 about1) = true := by decide +kernel
theorem w_tables : (allAtoms (Jvm.Cond.code x code maxLocals ret :: tables_1)).before args0 about1 = true := by
  rw [allAtoms_all]
  show words1.all (fun c => c.before args0 about1) = true
  refine all_split ?_ w_codes
  rw [w_t1]
set_option maxRecDepth 65536 in
theorem w_case : (Jvm.Cond.and given_1 narrow_1).before args0 about1 = true := by decide +kernel
theorem w_applies : (headSpec (Jvm.Cond.code x code maxLocals ret :: tables_1) room_1).applies x e0.platform about1 = true :=
  (Spec.applies_iff w_frames).mpr ⟨w_running, w_runnable, w_alone, w_named, w_hears, w_ripe, w_room, w_tables⟩
theorem atStart : AtStart classFile x code maxLocals ret World_1 tables_1 room_1 Calls_1 rest_1 Pre_1 launch0 p0 e0 about1 theMethod args0 below0 :=
  ⟨lists_1, trivial, launch0.admits_env _ _ _, launch0.least_env, fairChoices_fair.cas, fairChoices_fair.clock, w_frames, w_args, w_heap, w_applies, trivial, trivial, w_case⟩
end start1
theorem witness_1 : WitnessClaimed_1 := ⟨start1.p0, start1.e0, start1.about1, start1.theMethod, start1.args0, start1.below0, start1.atStart⟩
end Jvm.Pilot.@@N@@
