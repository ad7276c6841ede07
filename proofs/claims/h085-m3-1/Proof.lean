import JvmDerived
import JvmDerived.Pilot.@@N@@Statement
import JvmDerived.Pilot.@@N@@Code
set_option linter.unusedVariables false
set_option linter.unusedSimpArgs false
namespace Jvm.RoadKit
open Sem ClassFile Op Lib Jvm.Stand Jvm.Free Jvm.LawKit
section New
variable {p : Program} {l : Launch} {e : Env} {R : Room} {s : State} {m : MethodId} {args : Array Value} {below : List Frame} {meth : Method} {c : Code} {T : State} {locs : List Loc} {cells slots : Nat}
theorem retI (X : Stand p l e R s m args below meth c T locs cells slots) (hx : p.tables.exec = Jvm.exec) {pc : Nat} {Ls : Array Slot} {z : Int32} {rest : List Value} (hret : meth.sig.returnType = some .int) (hd : decode c.code pc = .ok (.ireturn, 1)) {fs : List Frame}
    (hl : ∀ (f : JFrame) (acts : List Action), f.method = m → f.locked = none → f.entered = [] → (doReturn e (T.setTop f) acts (some (.int z))).1 = T.setFrames fs) : Steps p.tables e below (T.setTop (mkF m pc Ls (.int z :: rest))) (T.setFrames fs) := by
  have hm' : T.vm.method? m = some meth := X.method'
  have hn : narrow .int (.int z) = .int z := rfl
  show Steps p.tables e below (T.setTop { method := m, pc := pc, locals := Ls, stack := _ :: rest, locked := none }) _
  jvm_step X.here [X.here.top, hx, hd, hm', hret, hn]
  first | (intro acts; rw [hl _ acts rfl rfl rfl]) | rw [hl _ _ rfl rfl rfl]
  exact Steps.refl _
end New
end Jvm.RoadKit
namespace Jvm.Pilot.@@N@@
open Jvm Jvm.ClassFile Sem Op Lib Jvm.Free Jvm.Stand Jvm.LawKit Jvm.RoadKit Bundle Jvm.Pilot.@@N@@.Jvm.D
/-- the rest of a run, in passing style: some state is come to at which F holds -/
def Go (p : Program) (e : Env) (below : List Frame) (F : State → Outcome → Prop) (t : State) : Prop := ∃ u o, Steps p.tables e below t u ∧ F u o
theorem Go.back {p : Program} {e : Env} {below : List Frame} {F : State → Outcome → Prop} {t t' : State} (k : ∀ u, Steps p.tables e below t' u → Steps p.tables e below t u) (h : Go p e below F t') : Go p e below F t := by
  obtain ⟨u, o, h1, h2⟩ := h
  exact ⟨u, o, k u h1, h2⟩
def own_F (s : State) (below : List Frame) (Q : Option Value → Heap → List Loc → Prop) (cells slots : Nat) (u : State) (o : Outcome) : Prop := u.status = .running ∧ Ended u below o ∧ ∃ v L, o = .returned v ∧ Q v u.heap L ∧ FrameEnd s o u L cells slots
theorem own_field {args : Array Value} {s : State} {t : Term} {C n d : String} {x : Addr} {v : Value} (h : t.eval args s none [] s = some (.ref x)) (h2 : (Term.field t C n d).eval args s none [] s = some v) : s.fieldOf? x C n d = some v := by
  simpa [Term.eval, h] using h2
theorem own_bit {x : Int32} (h : x = 0 ∨ x = 1) : narrow .boolean (.int x) = .int x ∧ fits .boolean (.int x) = true := by
  rcases h with rfl | rfl <;> decide
def F_own_isLen (p0 : Int32) : Int32 := (if (0 : Int32) < p0 then (if (256 : Int32) < p0 then (0 : Int32) else (1 : Int32)) else (0 : Int32))
theorem own_pn0 : plainName "org/latchkeep/io/Identifiers" = true := by first | (simp [plainName, overriddenIn]; done) | decide +kernel
theorem own_d1_0 : decode prog_39_method_2_code 0 = .ok (.iload_n 0, 1) := by decide +kernel
theorem own_d1_1 : decode prog_39_method_2_code 1 = .ok (.ifCond .le 14, 3) := by decide +kernel
theorem own_d1_4 : decode prog_39_method_2_code 4 = .ok (.iload_n 0, 1) := by decide +kernel
theorem own_d1_5 : decode prog_39_method_2_code 5 = .ok (.sipush 256, 3) := by decide +kernel
theorem own_d1_8 : decode prog_39_method_2_code 8 = .ok (.if_icmp .gt 7, 3) := by decide +kernel
theorem own_d1_11 : decode prog_39_method_2_code 11 = .ok (.iconst 1, 1) := by decide +kernel
theorem own_d1_12 : decode prog_39_method_2_code 12 = .ok (.goto 4, 3) := by decide +kernel
theorem own_d1_15 : decode prog_39_method_2_code 15 = .ok (.iconst 0, 1) := by decide +kernel
theorem own_d1_16 : decode prog_39_method_2_code 16 = .ok (.ireturn, 1) := by decide +kernel
theorem own_ef_own_isLen (m : MethodId) (x0 : Int32) : entryFrame m #[(.int x0)] 1 = mkF m 0 #[.val (.int x0)] [] := by first | (simp [entryFrame, mkF, argsToLocals, Value.category]; done) | rfl
def Q_own_isLen (Z : State) (p0 : Int32) (h0 : Heap) (n0 : Nat) (v : Option Value) (h : Heap) (L : List Loc) : Prop := v = some (.int (F_own_isLen p0)) ∧ Fr n0 L ∧ h = h0
set_option maxRecDepth 65536 in
set_option maxHeartbeats 40000000 in
theorem own_isLen (l : Launch) (Z : State) (a0 : Array Value) (hw : ∀ d ∈ tables_1, d.before a0 Z = true) (ws : List Jvm.Cond) (p0 : Int32) (h0 : Heap) (n0 : Nat) (Z0 : n0 ≤ h0.size) :
    MetFree l (⟨"org/latchkeep/io/Identifiers", "isLength", "(I)Z"⟩ : MethodName) (head1 (Jvm.Cond.code (⟨"org/latchkeep/io/Identifiers", "isLength", "(I)Z"⟩ : MethodName) prog_39_method_2_code 1 (some .boolean) :: ws) ({ frames := 0, cells := 0, slots := 0, locals := 0 } : Room)) (fun as_ U => as_ = #[(.int p0)] ∧ Z.Warmed39 U.vm ∧ U.heap = h0) (fun _ _ _ _ _ => True) (fun _ U o U' => ∃ v L, o = .returned v ∧ Q_own_isLen Z p0 h0 n0 v U'.heap L ∧ FrameEnd U o U' L ({ frames := 0, cells := 0, slots := 0, locals := 0 } : Room).cells ({ frames := 0, cells := 0, slots := 0, locals := 0 } : Room).slots) := by
  refine MetFree.of_bodySF (plainFor_of_name own_pn0) hisR ?_
  intro p e s m args below meth c s₁ Bd hml0 hP hK
  obtain ⟨rfl, hZ, hh⟩ := hP
  have hx := Bd.exec
  have hby := Bd.bytes
  have hml : c.maxLocals = 1 := hml0
  have hown : s.vm.findClass "org/latchkeep/io/Identifiers" = some m.cls := findClass_of_methodNamed Bd.named
  have hnm := (name_of_methodNamed Bd.named Bd.method).1
  have X0 : Stand p l e ({ frames := 0, cells := 0, slots := 0, locals := 0 } : Room) s m #[(.int p0)] below meth c s₁ [] 0 0 := Stand.of_body Bd
  have e0 : s₁.heap = h0 := by rw [← hh, Bd.state]; rfl
  have N0 := Fr.nil n0
  have K0 := Keep.refl h0 []
  show Go p e below (own_F s below (Q_own_isLen Z p0 h0 n0) ({ frames := 0, cells := 0, slots := 0, locals := 0 } : Room).cells ({ frames := 0, cells := 0, slots := 0, locals := 0 } : Room).slots) (s₁.setTop (entryFrame m #[(.int p0)] 1))
  rw [own_ef_own_isLen m p0]
  refine Go.back (t' := (s₁.setTop (mkF m 1 #[.val (.int p0)] [(.int p0)]))) (fun u k => XS.iloadN X0.here hx rfl (hb hby own_d1_0) rfl k) ?_
  by_cases hc1 : (0 : Int32) < p0
  · skip
    refine Go.back (t' := (s₁.setTop (mkF m 4 #[.val (.int p0)] []))) (fun u k => XS.ifNo X0.here hx rfl (hb hby own_d1_1) rfl (XT.i0_le_f hc1) k) ?_
    refine Go.back (t' := (s₁.setTop (mkF m 5 #[.val (.int p0)] [(.int p0)]))) (fun u k => XS.iloadN X0.here hx rfl (hb hby own_d1_4) rfl k) ?_
    refine Go.back (t' := (s₁.setTop (mkF m 8 #[.val (.int p0)] [(.int (256 : Int32)), (.int p0)]))) (fun u k => XT.sipushV X0.here hx rfl (256 : Int32) (hb hby own_d1_5) (by decide) k) ?_
    by_cases hc2 : (256 : Int32) < p0
    · skip
      refine Go.back (t' := (s₁.setTop (mkF m 15 #[.val (.int p0)] []))) (fun u k => XS.icmpYes X0.here hx rfl (pc0 := 8) (pc' := 15) rfl (hb hby own_d1_8) rfl (XT.ii_gt_t hc2) (by decide) (by decide) k) ?_
      refine Go.back (t' := (s₁.setTop (mkF m 16 #[.val (.int p0)] [(.int (0 : Int32))]))) (fun u k => XT.iconstV X0.here hx rfl (0 : Int32) (hb hby own_d1_15) (by decide) k) ?_
      obtain ⟨fs, hr, hrun, hended, hW, hsame⟩ := X0.leave (v := some (.int (0 : Int32))) (fun h => by rw [Bd.returns] at h; cases h)
      refine ⟨_, _, retN X0 hx (t := .boolean) Bd.returns (by simp) (hb hby own_d1_16) hr, hrun, hended, _, _, rfl, ?_, ⟨_, rfl⟩, hW, hsame.mono (by decide) (by decide)⟩
      show Q_own_isLen Z p0 h0 n0 _ s₁.heap _
      rw [e0]
      exact ⟨by simp only [F_own_isLen, if_pos hc1, if_pos hc2], N0, rfl⟩
    · skip
      refine Go.back (t' := (s₁.setTop (mkF m 11 #[.val (.int p0)] []))) (fun u k => XS.icmpNo X0.here hx rfl (hb hby own_d1_8) rfl (XT.ii_gt_f hc2) k) ?_
      refine Go.back (t' := (s₁.setTop (mkF m 12 #[.val (.int p0)] [(.int (1 : Int32))]))) (fun u k => XT.iconstV X0.here hx rfl (1 : Int32) (hb hby own_d1_11) (by decide) k) ?_
      refine Go.back (t' := (s₁.setTop (mkF m 16 #[.val (.int p0)] [(.int (1 : Int32))]))) (fun u k => XS.goto X0.here hx rfl (pc0 := 12) (pc' := 16) rfl (hb hby own_d1_12) (by decide) (by decide) k) ?_
      obtain ⟨fs, hr, hrun, hended, hW, hsame⟩ := X0.leave (v := some (.int (1 : Int32))) (fun h => by rw [Bd.returns] at h; cases h)
      refine ⟨_, _, retN X0 hx (t := .boolean) Bd.returns (by simp) (hb hby own_d1_16) hr, hrun, hended, _, _, rfl, ?_, ⟨_, rfl⟩, hW, hsame.mono (by decide) (by decide)⟩
      show Q_own_isLen Z p0 h0 n0 _ s₁.heap _
      rw [e0]
      exact ⟨by simp only [F_own_isLen, if_pos hc1, if_neg hc2], N0, rfl⟩
  · skip
    refine Go.back (t' := (s₁.setTop (mkF m 15 #[.val (.int p0)] []))) (fun u k => XS.ifYes X0.here hx rfl (pc0 := 1) (pc' := 15) rfl (hb hby own_d1_1) rfl (XT.i0_le_t hc1) (by decide) (by decide) k) ?_
    refine Go.back (t' := (s₁.setTop (mkF m 16 #[.val (.int p0)] [(.int (0 : Int32))]))) (fun u k => XT.iconstV X0.here hx rfl (0 : Int32) (hb hby own_d1_15) (by decide) k) ?_
    obtain ⟨fs, hr, hrun, hended, hW, hsame⟩ := X0.leave (v := some (.int (0 : Int32))) (fun h => by rw [Bd.returns] at h; cases h)
    refine ⟨_, _, retN X0 hx (t := .boolean) Bd.returns (by simp) (hb hby own_d1_16) hr, hrun, hended, _, _, rfl, ?_, ⟨_, rfl⟩, hW, hsame.mono (by decide) (by decide)⟩
    show Q_own_isLen Z p0 h0 n0 _ s₁.heap _
    rw [e0]
    exact ⟨by simp only [F_own_isLen, if_neg hc1], N0, rfl⟩
def F_own_ref (p0 : Int32) : Int32 := (if ((p0 - (1 : Int32)) &&& (-256 : Int32)) = (0 : Int32) then (1 : Int32) else (0 : Int32))
theorem own_pn1 : plainName "org/latchkeep/io/IdentifiersIsLengthPinLaw" = true := by first | (simp [plainName, overriddenIn]; done) | decide +kernel
theorem own_d2_0 : decode method_2_code 0 = .ok (.iload_n 0, 1) := by decide +kernel
theorem own_d2_1 : decode method_2_code 1 = .ok (.iconst 1, 1) := by decide +kernel
theorem own_d2_2 : decode method_2_code 2 = .ok (.isub, 1) := by decide +kernel
theorem own_d2_3 : decode method_2_code 3 = .ok (.sipush (-256), 3) := by decide +kernel
theorem own_d2_6 : decode method_2_code 6 = .ok (.iand, 1) := by decide +kernel
theorem own_d2_7 : decode method_2_code 7 = .ok (.ifCond .ne 7, 3) := by decide +kernel
theorem own_d2_10 : decode method_2_code 10 = .ok (.iconst 1, 1) := by decide +kernel
theorem own_d2_11 : decode method_2_code 11 = .ok (.goto 4, 3) := by decide +kernel
theorem own_d2_14 : decode method_2_code 14 = .ok (.iconst 0, 1) := by decide +kernel
theorem own_d2_15 : decode method_2_code 15 = .ok (.ireturn, 1) := by decide +kernel
theorem own_ef_own_ref (m : MethodId) (x0 : Int32) : entryFrame m #[(.int x0)] 1 = mkF m 0 #[.val (.int x0)] [] := by first | (simp [entryFrame, mkF, argsToLocals, Value.category]; done) | rfl
def Q_own_ref (Z : State) (p0 : Int32) (h0 : Heap) (n0 : Nat) (v : Option Value) (h : Heap) (L : List Loc) : Prop := v = some (.int (F_own_ref p0)) ∧ Fr n0 L ∧ h = h0
set_option maxRecDepth 65536 in
set_option maxHeartbeats 40000000 in
theorem own_ref (l : Launch) (Z : State) (a0 : Array Value) (hw : ∀ d ∈ tables_1, d.before a0 Z = true) (ws : List Jvm.Cond) (p0 : Int32) (h0 : Heap) (n0 : Nat) (Z0 : n0 ≤ h0.size) :
    MetFree l (⟨"org/latchkeep/io/IdentifiersIsLengthPinLaw", "ref", "(I)Z"⟩ : MethodName) (head1 (Jvm.Cond.code (⟨"org/latchkeep/io/IdentifiersIsLengthPinLaw", "ref", "(I)Z"⟩ : MethodName) method_2_code 1 (some .boolean) :: ws) ({ frames := 0, cells := 0, slots := 0, locals := 0 } : Room)) (fun as_ U => as_ = #[(.int p0)] ∧ Z.Warmed39 U.vm ∧ U.heap = h0) (fun _ _ _ _ _ => True) (fun _ U o U' => ∃ v L, o = .returned v ∧ Q_own_ref Z p0 h0 n0 v U'.heap L ∧ FrameEnd U o U' L ({ frames := 0, cells := 0, slots := 0, locals := 0 } : Room).cells ({ frames := 0, cells := 0, slots := 0, locals := 0 } : Room).slots) := by
  refine MetFree.of_bodySF (plainFor_of_name own_pn1) hisR ?_
  intro p e s m args below meth c s₁ Bd hml0 hP hK
  obtain ⟨rfl, hZ, hh⟩ := hP
  have hx := Bd.exec
  have hby := Bd.bytes
  have hml : c.maxLocals = 1 := hml0
  have hown : s.vm.findClass "org/latchkeep/io/IdentifiersIsLengthPinLaw" = some m.cls := findClass_of_methodNamed Bd.named
  have hnm := (name_of_methodNamed Bd.named Bd.method).1
  have X0 : Stand p l e ({ frames := 0, cells := 0, slots := 0, locals := 0 } : Room) s m #[(.int p0)] below meth c s₁ [] 0 0 := Stand.of_body Bd
  have e0 : s₁.heap = h0 := by rw [← hh, Bd.state]; rfl
  have N0 := Fr.nil n0
  have K0 := Keep.refl h0 []
  show Go p e below (own_F s below (Q_own_ref Z p0 h0 n0) ({ frames := 0, cells := 0, slots := 0, locals := 0 } : Room).cells ({ frames := 0, cells := 0, slots := 0, locals := 0 } : Room).slots) (s₁.setTop (entryFrame m #[(.int p0)] 1))
  rw [own_ef_own_ref m p0]
  refine Go.back (t' := (s₁.setTop (mkF m 1 #[.val (.int p0)] [(.int p0)]))) (fun u k => XS.iloadN X0.here hx rfl (hb hby own_d2_0) rfl k) ?_
  refine Go.back (t' := (s₁.setTop (mkF m 2 #[.val (.int p0)] [(.int (1 : Int32)), (.int p0)]))) (fun u k => XT.iconstV X0.here hx rfl (1 : Int32) (hb hby own_d2_1) (by decide) k) ?_
  refine Go.back (t' := (s₁.setTop (mkF m 3 #[.val (.int p0)] [(.int (p0 - (1 : Int32)))]))) (fun u k => XS.isub X0.here hx rfl (hb hby own_d2_2) rfl k) ?_
  refine Go.back (t' := (s₁.setTop (mkF m 6 #[.val (.int p0)] [(.int (-256 : Int32)), (.int (p0 - (1 : Int32)))]))) (fun u k => XT.sipushV X0.here hx rfl (-256 : Int32) (hb hby own_d2_3) (by decide) k) ?_
  refine Go.back (t' := (s₁.setTop (mkF m 7 #[.val (.int p0)] [(.int ((p0 - (1 : Int32)) &&& (-256 : Int32)))]))) (fun u k => XS.iand X0.here hx rfl (hb hby own_d2_6) rfl k) ?_
  by_cases hc1 : ((p0 - (1 : Int32)) &&& (-256 : Int32)) = (0 : Int32)
  · skip
    refine Go.back (t' := (s₁.setTop (mkF m 10 #[.val (.int p0)] []))) (fun u k => XS.ifNo X0.here hx rfl (hb hby own_d2_7) rfl (XT.i0_ne_f hc1) k) ?_
    refine Go.back (t' := (s₁.setTop (mkF m 11 #[.val (.int p0)] [(.int (1 : Int32))]))) (fun u k => XT.iconstV X0.here hx rfl (1 : Int32) (hb hby own_d2_10) (by decide) k) ?_
    refine Go.back (t' := (s₁.setTop (mkF m 15 #[.val (.int p0)] [(.int (1 : Int32))]))) (fun u k => XS.goto X0.here hx rfl (pc0 := 11) (pc' := 15) rfl (hb hby own_d2_11) (by decide) (by decide) k) ?_
    obtain ⟨fs, hr, hrun, hended, hW, hsame⟩ := X0.leave (v := some (.int (1 : Int32))) (fun h => by rw [Bd.returns] at h; cases h)
    refine ⟨_, _, retN X0 hx (t := .boolean) Bd.returns (by simp) (hb hby own_d2_15) hr, hrun, hended, _, _, rfl, ?_, ⟨_, rfl⟩, hW, hsame.mono (by decide) (by decide)⟩
    show Q_own_ref Z p0 h0 n0 _ s₁.heap _
    rw [e0]
    exact ⟨by simp only [F_own_ref, if_pos hc1], N0, rfl⟩
  · skip
    refine Go.back (t' := (s₁.setTop (mkF m 14 #[.val (.int p0)] []))) (fun u k => XS.ifYes X0.here hx rfl (pc0 := 7) (pc' := 14) rfl (hb hby own_d2_7) rfl (XT.i0_ne_t hc1) (by decide) (by decide) k) ?_
    refine Go.back (t' := (s₁.setTop (mkF m 15 #[.val (.int p0)] [(.int (0 : Int32))]))) (fun u k => XT.iconstV X0.here hx rfl (0 : Int32) (hb hby own_d2_14) (by decide) k) ?_
    obtain ⟨fs, hr, hrun, hended, hW, hsame⟩ := X0.leave (v := some (.int (0 : Int32))) (fun h => by rw [Bd.returns] at h; cases h)
    refine ⟨_, _, retN X0 hx (t := .boolean) Bd.returns (by simp) (hb hby own_d2_15) hr, hrun, hended, _, _, rfl, ?_, ⟨_, rfl⟩, hW, hsame.mono (by decide) (by decide)⟩
    show Q_own_ref Z p0 h0 n0 _ s₁.heap _
    rw [e0]
    exact ⟨by simp only [F_own_ref, if_neg hc1], N0, rfl⟩
theorem own_law (x : Int32) : F_own_isLen x = F_own_ref x := by
  have key : ((x - (1 : Int32)) &&& (-256 : Int32)) = (0 : Int32) ↔ (0 < x ∧ ¬ (256 : Int32) < x) := by
    rw [← Int32.toBitVec_inj, Int32.toBitVec_and, Int32.toBitVec_sub]
    have hm : (-256 : Int32).toBitVec = BitVec.allOnes 32 <<< 8 := by decide
    have h0 : (0 : Int32).toBitVec = 0#32 := by decide
    have h1 : (1 : Int32).toBitVec = 1#32 := by decide
    rw [hm, h0, h1, ← BitVec.shiftLeft_ushiftRight]
    rw [Int32.lt_iff_toInt_lt, Int32.lt_iff_toInt_lt]
    have e0 : (0 : Int32).toInt = 0 := by decide
    have e1 : (256 : Int32).toInt = 256 := by decide
    have e2 : x.toInt = x.toBitVec.toInt := rfl
    rw [e0, e1, e2]
    generalize x.toBitVec = b
    rw [BitVec.toInt_eq_toNat_cond]
    have hb := b.isLt
    have e3 : ((b - 1#32) >>> 8 <<< 8).toNat = (b - 1#32).toNat / 256 * 256 := by
      have hq := (b - 1#32).isLt
      rw [BitVec.toNat_shiftLeft, BitVec.toNat_ushiftRight, Nat.shiftRight_eq_div_pow, Nat.shiftLeft_eq]
      exact Nat.mod_eq_of_lt (by omega)
    have e4 : (b - 1#32).toNat = (2 ^ 32 - 1 + b.toNat) % 2 ^ 32 := by
      rw [BitVec.toNat_sub]; rfl
    rw [← BitVec.toNat_inj, e3, e4]
    simp only [BitVec.toNat_ofNat]
    split <;> omega
  unfold F_own_isLen F_own_ref
  by_cases h0 : (0 : Int32) < x
  · by_cases h1 : (256 : Int32) < x
    · rw [if_pos h0, if_pos h1, if_neg (fun h => (key.mp h).2 h1)]
    · rw [if_pos h0, if_neg h1, if_pos (key.mpr ⟨h0, h1⟩)]
  · rw [if_neg h0, if_neg (fun h => h0 (key.mp h).1)]
theorem own_pd0 : parseMethodDescriptor "(I)Z" = some ⟨[.int], some .boolean⟩ := by decide +kernel
theorem own_ef_own_law0 (m : MethodId) (x0 : Int32) (x1 : Int32) : entryFrame m #[(.int x0), (.int x1)] maxLocals = mkF m 0 #[.val (.int x0), .val (.int x1), .unset, .unset] [] := by first | (simp [entryFrame, mkF, argsToLocals, Value.category, maxLocals]; done) | rfl
def Q_own_law0 (Z : State) (p0 : Int32) (p1 : Int32) (h0 : Heap) (n0 : Nat) (v : Option Value) (h : Heap) (L : List Loc) : Prop := v = some (.int 1) ∧ Fr n0 L ∧ h = h0
set_option maxRecDepth 65536 in
set_option maxHeartbeats 40000000 in
theorem own_law0 (l : Launch) (Z : State) (a0 : Array Value) (hw : ∀ d ∈ tables_1, d.before a0 Z = true) (ws : List Jvm.Cond) (p0 : Int32) (p1 : Int32) (h0 : Heap) (n0 : Nat) (Z0 : n0 ≤ h0.size) :
    MetFree l x (head1 (Jvm.Cond.code x code maxLocals ret :: ws) room_1) (fun as_ U => as_ = #[(.int p0), (.int p1)] ∧ Z.Warmed39 U.vm ∧ U.heap = h0) (fun _ _ _ _ _ => True) (fun _ U o U' => ∃ v L, o = .returned v ∧ Q_own_law0 Z p0 p1 h0 n0 v U'.heap L ∧ FrameEnd U o U' L 0 0) := by
  refine MetFree.of_bodySF (plainFor_of_name own_pn1) hisR ?_
  intro p e s m args below meth c s₁ Bd hml0 hP hK
  obtain ⟨rfl, hZ, hh⟩ := hP
  have hx := Bd.exec
  have hby := Bd.bytes
  have hml : c.maxLocals = 4 := hml0
  have hown : s.vm.findClass "org/latchkeep/io/IdentifiersIsLengthPinLaw" = some m.cls := findClass_of_methodNamed Bd.named
  have hnm := (name_of_methodNamed Bd.named Bd.method).1
  have X0 : Stand p l e room_1 s m #[(.int p0), (.int p1)] below meth c s₁ [] 0 0 := Stand.of_body Bd
  have e0 : s₁.heap = h0 := by rw [← hh, Bd.state]; rfl
  have N0 := Fr.nil n0
  have K0 := Keep.refl h0 []
  show Go p e below (own_F s below (Q_own_law0 Z p0 p1 h0 n0) 0 0) (s₁.setTop (entryFrame m #[(.int p0), (.int p1)] maxLocals))
  rw [own_ef_own_law0 m p0 p1]
  refine Go.back (t' := (s₁.setTop (mkF m 1 #[.val (.int p0), .val (.int p1), .unset, .unset] [(.int p0)]))) (fun u k => XS.iloadN X0.here hx rfl (hb hby at_0) rfl k) ?_
  obtain ⟨_, _, ⟨T1, L1, k1, n1⟩, -, X1, ⟨Lc1, hQ1, l1, y1, z1⟩, st1⟩ := Jvm.LawKit.callS X0 hx (y := (⟨"org/latchkeep/io/Identifiers", "isLength", "(I)Z"⟩ : MethodName)) hown (mvT hZ (hw _ (List.mem_of_getElem? (i := 0) rfl))) (mvT hZ (hw _ (List.mem_of_getElem? (i := 1) rfl))) (mvT hZ (hw _ (List.mem_of_getElem? (i := 2) rfl))) (mvT hZ (hw _ (List.mem_of_getElem? (i := 3) rfl))) (by decide) (backOf (W := 0) (own_isLen l Z a0 hw [] p0 h0 n0 Z0 ) hZ (hw _ (List.mem_of_getElem? (i := 3) rfl)) (hw _ (List.mem_of_getElem? (i := 2) rfl)) (by decide) (by decide)) (g := (mkF m 1 #[.val (.int p0), .val (.int p1), .unset, .unset] [(.int p0)])) rfl (by rw [hml]; rfl) (argsL := [(.int p0)]) (rest := []) (lenOf own_pd0 rfl) rfl (by show 2 * 0 + _ ≤ _; exact Nat.le_of_eq rfl) (hb hby at_1) (fun _ _ => ⟨rfl, e0, (by decide : 0 + 0 ≤ _), (by decide : 0 + 0 ≤ _)⟩)
  dsimp only [Pt.U, Pt.locs, Pt.cells, Pt.slots] at X1 l1 y1 z1 st1 hQ1
  subst l1 y1 z1
  obtain ⟨rfl, N1, e1⟩ := hQ1
  have NA1 := Fr.app N0 N1
  refine Go.back (t' := (T1.setTop (mkF m 4 #[.val (.int p0), .val (.int p1), .unset, .unset] [(.int (F_own_isLen p0))]))) st1 ?_
  refine Go.back (t' := (T1.setTop (mkF m 5 #[.val (.int p0), .val (.int p1), .unset, .unset] [(.int p0), (.int (F_own_isLen p0))]))) (fun u k => XS.iloadN X1.here hx rfl (hb hby at_4) rfl k) ?_
  obtain ⟨_, _, ⟨T2, L2, k2, n2⟩, -, X2, ⟨Lc2, hQ2, l2, y2, z2⟩, st2⟩ := Jvm.LawKit.callS X1 hx (y := (⟨"org/latchkeep/io/IdentifiersIsLengthPinLaw", "ref", "(I)Z"⟩ : MethodName)) hown (mvT hZ (hw _ (List.mem_of_getElem? (i := 4) rfl))) (mvT hZ (hw _ (List.mem_of_getElem? (i := 5) rfl))) (mvT hZ (hw _ (List.mem_of_getElem? (i := 6) rfl))) (mvT hZ (hw _ (List.mem_of_getElem? (i := 7) rfl))) (by decide) (backOf (W := 1) (own_ref l Z a0 hw [] p0 h0 n0 Z0 ) hZ (hw _ (List.mem_of_getElem? (i := 7) rfl)) (hw _ (List.mem_of_getElem? (i := 6) rfl)) (by decide) (by decide)) (g := (mkF m 5 #[.val (.int p0), .val (.int p1), .unset, .unset] [(.int p0), (.int (F_own_isLen p0))])) rfl (by rw [hml]; rfl) (argsL := [(.int p0)]) (rest := [(.int (F_own_isLen p0))]) (lenOf own_pd0 rfl) rfl (by show 2 * 0 + _ ≤ _; exact Nat.le_of_eq rfl) (hb hby at_5) (fun _ _ => ⟨rfl, e1, (by decide : 0 + 0 ≤ _), (by decide : 0 + 0 ≤ _)⟩)
  dsimp only [Pt.U, Pt.locs, Pt.cells, Pt.slots] at X2 l2 y2 z2 st2 hQ2
  subst l2 y2 z2
  obtain ⟨rfl, N2, e2⟩ := hQ2
  have NA2 := Fr.app NA1 N2
  refine Go.back (t' := (T2.setTop (mkF m 8 #[.val (.int p0), .val (.int p1), .unset, .unset] [(.int (F_own_ref p0)), (.int (F_own_isLen p0))]))) st2 ?_
  refine Go.back (t' := (T2.setTop (mkF m 11 #[.val (.int p0), .val (.int p1), .unset, .unset] []))) (fun u k => XS.icmpNo X2.here hx rfl (hb hby at_8) rfl (XT.ii_ne_f (own_law p0)) k) ?_
  refine Go.back (t' := (T2.setTop (mkF m 12 #[.val (.int p0), .val (.int p1), .unset, .unset] [(.int (1 : Int32))]))) (fun u k => XT.iconstV X2.here hx rfl (1 : Int32) (hb hby at_11) (by decide) k) ?_
  refine Go.back (t' := (T2.setTop (mkF m 16 #[.val (.int p0), .val (.int p1), .unset, .unset] [(.int (1 : Int32))]))) (fun u k => XS.goto X2.here hx rfl (pc0 := 12) (pc' := 16) rfl (hb hby at_12) (by decide) (by decide) k) ?_
  refine Go.back (t' := (T2.setTop (mkF m 17 #[.val (.int p0), .val (.int p1), .val (.int (1 : Int32)), .unset] []))) (fun u k => XS.istoreN X2.here hx rfl (hb hby at_16) rfl (l' := #[.val (.int p0), .val (.int p1), .val (.int (1 : Int32)), .unset]) rfl k) ?_
  have sg3 : ∀ u, Steps p.tables e below (T2.setTop (mkF m 32 #[.val (.int p0), .val (.int p1), .val (.int (1 : Int32)), .unset] [(.int (if (p1 &&& (8 : Int32)) = (0 : Int32) then (-3 : Int32) else (253 : Int32)))])) u → Steps p.tables e below (T2.setTop (mkF m 17 #[.val (.int p0), .val (.int p1), .val (.int (1 : Int32)), .unset] [])) u := by
    intro u k
    refine XS.iloadN X2.here hx rfl (hb hby at_17) rfl ?_
    show Steps p.tables e below (T2.setTop (mkF m 18 #[.val (.int p0), .val (.int p1), .val (.int (1 : Int32)), .unset] [(.int p1)])) u
    refine XT.bipushV X2.here hx rfl (8 : Int32) (hb hby at_18) (by decide) ?_
    show Steps p.tables e below (T2.setTop (mkF m 20 #[.val (.int p0), .val (.int p1), .val (.int (1 : Int32)), .unset] [(.int (8 : Int32)), (.int p1)])) u
    refine XS.iand X2.here hx rfl (hb hby at_20) rfl ?_
    show Steps p.tables e below (T2.setTop (mkF m 21 #[.val (.int p0), .val (.int p1), .val (.int (1 : Int32)), .unset] [(.int (p1 &&& (8 : Int32)))])) u
    by_cases hc4 : (p1 &&& (8 : Int32)) = (0 : Int32)
    · skip
      refine XS.ifYes X2.here hx rfl (pc0 := 21) (pc' := 30) rfl (hb hby at_21) rfl (XT.i0_eq_t hc4) (by decide) (by decide) ?_
      show Steps p.tables e below (T2.setTop (mkF m 30 #[.val (.int p0), .val (.int p1), .val (.int (1 : Int32)), .unset] [])) u
      refine XT.bipushV X2.here hx rfl (-3 : Int32) (hb hby at_30) (by decide) ?_
      show Steps p.tables e below (T2.setTop (mkF m 32 #[.val (.int p0), .val (.int p1), .val (.int (1 : Int32)), .unset] [(.int (-3 : Int32))])) u
      try simp only [if_pos hc4] at k
      exact k
    · skip
      refine XS.ifNo X2.here hx rfl (hb hby at_21) rfl (XT.i0_eq_f hc4) ?_
      show Steps p.tables e below (T2.setTop (mkF m 24 #[.val (.int p0), .val (.int p1), .val (.int (1 : Int32)), .unset] [])) u
      refine XT.sipushV X2.here hx rfl (253 : Int32) (hb hby at_24) (by decide) ?_
      show Steps p.tables e below (T2.setTop (mkF m 27 #[.val (.int p0), .val (.int p1), .val (.int (1 : Int32)), .unset] [(.int (253 : Int32))])) u
      refine XS.goto X2.here hx rfl (pc0 := 27) (pc' := 32) rfl (hb hby at_27) (by decide) (by decide) ?_
      show Steps p.tables e below (T2.setTop (mkF m 32 #[.val (.int p0), .val (.int p1), .val (.int (1 : Int32)), .unset] [(.int (253 : Int32))])) u
      try simp only [if_neg hc4] at k
      exact k
  refine Go.back (t' := (T2.setTop (mkF m 32 #[.val (.int p0), .val (.int p1), .val (.int (1 : Int32)), .unset] [(.int (if (p1 &&& (8 : Int32)) = (0 : Int32) then (-3 : Int32) else (253 : Int32)))]))) sg3 ?_
  refine Go.back (t' := (T2.setTop (mkF m 33 #[.val (.int p0), .val (.int p1), .val (.int (1 : Int32)), .unset] [(.int p1), (.int (if (p1 &&& (8 : Int32)) = (0 : Int32) then (-3 : Int32) else (253 : Int32)))]))) (fun u k => XS.iloadN X2.here hx rfl (hb hby at_32) rfl k) ?_
  refine Go.back (t' := (T2.setTop (mkF m 35 #[.val (.int p0), .val (.int p1), .val (.int (1 : Int32)), .unset] [(.int (7 : Int32)), (.int p1), (.int (if (p1 &&& (8 : Int32)) = (0 : Int32) then (-3 : Int32) else (253 : Int32)))]))) (fun u k => XT.bipushV X2.here hx rfl (7 : Int32) (hb hby at_33) (by decide) k) ?_
  refine Go.back (t' := (T2.setTop (mkF m 36 #[.val (.int p0), .val (.int p1), .val (.int (1 : Int32)), .unset] [(.int (p1 &&& (7 : Int32))), (.int (if (p1 &&& (8 : Int32)) = (0 : Int32) then (-3 : Int32) else (253 : Int32)))]))) (fun u k => XS.iand X2.here hx rfl (hb hby at_35) rfl k) ?_
  refine Go.back (t' := (T2.setTop (mkF m 37 #[.val (.int p0), .val (.int p1), .val (.int (1 : Int32)), .unset] [(.int ((if (p1 &&& (8 : Int32)) = (0 : Int32) then (-3 : Int32) else (253 : Int32)) + (p1 &&& (7 : Int32))))]))) (fun u k => XS.iadd X2.here hx rfl (hb hby at_36) rfl k) ?_
  obtain ⟨near, h_near⟩ : ∃ z : Int32, z = ((if (p1 &&& (8 : Int32)) = (0 : Int32) then (-3 : Int32) else (253 : Int32)) + (p1 &&& (7 : Int32))) := ⟨_, rfl⟩
  rw [← h_near]
  refine Go.back (t' := (T2.setTop (mkF m 38 #[.val (.int p0), .val (.int p1), .val (.int (1 : Int32)), .val (.int near)] []))) (fun u k => XS.istoreN X2.here hx rfl (hb hby at_37) rfl (l' := #[.val (.int p0), .val (.int p1), .val (.int (1 : Int32)), .val (.int near)]) rfl k) ?_
  refine Go.back (t' := (T2.setTop (mkF m 39 #[.val (.int p0), .val (.int p1), .val (.int (1 : Int32)), .val (.int near)] [(.int (1 : Int32))]))) (fun u k => XS.iloadN X2.here hx rfl (hb hby at_38) rfl k) ?_
  refine Go.back (t' := (T2.setTop (mkF m 42 #[.val (.int p0), .val (.int p1), .val (.int (1 : Int32)), .val (.int near)] []))) (fun u k => XS.ifNo X2.here hx rfl (hb hby at_39) rfl (XT.i0_eq_f (by decide)) k) ?_
  refine Go.back (t' := (T2.setTop (mkF m 43 #[.val (.int p0), .val (.int p1), .val (.int (1 : Int32)), .val (.int near)] [(.int near)]))) (fun u k => XS.iloadN X2.here hx rfl (hb hby at_42) rfl k) ?_
  obtain ⟨_, _, ⟨T5, L5, k5, n5⟩, -, X5, ⟨Lc5, hQ5, l5, y5, z5⟩, st5⟩ := Jvm.LawKit.callS X2 hx (y := (⟨"org/latchkeep/io/Identifiers", "isLength", "(I)Z"⟩ : MethodName)) hown (mvT hZ (hw _ (List.mem_of_getElem? (i := 0) rfl))) (mvT hZ (hw _ (List.mem_of_getElem? (i := 1) rfl))) (mvT hZ (hw _ (List.mem_of_getElem? (i := 2) rfl))) (mvT hZ (hw _ (List.mem_of_getElem? (i := 3) rfl))) (by decide) (backOf (W := 0) (own_isLen l Z a0 hw [] near h0 n0 Z0 ) hZ (hw _ (List.mem_of_getElem? (i := 3) rfl)) (hw _ (List.mem_of_getElem? (i := 2) rfl)) (by decide) (by decide)) (g := (mkF m 43 #[.val (.int p0), .val (.int p1), .val (.int (1 : Int32)), .val (.int near)] [(.int near)])) rfl (by rw [hml]; rfl) (argsL := [(.int near)]) (rest := []) (lenOf own_pd0 rfl) rfl (by show 2 * 0 + _ ≤ _; exact Nat.le_of_eq rfl) (hb hby at_43) (fun _ _ => ⟨rfl, e2, (by decide : 0 + 0 ≤ _), (by decide : 0 + 0 ≤ _)⟩)
  dsimp only [Pt.U, Pt.locs, Pt.cells, Pt.slots] at X5 l5 y5 z5 st5 hQ5
  subst l5 y5 z5
  obtain ⟨rfl, N5, e5⟩ := hQ5
  have NA5 := Fr.app NA2 N5
  refine Go.back (t' := (T5.setTop (mkF m 46 #[.val (.int p0), .val (.int p1), .val (.int (1 : Int32)), .val (.int near)] [(.int (F_own_isLen near))]))) st5 ?_
  refine Go.back (t' := (T5.setTop (mkF m 47 #[.val (.int p0), .val (.int p1), .val (.int (1 : Int32)), .val (.int near)] [(.int near), (.int (F_own_isLen near))]))) (fun u k => XS.iloadN X5.here hx rfl (hb hby at_46) rfl k) ?_
  obtain ⟨_, _, ⟨T6, L6, k6, n6⟩, -, X6, ⟨Lc6, hQ6, l6, y6, z6⟩, st6⟩ := Jvm.LawKit.callS X5 hx (y := (⟨"org/latchkeep/io/IdentifiersIsLengthPinLaw", "ref", "(I)Z"⟩ : MethodName)) hown (mvT hZ (hw _ (List.mem_of_getElem? (i := 4) rfl))) (mvT hZ (hw _ (List.mem_of_getElem? (i := 5) rfl))) (mvT hZ (hw _ (List.mem_of_getElem? (i := 6) rfl))) (mvT hZ (hw _ (List.mem_of_getElem? (i := 7) rfl))) (by decide) (backOf (W := 1) (own_ref l Z a0 hw [] near h0 n0 Z0 ) hZ (hw _ (List.mem_of_getElem? (i := 7) rfl)) (hw _ (List.mem_of_getElem? (i := 6) rfl)) (by decide) (by decide)) (g := (mkF m 47 #[.val (.int p0), .val (.int p1), .val (.int (1 : Int32)), .val (.int near)] [(.int near), (.int (F_own_isLen near))])) rfl (by rw [hml]; rfl) (argsL := [(.int near)]) (rest := [(.int (F_own_isLen near))]) (lenOf own_pd0 rfl) rfl (by show 2 * 0 + _ ≤ _; exact Nat.le_of_eq rfl) (hb hby at_47) (fun _ _ => ⟨rfl, e5, (by decide : 0 + 0 ≤ _), (by decide : 0 + 0 ≤ _)⟩)
  dsimp only [Pt.U, Pt.locs, Pt.cells, Pt.slots] at X6 l6 y6 z6 st6 hQ6
  subst l6 y6 z6
  obtain ⟨rfl, N6, e6⟩ := hQ6
  have NA6 := Fr.app NA5 N6
  refine Go.back (t' := (T6.setTop (mkF m 50 #[.val (.int p0), .val (.int p1), .val (.int (1 : Int32)), .val (.int near)] [(.int (F_own_ref near)), (.int (F_own_isLen near))]))) st6 ?_
  refine Go.back (t' := (T6.setTop (mkF m 53 #[.val (.int p0), .val (.int p1), .val (.int (1 : Int32)), .val (.int near)] []))) (fun u k => XS.icmpNo X6.here hx rfl (hb hby at_50) rfl (XT.ii_ne_f (own_law near)) k) ?_
  refine Go.back (t' := (T6.setTop (mkF m 54 #[.val (.int p0), .val (.int p1), .val (.int (1 : Int32)), .val (.int near)] [(.int (1 : Int32))]))) (fun u k => XT.iconstV X6.here hx rfl (1 : Int32) (hb hby at_53) (by decide) k) ?_
  refine Go.back (t' := (T6.setTop (mkF m 58 #[.val (.int p0), .val (.int p1), .val (.int (1 : Int32)), .val (.int near)] [(.int (1 : Int32))]))) (fun u k => XS.goto X6.here hx rfl (pc0 := 54) (pc' := 58) rfl (hb hby at_54) (by decide) (by decide) k) ?_
  refine Go.back (t' := (T6.setTop (mkF m 59 #[.val (.int p0), .val (.int p1), .val (.int (1 : Int32)), .val (.int near)] []))) (fun u k => XS.istoreN X6.here hx rfl (hb hby at_58) rfl (l' := #[.val (.int p0), .val (.int p1), .val (.int (1 : Int32)), .val (.int near)]) rfl k) ?_
  refine Go.back (t' := (T6.setTop (mkF m 60 #[.val (.int p0), .val (.int p1), .val (.int (1 : Int32)), .val (.int near)] [(.int (1 : Int32))]))) (fun u k => XS.iloadN X6.here hx rfl (hb hby at_59) rfl k) ?_
  refine Go.back (t' := (T6.setTop (mkF m 63 #[.val (.int p0), .val (.int p1), .val (.int (1 : Int32)), .val (.int near)] []))) (fun u k => XS.ifNo X6.here hx rfl (hb hby at_60) rfl (XT.i0_eq_f (by decide)) k) ?_
  refine Go.back (t' := (T6.setTop (mkF m 64 #[.val (.int p0), .val (.int p1), .val (.int (1 : Int32)), .val (.int near)] [(.int (0 : Int32))]))) (fun u k => XT.iconstV X6.here hx rfl (0 : Int32) (hb hby at_63) (by decide) k) ?_
  obtain ⟨_, _, ⟨T7, L7, k7, n7⟩, -, X7, ⟨Lc7, hQ7, l7, y7, z7⟩, st7⟩ := Jvm.LawKit.callS X6 hx (y := (⟨"org/latchkeep/io/Identifiers", "isLength", "(I)Z"⟩ : MethodName)) hown (mvT hZ (hw _ (List.mem_of_getElem? (i := 0) rfl))) (mvT hZ (hw _ (List.mem_of_getElem? (i := 1) rfl))) (mvT hZ (hw _ (List.mem_of_getElem? (i := 2) rfl))) (mvT hZ (hw _ (List.mem_of_getElem? (i := 3) rfl))) (by decide) (backOf (W := 0) (own_isLen l Z a0 hw [] (0 : Int32) h0 n0 Z0 ) hZ (hw _ (List.mem_of_getElem? (i := 3) rfl)) (hw _ (List.mem_of_getElem? (i := 2) rfl)) (by decide) (by decide)) (g := (mkF m 64 #[.val (.int p0), .val (.int p1), .val (.int (1 : Int32)), .val (.int near)] [(.int (0 : Int32))])) rfl (by rw [hml]; rfl) (argsL := [(.int (0 : Int32))]) (rest := []) (lenOf own_pd0 rfl) rfl (by show 2 * 0 + _ ≤ _; exact Nat.le_of_eq rfl) (hb hby at_64) (fun _ _ => ⟨rfl, e6, (by decide : 0 + 0 ≤ _), (by decide : 0 + 0 ≤ _)⟩)
  dsimp only [Pt.U, Pt.locs, Pt.cells, Pt.slots] at X7 l7 y7 z7 st7 hQ7
  subst l7 y7 z7
  obtain ⟨rfl, N7, e7⟩ := hQ7
  have NA7 := Fr.app NA6 N7
  refine Go.back (t' := (T7.setTop (mkF m 67 #[.val (.int p0), .val (.int p1), .val (.int (1 : Int32)), .val (.int near)] [(.int (F_own_isLen (0 : Int32)))]))) st7 ?_
  refine Go.back (t' := (T7.setTop (mkF m 70 #[.val (.int p0), .val (.int p1), .val (.int (1 : Int32)), .val (.int near)] []))) (fun u k => XS.ifNo X7.here hx rfl (hb hby at_67) rfl (XT.i0_ne_f (by decide)) k) ?_
  refine Go.back (t' := (T7.setTop (mkF m 71 #[.val (.int p0), .val (.int p1), .val (.int (1 : Int32)), .val (.int near)] [(.int (1 : Int32))]))) (fun u k => XT.iconstV X7.here hx rfl (1 : Int32) (hb hby at_70) (by decide) k) ?_
  refine Go.back (t' := (T7.setTop (mkF m 75 #[.val (.int p0), .val (.int p1), .val (.int (1 : Int32)), .val (.int near)] [(.int (1 : Int32))]))) (fun u k => XS.goto X7.here hx rfl (pc0 := 71) (pc' := 75) rfl (hb hby at_71) (by decide) (by decide) k) ?_
  refine Go.back (t' := (T7.setTop (mkF m 76 #[.val (.int p0), .val (.int p1), .val (.int (1 : Int32)), .val (.int near)] []))) (fun u k => XS.istoreN X7.here hx rfl (hb hby at_75) rfl (l' := #[.val (.int p0), .val (.int p1), .val (.int (1 : Int32)), .val (.int near)]) rfl k) ?_
  refine Go.back (t' := (T7.setTop (mkF m 77 #[.val (.int p0), .val (.int p1), .val (.int (1 : Int32)), .val (.int near)] [(.int (1 : Int32))]))) (fun u k => XS.iloadN X7.here hx rfl (hb hby at_76) rfl k) ?_
  refine Go.back (t' := (T7.setTop (mkF m 80 #[.val (.int p0), .val (.int p1), .val (.int (1 : Int32)), .val (.int near)] []))) (fun u k => XS.ifNo X7.here hx rfl (hb hby at_77) rfl (XT.i0_eq_f (by decide)) k) ?_
  refine Go.back (t' := (T7.setTop (mkF m 81 #[.val (.int p0), .val (.int p1), .val (.int (1 : Int32)), .val (.int near)] [(.int (1 : Int32))]))) (fun u k => XT.iconstV X7.here hx rfl (1 : Int32) (hb hby at_80) (by decide) k) ?_
  obtain ⟨_, _, ⟨T8, L8, k8, n8⟩, -, X8, ⟨Lc8, hQ8, l8, y8, z8⟩, st8⟩ := Jvm.LawKit.callS X7 hx (y := (⟨"org/latchkeep/io/Identifiers", "isLength", "(I)Z"⟩ : MethodName)) hown (mvT hZ (hw _ (List.mem_of_getElem? (i := 0) rfl))) (mvT hZ (hw _ (List.mem_of_getElem? (i := 1) rfl))) (mvT hZ (hw _ (List.mem_of_getElem? (i := 2) rfl))) (mvT hZ (hw _ (List.mem_of_getElem? (i := 3) rfl))) (by decide) (backOf (W := 0) (own_isLen l Z a0 hw [] (1 : Int32) h0 n0 Z0 ) hZ (hw _ (List.mem_of_getElem? (i := 3) rfl)) (hw _ (List.mem_of_getElem? (i := 2) rfl)) (by decide) (by decide)) (g := (mkF m 81 #[.val (.int p0), .val (.int p1), .val (.int (1 : Int32)), .val (.int near)] [(.int (1 : Int32))])) rfl (by rw [hml]; rfl) (argsL := [(.int (1 : Int32))]) (rest := []) (lenOf own_pd0 rfl) rfl (by show 2 * 0 + _ ≤ _; exact Nat.le_of_eq rfl) (hb hby at_81) (fun _ _ => ⟨rfl, e7, (by decide : 0 + 0 ≤ _), (by decide : 0 + 0 ≤ _)⟩)
  dsimp only [Pt.U, Pt.locs, Pt.cells, Pt.slots] at X8 l8 y8 z8 st8 hQ8
  subst l8 y8 z8
  obtain ⟨rfl, N8, e8⟩ := hQ8
  have NA8 := Fr.app NA7 N8
  refine Go.back (t' := (T8.setTop (mkF m 84 #[.val (.int p0), .val (.int p1), .val (.int (1 : Int32)), .val (.int near)] [(.int (F_own_isLen (1 : Int32)))]))) st8 ?_
  refine Go.back (t' := (T8.setTop (mkF m 87 #[.val (.int p0), .val (.int p1), .val (.int (1 : Int32)), .val (.int near)] []))) (fun u k => XS.ifNo X8.here hx rfl (hb hby at_84) rfl (XT.i0_eq_f (by decide)) k) ?_
  refine Go.back (t' := (T8.setTop (mkF m 88 #[.val (.int p0), .val (.int p1), .val (.int (1 : Int32)), .val (.int near)] [(.int (1 : Int32))]))) (fun u k => XT.iconstV X8.here hx rfl (1 : Int32) (hb hby at_87) (by decide) k) ?_
  refine Go.back (t' := (T8.setTop (mkF m 92 #[.val (.int p0), .val (.int p1), .val (.int (1 : Int32)), .val (.int near)] [(.int (1 : Int32))]))) (fun u k => XS.goto X8.here hx rfl (pc0 := 88) (pc' := 92) rfl (hb hby at_88) (by decide) (by decide) k) ?_
  refine Go.back (t' := (T8.setTop (mkF m 93 #[.val (.int p0), .val (.int p1), .val (.int (1 : Int32)), .val (.int near)] []))) (fun u k => XS.istoreN X8.here hx rfl (hb hby at_92) rfl (l' := #[.val (.int p0), .val (.int p1), .val (.int (1 : Int32)), .val (.int near)]) rfl k) ?_
  refine Go.back (t' := (T8.setTop (mkF m 94 #[.val (.int p0), .val (.int p1), .val (.int (1 : Int32)), .val (.int near)] [(.int (1 : Int32))]))) (fun u k => XS.iloadN X8.here hx rfl (hb hby at_93) rfl k) ?_
  refine Go.back (t' := (T8.setTop (mkF m 97 #[.val (.int p0), .val (.int p1), .val (.int (1 : Int32)), .val (.int near)] []))) (fun u k => XS.ifNo X8.here hx rfl (hb hby at_94) rfl (XT.i0_eq_f (by decide)) k) ?_
  refine Go.back (t' := (T8.setTop (mkF m 100 #[.val (.int p0), .val (.int p1), .val (.int (1 : Int32)), .val (.int near)] [(.int (256 : Int32))]))) (fun u k => XT.sipushV X8.here hx rfl (256 : Int32) (hb hby at_97) (by decide) k) ?_
  obtain ⟨_, _, ⟨T9, L9, k9, n9⟩, -, X9, ⟨Lc9, hQ9, l9, y9, z9⟩, st9⟩ := Jvm.LawKit.callS X8 hx (y := (⟨"org/latchkeep/io/Identifiers", "isLength", "(I)Z"⟩ : MethodName)) hown (mvT hZ (hw _ (List.mem_of_getElem? (i := 0) rfl))) (mvT hZ (hw _ (List.mem_of_getElem? (i := 1) rfl))) (mvT hZ (hw _ (List.mem_of_getElem? (i := 2) rfl))) (mvT hZ (hw _ (List.mem_of_getElem? (i := 3) rfl))) (by decide) (backOf (W := 0) (own_isLen l Z a0 hw [] (256 : Int32) h0 n0 Z0 ) hZ (hw _ (List.mem_of_getElem? (i := 3) rfl)) (hw _ (List.mem_of_getElem? (i := 2) rfl)) (by decide) (by decide)) (g := (mkF m 100 #[.val (.int p0), .val (.int p1), .val (.int (1 : Int32)), .val (.int near)] [(.int (256 : Int32))])) rfl (by rw [hml]; rfl) (argsL := [(.int (256 : Int32))]) (rest := []) (lenOf own_pd0 rfl) rfl (by show 2 * 0 + _ ≤ _; exact Nat.le_of_eq rfl) (hb hby at_100) (fun _ _ => ⟨rfl, e8, (by decide : 0 + 0 ≤ _), (by decide : 0 + 0 ≤ _)⟩)
  dsimp only [Pt.U, Pt.locs, Pt.cells, Pt.slots] at X9 l9 y9 z9 st9 hQ9
  subst l9 y9 z9
  obtain ⟨rfl, N9, e9⟩ := hQ9
  have NA9 := Fr.app NA8 N9
  refine Go.back (t' := (T9.setTop (mkF m 103 #[.val (.int p0), .val (.int p1), .val (.int (1 : Int32)), .val (.int near)] [(.int (F_own_isLen (256 : Int32)))]))) st9 ?_
  refine Go.back (t' := (T9.setTop (mkF m 106 #[.val (.int p0), .val (.int p1), .val (.int (1 : Int32)), .val (.int near)] []))) (fun u k => XS.ifNo X9.here hx rfl (hb hby at_103) rfl (XT.i0_eq_f (by decide)) k) ?_
  refine Go.back (t' := (T9.setTop (mkF m 107 #[.val (.int p0), .val (.int p1), .val (.int (1 : Int32)), .val (.int near)] [(.int (1 : Int32))]))) (fun u k => XT.iconstV X9.here hx rfl (1 : Int32) (hb hby at_106) (by decide) k) ?_
  refine Go.back (t' := (T9.setTop (mkF m 111 #[.val (.int p0), .val (.int p1), .val (.int (1 : Int32)), .val (.int near)] [(.int (1 : Int32))]))) (fun u k => XS.goto X9.here hx rfl (pc0 := 107) (pc' := 111) rfl (hb hby at_107) (by decide) (by decide) k) ?_
  refine Go.back (t' := (T9.setTop (mkF m 112 #[.val (.int p0), .val (.int p1), .val (.int (1 : Int32)), .val (.int near)] []))) (fun u k => XS.istoreN X9.here hx rfl (hb hby at_111) rfl (l' := #[.val (.int p0), .val (.int p1), .val (.int (1 : Int32)), .val (.int near)]) rfl k) ?_
  refine Go.back (t' := (T9.setTop (mkF m 113 #[.val (.int p0), .val (.int p1), .val (.int (1 : Int32)), .val (.int near)] [(.int (1 : Int32))]))) (fun u k => XS.iloadN X9.here hx rfl (hb hby at_112) rfl k) ?_
  refine Go.back (t' := (T9.setTop (mkF m 116 #[.val (.int p0), .val (.int p1), .val (.int (1 : Int32)), .val (.int near)] []))) (fun u k => XS.ifNo X9.here hx rfl (hb hby at_113) rfl (XT.i0_eq_f (by decide)) k) ?_
  refine Go.back (t' := (T9.setTop (mkF m 119 #[.val (.int p0), .val (.int p1), .val (.int (1 : Int32)), .val (.int near)] [(.int (257 : Int32))]))) (fun u k => XT.sipushV X9.here hx rfl (257 : Int32) (hb hby at_116) (by decide) k) ?_
  obtain ⟨_, _, ⟨T10, L10, k10, n10⟩, -, X10, ⟨Lc10, hQ10, l10, y10, z10⟩, st10⟩ := Jvm.LawKit.callS X9 hx (y := (⟨"org/latchkeep/io/Identifiers", "isLength", "(I)Z"⟩ : MethodName)) hown (mvT hZ (hw _ (List.mem_of_getElem? (i := 0) rfl))) (mvT hZ (hw _ (List.mem_of_getElem? (i := 1) rfl))) (mvT hZ (hw _ (List.mem_of_getElem? (i := 2) rfl))) (mvT hZ (hw _ (List.mem_of_getElem? (i := 3) rfl))) (by decide) (backOf (W := 0) (own_isLen l Z a0 hw [] (257 : Int32) h0 n0 Z0 ) hZ (hw _ (List.mem_of_getElem? (i := 3) rfl)) (hw _ (List.mem_of_getElem? (i := 2) rfl)) (by decide) (by decide)) (g := (mkF m 119 #[.val (.int p0), .val (.int p1), .val (.int (1 : Int32)), .val (.int near)] [(.int (257 : Int32))])) rfl (by rw [hml]; rfl) (argsL := [(.int (257 : Int32))]) (rest := []) (lenOf own_pd0 rfl) rfl (by show 2 * 0 + _ ≤ _; exact Nat.le_of_eq rfl) (hb hby at_119) (fun _ _ => ⟨rfl, e9, (by decide : 0 + 0 ≤ _), (by decide : 0 + 0 ≤ _)⟩)
  dsimp only [Pt.U, Pt.locs, Pt.cells, Pt.slots] at X10 l10 y10 z10 st10 hQ10
  subst l10 y10 z10
  obtain ⟨rfl, N10, e10⟩ := hQ10
  have NA10 := Fr.app NA9 N10
  refine Go.back (t' := (T10.setTop (mkF m 122 #[.val (.int p0), .val (.int p1), .val (.int (1 : Int32)), .val (.int near)] [(.int (F_own_isLen (257 : Int32)))]))) st10 ?_
  refine Go.back (t' := (T10.setTop (mkF m 125 #[.val (.int p0), .val (.int p1), .val (.int (1 : Int32)), .val (.int near)] []))) (fun u k => XS.ifNo X10.here hx rfl (hb hby at_122) rfl (XT.i0_ne_f (by decide)) k) ?_
  refine Go.back (t' := (T10.setTop (mkF m 126 #[.val (.int p0), .val (.int p1), .val (.int (1 : Int32)), .val (.int near)] [(.int (1 : Int32))]))) (fun u k => XT.iconstV X10.here hx rfl (1 : Int32) (hb hby at_125) (by decide) k) ?_
  refine Go.back (t' := (T10.setTop (mkF m 130 #[.val (.int p0), .val (.int p1), .val (.int (1 : Int32)), .val (.int near)] [(.int (1 : Int32))]))) (fun u k => XS.goto X10.here hx rfl (pc0 := 126) (pc' := 130) rfl (hb hby at_126) (by decide) (by decide) k) ?_
  refine Go.back (t' := (T10.setTop (mkF m 131 #[.val (.int p0), .val (.int p1), .val (.int (1 : Int32)), .val (.int near)] []))) (fun u k => XS.istoreN X10.here hx rfl (hb hby at_130) rfl (l' := #[.val (.int p0), .val (.int p1), .val (.int (1 : Int32)), .val (.int near)]) rfl k) ?_
  refine Go.back (t' := (T10.setTop (mkF m 132 #[.val (.int p0), .val (.int p1), .val (.int (1 : Int32)), .val (.int near)] [(.int (1 : Int32))]))) (fun u k => XS.iloadN X10.here hx rfl (hb hby at_131) rfl k) ?_
  refine Go.back (t' := (T10.setTop (mkF m 135 #[.val (.int p0), .val (.int p1), .val (.int (1 : Int32)), .val (.int near)] []))) (fun u k => XS.ifNo X10.here hx rfl (hb hby at_132) rfl (XT.i0_eq_f (by decide)) k) ?_
  refine Go.back (t' := (T10.setTop (mkF m 137 #[.val (.int p0), .val (.int p1), .val (.int (1 : Int32)), .val (.int near)] [(.int (-2147483648 : Int32))]))) (fun u k => X10.ldcI hx hown (mvT hZ (hw _ (List.mem_of_getElem? (i := 8) rfl))) rfl (hb hby at_135) k) ?_
  obtain ⟨_, _, ⟨T11, L11, k11, n11⟩, -, X11, ⟨Lc11, hQ11, l11, y11, z11⟩, st11⟩ := Jvm.LawKit.callS X10 hx (y := (⟨"org/latchkeep/io/Identifiers", "isLength", "(I)Z"⟩ : MethodName)) hown (mvT hZ (hw _ (List.mem_of_getElem? (i := 0) rfl))) (mvT hZ (hw _ (List.mem_of_getElem? (i := 1) rfl))) (mvT hZ (hw _ (List.mem_of_getElem? (i := 2) rfl))) (mvT hZ (hw _ (List.mem_of_getElem? (i := 3) rfl))) (by decide) (backOf (W := 0) (own_isLen l Z a0 hw [] (-2147483648 : Int32) h0 n0 Z0 ) hZ (hw _ (List.mem_of_getElem? (i := 3) rfl)) (hw _ (List.mem_of_getElem? (i := 2) rfl)) (by decide) (by decide)) (g := (mkF m 137 #[.val (.int p0), .val (.int p1), .val (.int (1 : Int32)), .val (.int near)] [(.int (-2147483648 : Int32))])) rfl (by rw [hml]; rfl) (argsL := [(.int (-2147483648 : Int32))]) (rest := []) (lenOf own_pd0 rfl) rfl (by show 2 * 0 + _ ≤ _; exact Nat.le_of_eq rfl) (hb hby at_137) (fun _ _ => ⟨rfl, e10, (by decide : 0 + 0 ≤ _), (by decide : 0 + 0 ≤ _)⟩)
  dsimp only [Pt.U, Pt.locs, Pt.cells, Pt.slots] at X11 l11 y11 z11 st11 hQ11
  subst l11 y11 z11
  obtain ⟨rfl, N11, e11⟩ := hQ11
  have NA11 := Fr.app NA10 N11
  refine Go.back (t' := (T11.setTop (mkF m 140 #[.val (.int p0), .val (.int p1), .val (.int (1 : Int32)), .val (.int near)] [(.int (F_own_isLen (-2147483648 : Int32)))]))) st11 ?_
  refine Go.back (t' := (T11.setTop (mkF m 143 #[.val (.int p0), .val (.int p1), .val (.int (1 : Int32)), .val (.int near)] []))) (fun u k => XS.ifNo X11.here hx rfl (hb hby at_140) rfl (XT.i0_ne_f (by decide)) k) ?_
  refine Go.back (t' := (T11.setTop (mkF m 144 #[.val (.int p0), .val (.int p1), .val (.int (1 : Int32)), .val (.int near)] [(.int (1 : Int32))]))) (fun u k => XT.iconstV X11.here hx rfl (1 : Int32) (hb hby at_143) (by decide) k) ?_
  refine Go.back (t' := (T11.setTop (mkF m 148 #[.val (.int p0), .val (.int p1), .val (.int (1 : Int32)), .val (.int near)] [(.int (1 : Int32))]))) (fun u k => XS.goto X11.here hx rfl (pc0 := 144) (pc' := 148) rfl (hb hby at_144) (by decide) (by decide) k) ?_
  refine Go.back (t' := (T11.setTop (mkF m 149 #[.val (.int p0), .val (.int p1), .val (.int (1 : Int32)), .val (.int near)] []))) (fun u k => XS.istoreN X11.here hx rfl (hb hby at_148) rfl (l' := #[.val (.int p0), .val (.int p1), .val (.int (1 : Int32)), .val (.int near)]) rfl k) ?_
  refine Go.back (t' := (T11.setTop (mkF m 150 #[.val (.int p0), .val (.int p1), .val (.int (1 : Int32)), .val (.int near)] [(.int (1 : Int32))]))) (fun u k => XS.iloadN X11.here hx rfl (hb hby at_149) rfl k) ?_
  refine Go.back (t' := (T11.setTop (mkF m 153 #[.val (.int p0), .val (.int p1), .val (.int (1 : Int32)), .val (.int near)] []))) (fun u k => XS.ifNo X11.here hx rfl (hb hby at_150) rfl (XT.i0_eq_f (by decide)) k) ?_
  refine Go.back (t' := (T11.setTop (mkF m 155 #[.val (.int p0), .val (.int p1), .val (.int (1 : Int32)), .val (.int near)] [(.int (2147483647 : Int32))]))) (fun u k => X11.ldcI hx hown (mvT hZ (hw _ (List.mem_of_getElem? (i := 9) rfl))) rfl (hb hby at_153) k) ?_
  obtain ⟨_, _, ⟨T12, L12, k12, n12⟩, -, X12, ⟨Lc12, hQ12, l12, y12, z12⟩, st12⟩ := Jvm.LawKit.callS X11 hx (y := (⟨"org/latchkeep/io/Identifiers", "isLength", "(I)Z"⟩ : MethodName)) hown (mvT hZ (hw _ (List.mem_of_getElem? (i := 0) rfl))) (mvT hZ (hw _ (List.mem_of_getElem? (i := 1) rfl))) (mvT hZ (hw _ (List.mem_of_getElem? (i := 2) rfl))) (mvT hZ (hw _ (List.mem_of_getElem? (i := 3) rfl))) (by decide) (backOf (W := 0) (own_isLen l Z a0 hw [] (2147483647 : Int32) h0 n0 Z0 ) hZ (hw _ (List.mem_of_getElem? (i := 3) rfl)) (hw _ (List.mem_of_getElem? (i := 2) rfl)) (by decide) (by decide)) (g := (mkF m 155 #[.val (.int p0), .val (.int p1), .val (.int (1 : Int32)), .val (.int near)] [(.int (2147483647 : Int32))])) rfl (by rw [hml]; rfl) (argsL := [(.int (2147483647 : Int32))]) (rest := []) (lenOf own_pd0 rfl) rfl (by show 2 * 0 + _ ≤ _; exact Nat.le_of_eq rfl) (hb hby at_155) (fun _ _ => ⟨rfl, e11, (by decide : 0 + 0 ≤ _), (by decide : 0 + 0 ≤ _)⟩)
  dsimp only [Pt.U, Pt.locs, Pt.cells, Pt.slots] at X12 l12 y12 z12 st12 hQ12
  subst l12 y12 z12
  obtain ⟨rfl, N12, e12⟩ := hQ12
  have NA12 := Fr.app NA11 N12
  refine Go.back (t' := (T12.setTop (mkF m 158 #[.val (.int p0), .val (.int p1), .val (.int (1 : Int32)), .val (.int near)] [(.int (F_own_isLen (2147483647 : Int32)))]))) st12 ?_
  refine Go.back (t' := (T12.setTop (mkF m 161 #[.val (.int p0), .val (.int p1), .val (.int (1 : Int32)), .val (.int near)] []))) (fun u k => XS.ifNo X12.here hx rfl (hb hby at_158) rfl (XT.i0_ne_f (by decide)) k) ?_
  refine Go.back (t' := (T12.setTop (mkF m 162 #[.val (.int p0), .val (.int p1), .val (.int (1 : Int32)), .val (.int near)] [(.int (1 : Int32))]))) (fun u k => XT.iconstV X12.here hx rfl (1 : Int32) (hb hby at_161) (by decide) k) ?_
  refine Go.back (t' := (T12.setTop (mkF m 166 #[.val (.int p0), .val (.int p1), .val (.int (1 : Int32)), .val (.int near)] [(.int (1 : Int32))]))) (fun u k => XS.goto X12.here hx rfl (pc0 := 162) (pc' := 166) rfl (hb hby at_162) (by decide) (by decide) k) ?_
  refine Go.back (t' := (T12.setTop (mkF m 167 #[.val (.int p0), .val (.int p1), .val (.int (1 : Int32)), .val (.int near)] []))) (fun u k => XS.istoreN X12.here hx rfl (hb hby at_166) rfl (l' := #[.val (.int p0), .val (.int p1), .val (.int (1 : Int32)), .val (.int near)]) rfl k) ?_
  refine Go.back (t' := (T12.setTop (mkF m 168 #[.val (.int p0), .val (.int p1), .val (.int (1 : Int32)), .val (.int near)] [(.int (1 : Int32))]))) (fun u k => XS.iloadN X12.here hx rfl (hb hby at_167) rfl k) ?_
  obtain ⟨fs, hr, hrun, hended, hW, hsame⟩ := X12.leave (v := some (.int (1 : Int32))) (fun h => by rw [Bd.returns] at h; cases h)
  refine ⟨_, _, retN X12 hx (t := .boolean) Bd.returns (by simp) (hb hby at_168) hr, hrun, hended, _, _, rfl, ?_, ⟨_, rfl⟩, hW, hsame.mono (by decide) (by decide)⟩
  show Q_own_law0 Z p0 p1 h0 n0 _ T12.heap _
  rw [e12]
  exact ⟨rfl, NA12, rfl⟩
set_option maxRecDepth 65536 in
set_option maxHeartbeats 40000000 in
theorem own_comes {Post : Tables → Env → Array Value → State → Outcome → State → Prop} (hpost : ∀ tb e args s v u, (limb_1_1.after args s (.returned v) u = true ∧ limb_1_2.after args s (.returned v) u = true ∧ True) → FrameEnd s (.returned v) u (Jvm.fieldLocs frame_1_writes args s ++ Jvm.arrayLocs frame_1_arrays args s ++ Jvm.staticLocs frame_1_statics s) 0 0 → Post tb e args s (.returned v) u) :
    ArmFor flags0 classFile x code maxLocals ret World_1 tables_1 room_1 Calls_1 rest_1 Pre_1 Post := by
  intro l hfl _ _ p e ha hc hk s m args below hf hA hF happ hP
  obtain ⟨hcalls, hrest, hpre⟩ := hP
  obtain ⟨-, -, -, hnamed, -, -, -, hat⟩ := (Spec.applies_iff hf).mp happ
  obtain ⟨hg, hn⟩ := and_e (Cond.before_iff.mp (show (Jvm.Cond.and given_1 narrow_1).before args s = true from hpre))
  obtain ⟨hg1, hg2⟩ := and_e hg
  obtain ⟨hg3, hg4⟩ := and_e hg2
  obtain ⟨w0, w1, rfl⟩ : ∃ w0 w1 : Value, args = #[w0, w1] := by
    have hs : args.size = 2 := by simpa [Cond.value, given_1] using hg1
    obtain ⟨L⟩ := args
    match L, hs with
    | [w0, w1], _ => exact ⟨w0, w1, rfl⟩
  have hw := fun d (hd : d ∈ tables_1) => atoms_spec (ws := Jvm.Cond.code x code maxLocals ret :: tables_1) hat d (List.mem_cons_of_mem _ hd)
  have hfit : Fit s := fun {y c} hc i hi => by
    obtain ⟨ha, rfl⟩ := Array.getElem?_eq_some_iff.mp hc
    have q := List.all_eq_true.mp ((Array.all_eq_true_iff_forall_mem.mp hF) _ (Array.getElem_mem ha)) i (List.mem_range.mpr hi)
    simpa [Array.getElem?_eq_getElem hi] using q
  obtain ⟨i0, ei0⟩ := is_v hg3
  obtain rfl : w0 = (.int i0) := Option.some.inj ei0
  obtain ⟨i1, ei1⟩ := is_v hg4
  obtain rfl : w1 = (.int i1) := Option.some.inj ei1
  obtain ⟨n, o, h1, h2, h3, _, L, rfl, ⟨rfl, N, -⟩, hq⟩ := own_law0 l s _ hw tables_1 i0 i1  s.heap s.heap.size (Nat.le_refl _)  p e ha hc hk s m _ below hf ((Spec.applies_iff_loose hf).mp happ).1 ⟨rfl, State.Warmed39.refl s, rfl⟩ trivial
  refine ⟨n, _, h1, h2, h3, hpost _ _ _ _ _ _ ⟨Cond.after_iff.mpr rfl, Cond.after_iff.mpr (eq_i res_at (Term.int_eval (1)) rfl), trivial⟩ ⟨hq.1, hq.2.1, (hq.2.2.sift fun y hy => Or.inr (N y hy)).mono (by decide) (by decide)⟩⟩
theorem main_1_1 : Claimed_1_1 := own_comes fun _ _ _ _ _ _ h hF => ⟨h.1, hF⟩
theorem main_1_2 : Claimed_1_2 := own_comes fun _ _ _ _ _ _ h hF => ⟨h.2.1, hF⟩
end Jvm.Pilot.@@N@@
namespace Jvm.Pilot.@@N@@
open Jvm Jvm.ClassFile Sem Op Lib Jvm.Free Jvm.Stand Jvm.Pilot.@@N@@.Jvm.D
/-! MADE BY PROGRAM (witnessworld.py) out of the Statement's table words and the real class files: 9 classes; the members and pool entries that the words name. The judged class is class 1, her method 2. -/
namespace start1
open Jvm.ClassFile
def u (s : String) : CpInfo := .utf8 (stringToUtf16 s)
/-- a pool by its gaps: so many unusable entries, then the entry; so many at the end -/
def gap : Nat → List CpInfo → List CpInfo
  | 0, r => r
  | n + 1, r => .unusable :: gap n r
def poolList (es : List (Nat × CpInfo)) (last : Nat) : List CpInfo := es.foldr (fun e r => gap e.1 (e.2 :: r)) (gap last [])
def pool (es : List (Nat × CpInfo)) (last : Nat) : Array CpInfo := ⟨poolList es last⟩
def fileOf (pool : Array CpInfo) (this : Nat) (attrs : Array Attribute := #[]) (ms : Array MethodInfo := #[]) (fl : Nat := 33) (sup : Nat := 0) (ifs : Array Nat := #[]) (fds : Array FieldInfo := #[]) : ClassFile where
  minorVersion := 0
  majorVersion := 65
  constantPool := pool
  accessFlags := fl
  thisClass := this
  superClass := sup
  interfaces := ifs
  fields := fds
  methods := ms
  attributes := attrs
def plain (name : String) (sup : Option ClassId) : Class where
  name := name
  kind := .ordinary
  loader := none
  accessFlags := 33
  super := sup
  interfaces := #[]
  cf := none
  fields := #[]
  methods := #[]
  instanceTypes := #[]
  staticTypes := #[]
  resolved := #[]
  callSites := []
  init := .initialized
  statics := none
  mirror := none

def pool0 : Array CpInfo := pool [(5, u "<init>"), (0, u "()V"), (1, .class_ 10), (1, u "java/lang/Object")] 113

def k0m0 : Method := { name := "<init>", desc := "()V", sig := { parameters := [], returnType := none }, accessFlags := 1, code := none }
/-- java/lang/Object -/
def k0 : Class := { plain "java/lang/Object" none with
  accessFlags := 33
  interfaces := #[]
  cf := some (fileOf pool0 8 #[] #[{ accessFlags := 1, nameIndex := 5, descriptorIndex := 6, attributes := #[] }] 33 0 #[] #[])
  fields := #[]
  methods := #[k0m0]
  instanceTypes := #[]
  staticTypes := #[]
  resolved := Array.replicate 124 none
  statics := none }

def pool1 : Array CpInfo := pool [(2, .class_ 4), (1, u "java/lang/Object"), (0, u "<init>"), (0, u "()V"), (0, .methodref 8 9), (0, .class_ 10), (0, .nameAndType 11 12), (0, u "org/latchkeep/io/Identifiers"), (0, u "isLength"), (0, u "(I)Z"), (0, .methodref 14 15), (0, .class_ 16), (0, .nameAndType 17 12), (0, u "org/latchkeep/io/IdentifiersIsLengthPinLaw"), (0, u "ref"), (2, .integer 2147483648), (0, .integer 2147483647), (3, u "law"), (0, u "(II)Z")] 2

def k1m0 : Method := { name := "<init>", desc := "()V", sig := { parameters := [], returnType := none }, accessFlags := 2, code := none }
def k1c1 : Code := { maxStack := 2, maxLocals := 1, code := method_2_code, exceptionTable := #[], attributes := #[] }
def k1m1 : Method := { name := "ref", desc := "(I)Z", sig := { parameters := [.int], returnType := some .boolean }, accessFlags := 10, code := some k1c1 }
def k1c2 : Code := { maxStack := 3, maxLocals := 4, code := code, exceptionTable := #[], attributes := #[] }
def k1m2 : Method := { name := "law", desc := "(II)Z", sig := { parameters := [.int, .int], returnType := some .boolean }, accessFlags := 9, code := some k1c2 }
/-- org/latchkeep/io/IdentifiersIsLengthPinLaw -/
def k1 : Class := { plain "org/latchkeep/io/IdentifiersIsLengthPinLaw" (some 0) with
  accessFlags := 49
  interfaces := #[]
  cf := some (fileOf pool1 14 #[] #[{ accessFlags := 2, nameIndex := 5, descriptorIndex := 6, attributes := #[] }, { accessFlags := 10, nameIndex := 17, descriptorIndex := 12, attributes := #[] }, { accessFlags := 9, nameIndex := 25, descriptorIndex := 26, attributes := #[] }] 49 2 #[] #[])
  fields := #[]
  methods := #[k1m0, k1m1, k1m2]
  instanceTypes := #[]
  staticTypes := #[]
  resolved := Array.replicate 29 none
  statics := none }

def pool2 : Array CpInfo := pool [(1, .class_ 2), (0, u "org/latchkeep/io/Identifiers"), (1, .class_ 6), (1, u "java/lang/Object"), (0, u "<init>"), (0, u "()V"), (0, u "MAX_BYTES"), (0, u "I"), (2, u "LENGTH"), (0, u "Ljava/lang/String;"), (4, u "isLength"), (0, u "(I)Z")] 3

def k2m0 : Method := { name := "<init>", desc := "()V", sig := { parameters := [], returnType := none }, accessFlags := 2, code := none }
def k2c1 : Code := { maxStack := 2, maxLocals := 1, code := prog_39_method_2_code, exceptionTable := #[], attributes := #[] }
def k2m1 : Method := { name := "isLength", desc := "(I)Z", sig := { parameters := [.int], returnType := some .boolean }, accessFlags := 9, code := some k2c1 }
/-- org/latchkeep/io/Identifiers -/
def k2 : Class := { plain "org/latchkeep/io/Identifiers" (some 0) with
  accessFlags := 49
  interfaces := #[]
  cf := some (fileOf pool2 1 #[] #[{ accessFlags := 2, nameIndex := 7, descriptorIndex := 8, attributes := #[] }, { accessFlags := 9, nameIndex := 19, descriptorIndex := 20, attributes := #[] }] 49 4 #[] #[{ accessFlags := 25, nameIndex := 9, descriptorIndex := 10, attributes := #[] }, { accessFlags := 25, nameIndex := 13, descriptorIndex := 14, attributes := #[] }])
  fields := #[{ name := "MAX_BYTES", type := .int, accessFlags := 25, slot := 0, constantValue := 0 }, { name := "LENGTH", type := (.object "java/lang/String"), accessFlags := 25, slot := 1, constantValue := 0 }]
  methods := #[k2m0, k2m1]
  instanceTypes := #[]
  staticTypes := #[.int, (.object "java/lang/String")]
  resolved := Array.replicate 24 none
  statics := none }

def pool3 : Array CpInfo := pool [(1, u "java/lang/Cloneable"), (0, .class_ 1), (0, u "java/lang/Object"), (0, .class_ 3)] 3

/-- java/lang/Cloneable -/
def k3 : Class := { plain "java/lang/Cloneable" (some 0) with
  accessFlags := 1537
  interfaces := #[]
  cf := some (fileOf pool3 2 #[] #[] 1537 4 #[] #[])
  fields := #[]
  methods := #[]
  instanceTypes := #[]
  staticTypes := #[]
  resolved := Array.replicate 8 none
  statics := none }

def pool4 : Array CpInfo := pool [(1, u "java/io/Serializable"), (0, .class_ 1), (0, u "java/lang/Object"), (0, .class_ 3)] 3

/-- java/io/Serializable -/
def k4 : Class := { plain "java/io/Serializable" (some 0) with
  accessFlags := 1537
  interfaces := #[]
  cf := some (fileOf pool4 2 #[] #[] 1537 4 #[] #[])
  fields := #[]
  methods := #[]
  instanceTypes := #[]
  staticTypes := #[]
  resolved := Array.replicate 8 none
  statics := none }

/-- the primitive byte -/
def k5 : Class := { plain "byte" none with kind := .primitive 'B', accessFlags := 0x411 }
/-- [B -/
def k6 : Class := { plain "[B" (some 0) with kind := .array 5 .byte, interfaces := #[3, 4], accessFlags := 1041 }

/-- the primitive int -/
def k7 : Class := { plain "int" none with kind := .primitive 'I', accessFlags := 0x411 }
/-- [I -/
def k8 : Class := { plain "[I" (some 0) with kind := .array 7 .int, interfaces := #[3, 4], accessFlags := 1041 }

def heap : Heap := #[]
def classes : Array Class := #[k0, k1, k2, k3, k4, k5, k6, k7, k8]
def interned : List (Array UInt16 × Addr) := []
def slotsUsed : Nat := 0
def theMethod : MethodId := ⟨1, 2⟩
def args0 : Array Value := #[.int 5, .int 9]
def aboutOver (below : List Frame) : State where
  vm := { classes := classes, interned := interned.toArray }
  heap := heap
  slotsUsed := slotsUsed
  threads := #[{ frames := .invoking theMethod args0 :: below }]
def below0 : List Frame := [.native { method := ⟨0, 0⟩, args := #[] }]
def about1 : State := aboutOver below0
def p0 : Program := .bare "" "" ""
def e0 : Env := launch0.env 0 0 0
theorem w_frames : about1.frames = Frame.invoking theMethod args0 :: below0 := rfl
set_option maxRecDepth 65536 in
theorem w_args : argsFit about1.vm theMethod args0 = true := by decide +kernel
set_option maxRecDepth 65536 in
theorem w_heap : heapFits about1 = true := by decide +kernel
set_option maxRecDepth 65536 in
theorem w_runnable : about1.curStatus? = some .runnable := by decide +kernel
set_option maxRecDepth 65536 in
theorem w_alone : about1.alone = true := by decide +kernel
set_option maxRecDepth 65536 in
theorem w_named : about1.methodNamed? x = some theMethod := by decide +kernel
set_option maxRecDepth 65536 in
theorem w_hears : about1.hears theMethod below0 = true := by decide +kernel
set_option maxRecDepth 65536 in
theorem w_ripe : about1.ripe theMethod args0 below0 = true := by decide +kernel
theorem w_running : about1.status = .running := rfl
set_option maxRecDepth 65536 in
theorem w_room : about1.hasRoom e0.platform room_1 = true :=
  launch0.hasRoom_least _ room_1 (by decide +kernel) (by decide +kernel) (by decide +kernel) (by decide +kernel) (by decide +kernel) (by decide +kernel)
theorem allAtoms_all (ts : List Jvm.Cond) (a : Array Jvm.Value) (st : Jvm.State) : (allAtoms ts).before a st = ts.all (fun c => c.before a st) := by
  induction ts with
  | nil => rfl
  | cons c t ih =>
    show (Jvm.Cond.and c (allAtoms t)).before a st = _
    rw [Jvm.Cond.before_and, ih, List.all_cons]
def words1 : List Jvm.Cond := Jvm.Cond.code x code maxLocals ret :: tables_1
/-- a 'code' word, met by the world's own term for the bytes: nothing is compared byte by byte -/
theorem code_word {y : MethodName} {bytes : ByteArray} {mx : Nat} {rt : Option FieldType} {a : Array Value} {s : State} {m : MethodId} {meth : Method} {c : Code} (h1 : s.methodNamed? y = some m) (h2 : s.vm.method? m = some meth) (h3 : meth.code = some c) (h4 : c.code = bytes)
    (h5 : (c.maxLocals == mx && c.exceptionTable.isEmpty && decide (c.maxStack ≤ mostOperands) && decide (meth.sig.returnType = rt) && !meth.locks && decide (parseMethodDescriptor y.desc = some meth.sig)) = true) : (Jvm.Cond.code y bytes mx rt).before a s = true := by
  simp only [Bool.and_eq_true, beq_iff_eq, Bool.not_eq_true', decide_eq_true_eq] at h5
  obtain ⟨⟨⟨⟨⟨g1, g2⟩, g3⟩, g4⟩, g5⟩, g6⟩ := h5
  simp [Cond.before, Cond.holds, Cond.value, h1, h2, h3, h4, g1, g2, g3, g4, g5, g6]
def isCode : Jvm.Cond → Bool
  | .code _ _ _ _ => true
  | _ => false
theorem all_split {L : List Jvm.Cond} {P : Jvm.Cond → Bool} (h1 : L.all (fun c => isCode c || P c) = true) (h2 : ∀ c ∈ L.filter isCode, P c = true) : L.all P = true := by
  refine List.all_eq_true.mpr fun c hc => ?_
  have h := List.all_eq_true.mp h1 c hc
  rcases Bool.eq_false_or_eq_true (isCode c) with hi | hi
  · exact h2 c (List.mem_filter.mpr ⟨hc, hi⟩)
  · simpa [hi] using h
set_option maxRecDepth 65536 in
theorem w_c0 : (Jvm.Cond.code x code maxLocals ret).before args0 about1 = true := code_word (m := ⟨1, 2⟩) (meth := k1m2) (c := k1c2) (by decide +kernel) rfl rfl rfl (by decide +kernel)
set_option maxRecDepth 65536 in
theorem w_c1 : (Jvm.Cond.code ({ cls := "org/latchkeep/io/Identifiers", name := "isLength", desc := "(I)Z" } : Jvm.MethodName) prog_39_method_2_code (1 : Nat) (Option.some Jvm.ClassFile.FieldType.boolean)).before args0 about1 = true := code_word (m := ⟨2, 1⟩) (meth := k2m1) (c := k2c1) (by decide +kernel) rfl rfl rfl (by decide +kernel)
set_option maxRecDepth 65536 in
theorem w_c2 : (Jvm.Cond.code ({ cls := "org/latchkeep/io/IdentifiersIsLengthPinLaw", name := "ref", desc := "(I)Z" } : Jvm.MethodName) method_2_code (1 : Nat) (Option.some Jvm.ClassFile.FieldType.boolean)).before args0 about1 = true := code_word (m := ⟨1, 1⟩) (meth := k1m1) (c := k1c1) (by decide +kernel) rfl rfl rfl (by decide +kernel)
def codes1 : List Jvm.Cond := [Jvm.Cond.code x code maxLocals ret, Jvm.Cond.code ({ cls := "org/latchkeep/io/Identifiers", name := "isLength", desc := "(I)Z" } : Jvm.MethodName) prog_39_method_2_code (1 : Nat) (Option.some Jvm.ClassFile.FieldType.boolean), Jvm.Cond.code ({ cls := "org/latchkeep/io/IdentifiersIsLengthPinLaw", name := "ref", desc := "(I)Z" } : Jvm.MethodName) method_2_code (1 : Nat) (Option.some Jvm.ClassFile.FieldType.boolean)]
set_option maxRecDepth 65536 in
theorem codes_eq : words1.filter isCode = codes1 := rfl
theorem w_codes : ∀ c ∈ words1.filter isCode, c.before args0 about1 = true := by
  rw [codes_eq]
  intro c hc
  simp only [codes1, List.mem_cons, List.not_mem_nil, or_false] at hc
  rcases hc with rfl | rfl | rfl
  · exact w_c0
  · exact w_c1
  · exact w_c2
set_option maxRecDepth 65536 in
theorem w_t1 : words1.all (fun c => isCode c || c.before args0 about1) = true := by decide +kernel
theorem w_tables : (allAtoms (Jvm.Cond.code x code maxLocals ret :: tables_1)).before args0 about1 = true := by
  rw [allAtoms_all]
  show words1.all (fun c => c.before args0 about1) = true
  refine all_split ?_ w_codes
  rw [w_t1]
set_option maxRecDepth 65536 in
theorem w_case : (Jvm.Cond.and given_1 narrow_1).before args0 about1 = true := by decide +kernel
theorem w_applies : (headSpec (Jvm.Cond.code x code maxLocals ret :: tables_1) room_1).applies x e0.platform about1 = true :=
  (Spec.applies_iff w_frames).mpr ⟨w_running, w_runnable, w_alone, w_named, w_hears, w_ripe, w_room, w_tables⟩
theorem atStart : AtStart classFile x code maxLocals ret World_1 tables_1 room_1 Calls_1 rest_1 Pre_1 launch0 p0 e0 about1 theMethod args0 below0 :=
  ⟨lists_1, trivial, launch0.admits_env _ _ _, launch0.least_env, fairChoices_fair.cas, fairChoices_fair.clock, w_frames, w_args, w_heap, w_applies, trivial, trivial, w_case⟩
end start1
theorem witness_1 : WitnessClaimed_1 := ⟨start1.p0, start1.e0, start1.about1, start1.theMethod, start1.args0, start1.below0, start1.atStart⟩
end Jvm.Pilot.@@N@@
