import JvmDerived
import JvmDerived.Pilot.@@N@@Statement
import JvmDerived.Pilot.@@N@@Code
set_option linter.unusedVariables false
set_option linter.unusedSimpArgs false
namespace Jvm.RoadKit
open Sem ClassFile Op Lib Jvm.Stand Jvm.Free Jvm.LawKit
section New
variable {p : Program} {l : Launch} {e : Env} {R : Room} {s : State} {m : MethodId} {args : Array Value} {below : List Frame} {meth : Method} {c : Code} {T : State} {locs : List Loc} {cells slots : Nat}
theorem retI (X : Stand p l e R s m args below meth c T locs cells slots) (hx : p.tables.exec = Jvm.exec) {pc : Nat} {Ls : Array Slot} {z : Int32} {rest : List Value} (hret : meth.sig.returnType = some .int) (hd : decode c.code pc = .ok (.ireturn, 1)) {fs : List Frame}
    (hl : ∀ (f : JFrame) (acts : List Action), f.method = m → f.locked = none → f.entered = [] → (doReturn e (T.setTop f) acts (some (.int z))).1 = T.setFrames fs) : Steps p.tables e below (T.setTop (mkF m pc Ls (.int z :: rest))) (T.setFrames fs) := by
  have hm' : T.vm.method? m = some meth := X.method'
  have hn : narrow .int (.int z) = .int z := rfl
  show Steps p.tables e below (T.setTop { method := m, pc := pc, locals := Ls, stack := _ :: rest, locked := none }) _
  jvm_step X.here [X.here.top, hx, hd, hm', hret, hn]
  first | (intro acts; rw [hl _ acts rfl rfl rfl]) | rw [hl _ _ rfl rfl rfl]
  exact Steps.refl _
end New
end Jvm.RoadKit
namespace Jvm.Pilot.@@N@@
open Jvm Jvm.ClassFile Sem Op Lib Jvm.Free Jvm.Stand Jvm.LawKit Jvm.RoadKit Bundle Jvm.Pilot.@@N@@.Jvm.D
/-- the rest of a run, in passing style: some state is come to at which F holds -/
def Go (p : Program) (e : Env) (below : List Frame) (F : State → Outcome → Prop) (t : State) : Prop := ∃ u o, Steps p.tables e below t u ∧ F u o
theorem Go.back {p : Program} {e : Env} {below : List Frame} {F : State → Outcome → Prop} {t t' : State} (k : ∀ u, Steps p.tables e below t' u → Steps p.tables e below t u) (h : Go p e below F t') : Go p e below F t := by
  obtain ⟨u, o, h1, h2⟩ := h
  exact ⟨u, o, k u h1, h2⟩
def own_F (s : State) (below : List Frame) (Q : Option Value → Heap → List Loc → Prop) (cells slots : Nat) (u : State) (o : Outcome) : Prop := u.status = .running ∧ Ended u below o ∧ ∃ v L, o = .returned v ∧ Q v u.heap L ∧ FrameEnd s o u L cells slots
theorem own_bit {x : Int32} (h : x = 0 ∨ x = 1) : narrow .boolean (.int x) = .int x ∧ fits .boolean (.int x) = true := by
  rcases h with rfl | rfl <;> decide
def F_own_isText (p0 : Int32) : Int32 := (if p0 = (4 : Int32) then (1 : Int32) else (if p0 = (12 : Int32) then (1 : Int32) else (if p0 = (6 : Int32) then (1 : Int32) else (0 : Int32))))
theorem own_pn0 : plainName "com/example/binfold/binfold/XmlInput" = true := by first | (simp [plainName, overriddenIn]; done) | decide +kernel
theorem own_d1_0 : decode prog_34_method_9_code 0 = .ok (.iload_n 0, 1) := by decide +kernel
theorem own_d1_1 : decode prog_34_method_9_code 1 = .ok (.iconst 4, 1) := by decide +kernel
theorem own_d1_2 : decode prog_34_method_9_code 2 = .ok (.if_icmp .eq 15, 3) := by decide +kernel
theorem own_d1_5 : decode prog_34_method_9_code 5 = .ok (.iload_n 0, 1) := by decide +kernel
theorem own_d1_6 : decode prog_34_method_9_code 6 = .ok (.bipush 12, 2) := by decide +kernel
theorem own_d1_8 : decode prog_34_method_9_code 8 = .ok (.if_icmp .eq 9, 3) := by decide +kernel
theorem own_d1_11 : decode prog_34_method_9_code 11 = .ok (.iload_n 0, 1) := by decide +kernel
theorem own_d1_12 : decode prog_34_method_9_code 12 = .ok (.bipush 6, 2) := by decide +kernel
theorem own_d1_14 : decode prog_34_method_9_code 14 = .ok (.if_icmp .ne 7, 3) := by decide +kernel
theorem own_d1_17 : decode prog_34_method_9_code 17 = .ok (.iconst 1, 1) := by decide +kernel
theorem own_d1_18 : decode prog_34_method_9_code 18 = .ok (.goto 4, 3) := by decide +kernel
theorem own_d1_21 : decode prog_34_method_9_code 21 = .ok (.iconst 0, 1) := by decide +kernel
theorem own_d1_22 : decode prog_34_method_9_code 22 = .ok (.ireturn, 1) := by decide +kernel
theorem own_ef_own_isText (m : MethodId) (x0 : Int32) : entryFrame m #[(.int x0)] 1 = mkF m 0 #[.val (.int x0)] [] := by first | (simp [entryFrame, mkF, argsToLocals, Value.category]; done) | rfl
def Q_own_isText (Z : State) (p0 : Int32) (h0 : Heap) (n0 : Nat) (v : Option Value) (h : Heap) (L : List Loc) : Prop := v = some (.int (F_own_isText p0)) ∧ Fr n0 L ∧ h = h0
set_option maxRecDepth 65536 in
set_option maxHeartbeats 40000000 in
theorem own_isText (l : Launch) (Z : State) (a0 : Array Value) (hw : ∀ d ∈ tables_1, d.before a0 Z = true) (ws : List Jvm.Cond) (p0 : Int32) (h0 : Heap) (n0 : Nat) (Z0 : n0 ≤ h0.size) :
    MetFree l (⟨"com/example/binfold/binfold/XmlInput", "isText", "(I)Z"⟩ : MethodName) (head1 (Jvm.Cond.code (⟨"com/example/binfold/binfold/XmlInput", "isText", "(I)Z"⟩ : MethodName) prog_34_method_9_code 1 (some .boolean) :: ws) ({ frames := 0, cells := 0, slots := 0, locals := 0 } : Room)) (fun a U => a = #[(.int p0)] ∧ Z.Warmed39 U.vm ∧ U.heap = h0) (fun _ _ _ _ _ => True) (fun _ U o U' => ∃ v L, o = .returned v ∧ Q_own_isText Z p0 h0 n0 v U'.heap L ∧ FrameEnd U o U' L ({ frames := 0, cells := 0, slots := 0, locals := 0 } : Room).cells ({ frames := 0, cells := 0, slots := 0, locals := 0 } : Room).slots) := by
  refine MetFree.of_bodySF (plainFor_of_name own_pn0) hisR ?_
  intro p e s m args below meth c s₁ Bd hml0 hP hK
  obtain ⟨rfl, hZ, hh⟩ := hP
  have hx := Bd.exec
  have hby := Bd.bytes
  have hml : c.maxLocals = 1 := hml0
  have hown : s.vm.findClass "com/example/binfold/binfold/XmlInput" = some m.cls := findClass_of_methodNamed Bd.named
  have hnm := (name_of_methodNamed Bd.named Bd.method).1
  have X0 : Stand p l e ({ frames := 0, cells := 0, slots := 0, locals := 0 } : Room) s m #[(.int p0)] below meth c s₁ [] 0 0 := Stand.of_body Bd
  have e0 : s₁.heap = h0 := by rw [← hh, Bd.state]; rfl
  have N0 := Fr.nil n0
  have K0 := Keep.refl h0 []
  show Go p e below (own_F s below (Q_own_isText Z p0 h0 n0) ({ frames := 0, cells := 0, slots := 0, locals := 0 } : Room).cells ({ frames := 0, cells := 0, slots := 0, locals := 0 } : Room).slots) (s₁.setTop (entryFrame m #[(.int p0)] 1))
  rw [own_ef_own_isText m p0]
  refine Go.back (t' := (s₁.setTop (mkF m 1 #[.val (.int p0)] [(.int p0)]))) (fun u k => XS.iloadN X0.here hx rfl (hb hby own_d1_0) rfl k) ?_
  refine Go.back (t' := (s₁.setTop (mkF m 2 #[.val (.int p0)] [(.int (4 : Int32)), (.int p0)]))) (fun u k => XT.iconstV X0.here hx rfl (4 : Int32) (hb hby own_d1_1) (by decide) k) ?_
  by_cases hc1 : p0 = (4 : Int32)
  · skip
    refine Go.back (t' := (s₁.setTop (mkF m 17 #[.val (.int p0)] []))) (fun u k => XS.icmpYes X0.here hx rfl (pc0 := 2) (pc' := 17) rfl (hb hby own_d1_2) rfl (XT.ii_eq_t hc1) (by decide) (by decide) k) ?_
    refine Go.back (t' := (s₁.setTop (mkF m 18 #[.val (.int p0)] [(.int (1 : Int32))]))) (fun u k => XT.iconstV X0.here hx rfl (1 : Int32) (hb hby own_d1_17) (by decide) k) ?_
    refine Go.back (t' := (s₁.setTop (mkF m 22 #[.val (.int p0)] [(.int (1 : Int32))]))) (fun u k => XS.goto X0.here hx rfl (pc0 := 18) (pc' := 22) rfl (hb hby own_d1_18) (by decide) (by decide) k) ?_
    obtain ⟨fs, hr, hrun, hended, hW, hsame⟩ := X0.leave (v := some (.int (1 : Int32))) (fun h => by rw [Bd.returns] at h; cases h)
    refine ⟨_, _, retN X0 hx (t := .boolean) Bd.returns (by simp) (hb hby own_d1_22) hr, hrun, hended, _, _, rfl, ?_, ⟨_, rfl⟩, hW, hsame.mono (by decide) (by decide)⟩
    show Q_own_isText Z p0 h0 n0 _ s₁.heap _
    rw [e0]
    exact ⟨by simp only [F_own_isText, if_pos hc1], N0, rfl⟩
  · skip
    refine Go.back (t' := (s₁.setTop (mkF m 5 #[.val (.int p0)] []))) (fun u k => XS.icmpNo X0.here hx rfl (hb hby own_d1_2) rfl (XT.ii_eq_f hc1) k) ?_
    refine Go.back (t' := (s₁.setTop (mkF m 6 #[.val (.int p0)] [(.int p0)]))) (fun u k => XS.iloadN X0.here hx rfl (hb hby own_d1_5) rfl k) ?_
    refine Go.back (t' := (s₁.setTop (mkF m 8 #[.val (.int p0)] [(.int (12 : Int32)), (.int p0)]))) (fun u k => XT.bipushV X0.here hx rfl (12 : Int32) (hb hby own_d1_6) (by decide) k) ?_
    by_cases hc2 : p0 = (12 : Int32)
    · skip
      refine Go.back (t' := (s₁.setTop (mkF m 17 #[.val (.int p0)] []))) (fun u k => XS.icmpYes X0.here hx rfl (pc0 := 8) (pc' := 17) rfl (hb hby own_d1_8) rfl (XT.ii_eq_t hc2) (by decide) (by decide) k) ?_
      refine Go.back (t' := (s₁.setTop (mkF m 18 #[.val (.int p0)] [(.int (1 : Int32))]))) (fun u k => XT.iconstV X0.here hx rfl (1 : Int32) (hb hby own_d1_17) (by decide) k) ?_
      refine Go.back (t' := (s₁.setTop (mkF m 22 #[.val (.int p0)] [(.int (1 : Int32))]))) (fun u k => XS.goto X0.here hx rfl (pc0 := 18) (pc' := 22) rfl (hb hby own_d1_18) (by decide) (by decide) k) ?_
      obtain ⟨fs, hr, hrun, hended, hW, hsame⟩ := X0.leave (v := some (.int (1 : Int32))) (fun h => by rw [Bd.returns] at h; cases h)
      refine ⟨_, _, retN X0 hx (t := .boolean) Bd.returns (by simp) (hb hby own_d1_22) hr, hrun, hended, _, _, rfl, ?_, ⟨_, rfl⟩, hW, hsame.mono (by decide) (by decide)⟩
      show Q_own_isText Z p0 h0 n0 _ s₁.heap _
      rw [e0]
      exact ⟨by simp only [F_own_isText, if_neg hc1, if_pos hc2], N0, rfl⟩
    · skip
      refine Go.back (t' := (s₁.setTop (mkF m 11 #[.val (.int p0)] []))) (fun u k => XS.icmpNo X0.here hx rfl (hb hby own_d1_8) rfl (XT.ii_eq_f hc2) k) ?_
      refine Go.back (t' := (s₁.setTop (mkF m 12 #[.val (.int p0)] [(.int p0)]))) (fun u k => XS.iloadN X0.here hx rfl (hb hby own_d1_11) rfl k) ?_
      refine Go.back (t' := (s₁.setTop (mkF m 14 #[.val (.int p0)] [(.int (6 : Int32)), (.int p0)]))) (fun u k => XT.bipushV X0.here hx rfl (6 : Int32) (hb hby own_d1_12) (by decide) k) ?_
      by_cases hc3 : p0 = (6 : Int32)
      · skip
        refine Go.back (t' := (s₁.setTop (mkF m 17 #[.val (.int p0)] []))) (fun u k => XS.icmpNo X0.here hx rfl (hb hby own_d1_14) rfl (XT.ii_ne_f hc3) k) ?_
        refine Go.back (t' := (s₁.setTop (mkF m 18 #[.val (.int p0)] [(.int (1 : Int32))]))) (fun u k => XT.iconstV X0.here hx rfl (1 : Int32) (hb hby own_d1_17) (by decide) k) ?_
        refine Go.back (t' := (s₁.setTop (mkF m 22 #[.val (.int p0)] [(.int (1 : Int32))]))) (fun u k => XS.goto X0.here hx rfl (pc0 := 18) (pc' := 22) rfl (hb hby own_d1_18) (by decide) (by decide) k) ?_
        obtain ⟨fs, hr, hrun, hended, hW, hsame⟩ := X0.leave (v := some (.int (1 : Int32))) (fun h => by rw [Bd.returns] at h; cases h)
        refine ⟨_, _, retN X0 hx (t := .boolean) Bd.returns (by simp) (hb hby own_d1_22) hr, hrun, hended, _, _, rfl, ?_, ⟨_, rfl⟩, hW, hsame.mono (by decide) (by decide)⟩
        show Q_own_isText Z p0 h0 n0 _ s₁.heap _
        rw [e0]
        exact ⟨by simp only [F_own_isText, if_neg hc1, if_neg hc2, if_pos hc3], N0, rfl⟩
      · skip
        refine Go.back (t' := (s₁.setTop (mkF m 21 #[.val (.int p0)] []))) (fun u k => XS.icmpYes X0.here hx rfl (pc0 := 14) (pc' := 21) rfl (hb hby own_d1_14) rfl (XT.ii_ne_t hc3) (by decide) (by decide) k) ?_
        refine Go.back (t' := (s₁.setTop (mkF m 22 #[.val (.int p0)] [(.int (0 : Int32))]))) (fun u k => XT.iconstV X0.here hx rfl (0 : Int32) (hb hby own_d1_21) (by decide) k) ?_
        obtain ⟨fs, hr, hrun, hended, hW, hsame⟩ := X0.leave (v := some (.int (0 : Int32))) (fun h => by rw [Bd.returns] at h; cases h)
        refine ⟨_, _, retN X0 hx (t := .boolean) Bd.returns (by simp) (hb hby own_d1_22) hr, hrun, hended, _, _, rfl, ?_, ⟨_, rfl⟩, hW, hsame.mono (by decide) (by decide)⟩
        show Q_own_isText Z p0 h0 n0 _ s₁.heap _
        rw [e0]
        exact ⟨by simp only [F_own_isText, if_neg hc1, if_neg hc2, if_neg hc3], N0, rfl⟩
def F_own_ref (p0 : Int32) : Int32 := (if p0 < (0 : Int32) then (0 : Int32) else (if p0 < (32 : Int32) then (if ((XT.ushr (4176 : Int32) p0) &&& (1 : Int32)) = (0 : Int32) then (0 : Int32) else (1 : Int32)) else (0 : Int32)))
theorem own_pn1 : plainName "com/example/binfold/binfold/XmlInputIsTextPinLaw" = true := by first | (simp [plainName, overriddenIn]; done) | decide +kernel
theorem own_d2_0 : decode method_2_code 0 = .ok (.iload_n 0, 1) := by decide +kernel
theorem own_d2_1 : decode method_2_code 1 = .ok (.ifCond .lt 9, 3) := by decide +kernel
theorem own_d2_4 : decode method_2_code 4 = .ok (.iload_n 0, 1) := by decide +kernel
theorem own_d2_5 : decode method_2_code 5 = .ok (.bipush 32, 2) := by decide +kernel
theorem own_d2_7 : decode method_2_code 7 = .ok (.if_icmp .lt 5, 3) := by decide +kernel
theorem own_d2_10 : decode method_2_code 10 = .ok (.iconst 0, 1) := by decide +kernel
theorem own_d2_11 : decode method_2_code 11 = .ok (.ireturn, 1) := by decide +kernel
theorem own_d2_12 : decode method_2_code 12 = .ok (.sipush 4176, 3) := by decide +kernel
theorem own_d2_15 : decode method_2_code 15 = .ok (.iload_n 0, 1) := by decide +kernel
theorem own_d2_16 : decode method_2_code 16 = .ok (.iushr, 1) := by decide +kernel
theorem own_d2_17 : decode method_2_code 17 = .ok (.iconst 1, 1) := by decide +kernel
theorem own_d2_18 : decode method_2_code 18 = .ok (.iand, 1) := by decide +kernel
theorem own_d2_19 : decode method_2_code 19 = .ok (.ifCond .eq 7, 3) := by decide +kernel
theorem own_d2_22 : decode method_2_code 22 = .ok (.iconst 1, 1) := by decide +kernel
theorem own_d2_23 : decode method_2_code 23 = .ok (.goto 4, 3) := by decide +kernel
theorem own_d2_26 : decode method_2_code 26 = .ok (.iconst 0, 1) := by decide +kernel
theorem own_d2_27 : decode method_2_code 27 = .ok (.ireturn, 1) := by decide +kernel
theorem own_ef_own_ref (m : MethodId) (x0 : Int32) : entryFrame m #[(.int x0)] 1 = mkF m 0 #[.val (.int x0)] [] := by first | (simp [entryFrame, mkF, argsToLocals, Value.category]; done) | rfl
def Q_own_ref (Z : State) (p0 : Int32) (h0 : Heap) (n0 : Nat) (v : Option Value) (h : Heap) (L : List Loc) : Prop := v = some (.int (F_own_ref p0)) ∧ Fr n0 L ∧ h = h0
set_option maxRecDepth 65536 in
set_option maxHeartbeats 40000000 in
theorem own_ref (l : Launch) (Z : State) (a0 : Array Value) (hw : ∀ d ∈ tables_1, d.before a0 Z = true) (ws : List Jvm.Cond) (p0 : Int32) (h0 : Heap) (n0 : Nat) (Z0 : n0 ≤ h0.size) :
    MetFree l (⟨"com/example/binfold/binfold/XmlInputIsTextPinLaw", "reference", "(I)Z"⟩ : MethodName) (head1 (Jvm.Cond.code (⟨"com/example/binfold/binfold/XmlInputIsTextPinLaw", "reference", "(I)Z"⟩ : MethodName) method_2_code 1 (some .boolean) :: ws) ({ frames := 0, cells := 0, slots := 0, locals := 0 } : Room)) (fun a U => a = #[(.int p0)] ∧ Z.Warmed39 U.vm ∧ U.heap = h0) (fun _ _ _ _ _ => True) (fun _ U o U' => ∃ v L, o = .returned v ∧ Q_own_ref Z p0 h0 n0 v U'.heap L ∧ FrameEnd U o U' L ({ frames := 0, cells := 0, slots := 0, locals := 0 } : Room).cells ({ frames := 0, cells := 0, slots := 0, locals := 0 } : Room).slots) := by
  refine MetFree.of_bodySF (plainFor_of_name own_pn1) hisR ?_
  intro p e s m args below meth c s₁ Bd hml0 hP hK
  obtain ⟨rfl, hZ, hh⟩ := hP
  have hx := Bd.exec
  have hby := Bd.bytes
  have hml : c.maxLocals = 1 := hml0
  have hown : s.vm.findClass "com/example/binfold/binfold/XmlInputIsTextPinLaw" = some m.cls := findClass_of_methodNamed Bd.named
  have hnm := (name_of_methodNamed Bd.named Bd.method).1
  have X0 : Stand p l e ({ frames := 0, cells := 0, slots := 0, locals := 0 } : Room) s m #[(.int p0)] below meth c s₁ [] 0 0 := Stand.of_body Bd
  have e0 : s₁.heap = h0 := by rw [← hh, Bd.state]; rfl
  have N0 := Fr.nil n0
  have K0 := Keep.refl h0 []
  show Go p e below (own_F s below (Q_own_ref Z p0 h0 n0) ({ frames := 0, cells := 0, slots := 0, locals := 0 } : Room).cells ({ frames := 0, cells := 0, slots := 0, locals := 0 } : Room).slots) (s₁.setTop (entryFrame m #[(.int p0)] 1))
  rw [own_ef_own_ref m p0]
  refine Go.back (t' := (s₁.setTop (mkF m 1 #[.val (.int p0)] [(.int p0)]))) (fun u k => XS.iloadN X0.here hx rfl (hb hby own_d2_0) rfl k) ?_
  by_cases hc1 : p0 < (0 : Int32)
  · skip
    refine Go.back (t' := (s₁.setTop (mkF m 10 #[.val (.int p0)] []))) (fun u k => XS.ifYes X0.here hx rfl (pc0 := 1) (pc' := 10) rfl (hb hby own_d2_1) rfl (XT.i0_lt_t hc1) (by decide) (by decide) k) ?_
    refine Go.back (t' := (s₁.setTop (mkF m 11 #[.val (.int p0)] [(.int (0 : Int32))]))) (fun u k => XT.iconstV X0.here hx rfl (0 : Int32) (hb hby own_d2_10) (by decide) k) ?_
    obtain ⟨fs, hr, hrun, hended, hW, hsame⟩ := X0.leave (v := some (.int (0 : Int32))) (fun h => by rw [Bd.returns] at h; cases h)
    refine ⟨_, _, retN X0 hx (t := .boolean) Bd.returns (by simp) (hb hby own_d2_11) hr, hrun, hended, _, _, rfl, ?_, ⟨_, rfl⟩, hW, hsame.mono (by decide) (by decide)⟩
    show Q_own_ref Z p0 h0 n0 _ s₁.heap _
    rw [e0]
    exact ⟨by simp only [F_own_ref, if_pos hc1], N0, rfl⟩
  · skip
    refine Go.back (t' := (s₁.setTop (mkF m 4 #[.val (.int p0)] []))) (fun u k => XS.ifNo X0.here hx rfl (hb hby own_d2_1) rfl (XT.i0_lt_f hc1) k) ?_
    refine Go.back (t' := (s₁.setTop (mkF m 5 #[.val (.int p0)] [(.int p0)]))) (fun u k => XS.iloadN X0.here hx rfl (hb hby own_d2_4) rfl k) ?_
    refine Go.back (t' := (s₁.setTop (mkF m 7 #[.val (.int p0)] [(.int (32 : Int32)), (.int p0)]))) (fun u k => XT.bipushV X0.here hx rfl (32 : Int32) (hb hby own_d2_5) (by decide) k) ?_
    by_cases hc2 : p0 < (32 : Int32)
    · skip
      refine Go.back (t' := (s₁.setTop (mkF m 12 #[.val (.int p0)] []))) (fun u k => XS.icmpYes X0.here hx rfl (pc0 := 7) (pc' := 12) rfl (hb hby own_d2_7) rfl (XT.ii_lt_t hc2) (by decide) (by decide) k) ?_
      refine Go.back (t' := (s₁.setTop (mkF m 15 #[.val (.int p0)] [(.int (4176 : Int32))]))) (fun u k => XT.sipushV X0.here hx rfl (4176 : Int32) (hb hby own_d2_12) (by decide) k) ?_
      refine Go.back (t' := (s₁.setTop (mkF m 16 #[.val (.int p0)] [(.int p0), (.int (4176 : Int32))]))) (fun u k => XS.iloadN X0.here hx rfl (hb hby own_d2_15) rfl k) ?_
      refine Go.back (t' := (s₁.setTop (mkF m 17 #[.val (.int p0)] [(.int (XT.ushr (4176 : Int32) p0))]))) (fun u k => XT.iushr X0.here hx rfl (hb hby own_d2_16) rfl k) ?_
      refine Go.back (t' := (s₁.setTop (mkF m 18 #[.val (.int p0)] [(.int (1 : Int32)), (.int (XT.ushr (4176 : Int32) p0))]))) (fun u k => XT.iconstV X0.here hx rfl (1 : Int32) (hb hby own_d2_17) (by decide) k) ?_
      refine Go.back (t' := (s₁.setTop (mkF m 19 #[.val (.int p0)] [(.int ((XT.ushr (4176 : Int32) p0) &&& (1 : Int32)))]))) (fun u k => XS.iand X0.here hx rfl (hb hby own_d2_18) rfl k) ?_
      by_cases hc3 : ((XT.ushr (4176 : Int32) p0) &&& (1 : Int32)) = (0 : Int32)
      · skip
        refine Go.back (t' := (s₁.setTop (mkF m 26 #[.val (.int p0)] []))) (fun u k => XS.ifYes X0.here hx rfl (pc0 := 19) (pc' := 26) rfl (hb hby own_d2_19) rfl (XT.i0_eq_t hc3) (by decide) (by decide) k) ?_
        refine Go.back (t' := (s₁.setTop (mkF m 27 #[.val (.int p0)] [(.int (0 : Int32))]))) (fun u k => XT.iconstV X0.here hx rfl (0 : Int32) (hb hby own_d2_26) (by decide) k) ?_
        obtain ⟨fs, hr, hrun, hended, hW, hsame⟩ := X0.leave (v := some (.int (0 : Int32))) (fun h => by rw [Bd.returns] at h; cases h)
        refine ⟨_, _, retN X0 hx (t := .boolean) Bd.returns (by simp) (hb hby own_d2_27) hr, hrun, hended, _, _, rfl, ?_, ⟨_, rfl⟩, hW, hsame.mono (by decide) (by decide)⟩
        show Q_own_ref Z p0 h0 n0 _ s₁.heap _
        rw [e0]
        exact ⟨by simp only [F_own_ref, if_neg hc1, if_pos hc2, if_pos hc3], N0, rfl⟩
      · skip
        refine Go.back (t' := (s₁.setTop (mkF m 22 #[.val (.int p0)] []))) (fun u k => XS.ifNo X0.here hx rfl (hb hby own_d2_19) rfl (XT.i0_eq_f hc3) k) ?_
        refine Go.back (t' := (s₁.setTop (mkF m 23 #[.val (.int p0)] [(.int (1 : Int32))]))) (fun u k => XT.iconstV X0.here hx rfl (1 : Int32) (hb hby own_d2_22) (by decide) k) ?_
        refine Go.back (t' := (s₁.setTop (mkF m 27 #[.val (.int p0)] [(.int (1 : Int32))]))) (fun u k => XS.goto X0.here hx rfl (pc0 := 23) (pc' := 27) rfl (hb hby own_d2_23) (by decide) (by decide) k) ?_
        obtain ⟨fs, hr, hrun, hended, hW, hsame⟩ := X0.leave (v := some (.int (1 : Int32))) (fun h => by rw [Bd.returns] at h; cases h)
        refine ⟨_, _, retN X0 hx (t := .boolean) Bd.returns (by simp) (hb hby own_d2_27) hr, hrun, hended, _, _, rfl, ?_, ⟨_, rfl⟩, hW, hsame.mono (by decide) (by decide)⟩
        show Q_own_ref Z p0 h0 n0 _ s₁.heap _
        rw [e0]
        exact ⟨by simp only [F_own_ref, if_neg hc1, if_pos hc2, if_neg hc3], N0, rfl⟩
    · skip
      refine Go.back (t' := (s₁.setTop (mkF m 10 #[.val (.int p0)] []))) (fun u k => XS.icmpNo X0.here hx rfl (hb hby own_d2_7) rfl (XT.ii_lt_f hc2) k) ?_
      refine Go.back (t' := (s₁.setTop (mkF m 11 #[.val (.int p0)] [(.int (0 : Int32))]))) (fun u k => XT.iconstV X0.here hx rfl (0 : Int32) (hb hby own_d2_10) (by decide) k) ?_
      obtain ⟨fs, hr, hrun, hended, hW, hsame⟩ := X0.leave (v := some (.int (0 : Int32))) (fun h => by rw [Bd.returns] at h; cases h)
      refine ⟨_, _, retN X0 hx (t := .boolean) Bd.returns (by simp) (hb hby own_d2_11) hr, hrun, hended, _, _, rfl, ?_, ⟨_, rfl⟩, hW, hsame.mono (by decide) (by decide)⟩
      show Q_own_ref Z p0 h0 n0 _ s₁.heap _
      rw [e0]
      exact ⟨by simp only [F_own_ref, if_neg hc1, if_neg hc2], N0, rfl⟩
theorem own_range (x : Int32) (h0 : ¬ x < 0) (h1 : x < 32) : ∃ k : Fin 32, x = Int32.ofNat k.val := by
  rw [Int32.lt_iff_toInt_lt] at h0 h1
  have e0 : (0 : Int32).toInt = 0 := by decide
  have e1 : (32 : Int32).toInt = 32 := by decide
  rw [e0] at h0; rw [e1] at h1
  refine ⟨⟨x.toInt.toNat, by omega⟩, ?_⟩
  apply Int32.toInt_inj.mp
  rw [Int32.toInt_ofNat_of_lt (by show x.toInt.toNat < 2 ^ 31; omega)]
  show x.toInt = ((x.toInt.toNat : Nat) : Int)
  omega
theorem own_law (x : Int32) : F_own_isText x = F_own_ref x := by
  by_cases h0 : x < 0
  · have a : ¬ x = 4 := fun h => by subst h; exact absurd h0 (by decide)
    have b : ¬ x = 12 := fun h => by subst h; exact absurd h0 (by decide)
    have d : ¬ x = 6 := fun h => by subst h; exact absurd h0 (by decide)
    simp only [F_own_isText, F_own_ref, if_pos h0, if_neg a, if_neg b, if_neg d]
  · by_cases h1 : x < 32
    · obtain ⟨k, rfl⟩ := own_range x h0 h1
      revert k
      decide
    · have a : ¬ x = 4 := fun h => by subst h; exact absurd (by decide) h1
      have b : ¬ x = 12 := fun h => by subst h; exact absurd (by decide) h1
      have d : ¬ x = 6 := fun h => by subst h; exact absurd (by decide) h1
      simp only [F_own_isText, F_own_ref, if_neg h0, if_neg h1, if_neg a, if_neg b, if_neg d]
theorem own_pd0 : parseMethodDescriptor "(I)Z" = some ⟨[.int], some .boolean⟩ := by decide +kernel
theorem own_ef_own_law0 (m : MethodId) (x0 : Int32) (x1 : Int32) : entryFrame m #[(.int x0), (.int x1)] maxLocals = mkF m 0 #[.val (.int x0), .val (.int x1), .unset, .unset, .unset] [] := by first | (simp [entryFrame, mkF, argsToLocals, Value.category, maxLocals]; done) | rfl
def Q_own_law0 (Z : State) (p0 : Int32) (p1 : Int32) (h0 : Heap) (n0 : Nat) (v : Option Value) (h : Heap) (L : List Loc) : Prop := v = some (.int 1) ∧ Fr n0 L ∧ h = h0
set_option maxRecDepth 65536 in
set_option maxHeartbeats 40000000 in
theorem own_law0 (l : Launch) (Z : State) (a0 : Array Value) (hw : ∀ d ∈ tables_1, d.before a0 Z = true) (ws : List Jvm.Cond) (p0 : Int32) (p1 : Int32) (h0 : Heap) (n0 : Nat) (Z0 : n0 ≤ h0.size) :
    MetFree l x (head1 (Jvm.Cond.code x code maxLocals ret :: ws) room_1) (fun a U => a = #[(.int p0), (.int p1)] ∧ Z.Warmed39 U.vm ∧ U.heap = h0) (fun _ _ _ _ _ => True) (fun _ U o U' => ∃ v L, o = .returned v ∧ Q_own_law0 Z p0 p1 h0 n0 v U'.heap L ∧ FrameEnd U o U' L 0 0) := by
  refine MetFree.of_bodySF (plainFor_of_name own_pn1) hisR ?_
  intro p e s m args below meth c s₁ Bd hml0 hP hK
  obtain ⟨rfl, hZ, hh⟩ := hP
  have hx := Bd.exec
  have hby := Bd.bytes
  have hml : c.maxLocals = 5 := hml0
  have hown : s.vm.findClass "com/example/binfold/binfold/XmlInputIsTextPinLaw" = some m.cls := findClass_of_methodNamed Bd.named
  have hnm := (name_of_methodNamed Bd.named Bd.method).1
  have X0 : Stand p l e room_1 s m #[(.int p0), (.int p1)] below meth c s₁ [] 0 0 := Stand.of_body Bd
  have e0 : s₁.heap = h0 := by rw [← hh, Bd.state]; rfl
  have N0 := Fr.nil n0
  have K0 := Keep.refl h0 []
  show Go p e below (own_F s below (Q_own_law0 Z p0 p1 h0 n0) 0 0) (s₁.setTop (entryFrame m #[(.int p0), (.int p1)] maxLocals))
  rw [own_ef_own_law0 m p0 p1]
  refine Go.back (t' := (s₁.setTop (mkF m 1 #[.val (.int p0), .val (.int p1), .unset, .unset, .unset] [(.int p1)]))) (fun u k => XS.iloadN X0.here hx rfl (hb hby at_0) rfl k) ?_
  refine Go.back (t' := (s₁.setTop (mkF m 3 #[.val (.int p0), .val (.int p1), .unset, .unset, .unset] [(.int (15 : Int32)), (.int p1)]))) (fun u k => XT.bipushV X0.here hx rfl (15 : Int32) (hb hby at_1) (by decide) k) ?_
  refine Go.back (t' := (s₁.setTop (mkF m 4 #[.val (.int p0), .val (.int p1), .unset, .unset, .unset] [(.int (p1 &&& (15 : Int32)))]))) (fun u k => XS.iand X0.here hx rfl (hb hby at_3) rfl k) ?_
  refine Go.back (t' := (s₁.setTop (mkF m 5 #[.val (.int p0), .val (.int p1), .val (.int (p1 &&& (15 : Int32))), .unset, .unset] []))) (fun u k => XS.istoreN X0.here hx rfl (hb hby at_4) rfl (l' := #[.val (.int p0), .val (.int p1), .val (.int (p1 &&& (15 : Int32))), .unset, .unset]) rfl k) ?_
  refine Go.back (t' := (s₁.setTop (mkF m 6 #[.val (.int p0), .val (.int p1), .val (.int (p1 &&& (15 : Int32))), .unset, .unset] [(.int p0)]))) (fun u k => XS.iloadN X0.here hx rfl (hb hby at_5) rfl k) ?_
  obtain ⟨_, _, ⟨T1, L1, k1, n1⟩, -, X1, ⟨Lc1, hQ1, l1, y1, z1⟩, st1⟩ := Jvm.LawKit.callS X0 hx (y := (⟨"com/example/binfold/binfold/XmlInput", "isText", "(I)Z"⟩ : MethodName)) hown (mvT hZ (hw _ (List.mem_of_getElem? (i := 0) rfl))) (mvT hZ (hw _ (List.mem_of_getElem? (i := 1) rfl))) (mvT hZ (hw _ (List.mem_of_getElem? (i := 2) rfl))) (mvT hZ (hw _ (List.mem_of_getElem? (i := 3) rfl))) (by decide) (backOf (W := 0) (own_isText l Z a0 hw [] p0 h0 n0 Z0 ) hZ (hw _ (List.mem_of_getElem? (i := 3) rfl)) (hw _ (List.mem_of_getElem? (i := 2) rfl)) (by decide) (by decide)) (g := (mkF m 6 #[.val (.int p0), .val (.int p1), .val (.int (p1 &&& (15 : Int32))), .unset, .unset] [(.int p0)])) rfl (by rw [hml]; rfl) (argsL := [(.int p0)]) (rest := []) (lenOf own_pd0 rfl) rfl (by show 2 * 0 + _ ≤ _; exact Nat.le_of_eq rfl) (hb hby at_6) (fun _ _ => ⟨rfl, e0, (by decide : 0 + 0 ≤ _), (by decide : 0 + 0 ≤ _)⟩)
  dsimp only [Pt.U, Pt.locs, Pt.cells, Pt.slots] at X1 l1 y1 z1 st1 hQ1
  subst l1 y1 z1
  obtain ⟨rfl, N1, e1⟩ := hQ1
  have NA1 := Fr.app N0 N1
  refine Go.back (t' := (T1.setTop (mkF m 9 #[.val (.int p0), .val (.int p1), .val (.int (p1 &&& (15 : Int32))), .unset, .unset] [(.int (F_own_isText p0))]))) st1 ?_
  refine Go.back (t' := (T1.setTop (mkF m 10 #[.val (.int p0), .val (.int p1), .val (.int (p1 &&& (15 : Int32))), .unset, .unset] [(.int p0), (.int (F_own_isText p0))]))) (fun u k => XS.iloadN X1.here hx rfl (hb hby at_9) rfl k) ?_
  obtain ⟨_, _, ⟨T2, L2, k2, n2⟩, -, X2, ⟨Lc2, hQ2, l2, y2, z2⟩, st2⟩ := Jvm.LawKit.callS X1 hx (y := (⟨"com/example/binfold/binfold/XmlInputIsTextPinLaw", "reference", "(I)Z"⟩ : MethodName)) hown (mvT hZ (hw _ (List.mem_of_getElem? (i := 4) rfl))) (mvT hZ (hw _ (List.mem_of_getElem? (i := 5) rfl))) (mvT hZ (hw _ (List.mem_of_getElem? (i := 6) rfl))) (mvT hZ (hw _ (List.mem_of_getElem? (i := 7) rfl))) (by decide) (backOf (W := 1) (own_ref l Z a0 hw [] p0 h0 n0 Z0 ) hZ (hw _ (List.mem_of_getElem? (i := 7) rfl)) (hw _ (List.mem_of_getElem? (i := 6) rfl)) (by decide) (by decide)) (g := (mkF m 10 #[.val (.int p0), .val (.int p1), .val (.int (p1 &&& (15 : Int32))), .unset, .unset] [(.int p0), (.int (F_own_isText p0))])) rfl (by rw [hml]; rfl) (argsL := [(.int p0)]) (rest := [(.int (F_own_isText p0))]) (lenOf own_pd0 rfl) rfl (by show 2 * 0 + _ ≤ _; exact Nat.le_of_eq rfl) (hb hby at_10) (fun _ _ => ⟨rfl, e1, (by decide : 0 + 0 ≤ _), (by decide : 0 + 0 ≤ _)⟩)
  dsimp only [Pt.U, Pt.locs, Pt.cells, Pt.slots] at X2 l2 y2 z2 st2 hQ2
  subst l2 y2 z2
  obtain ⟨rfl, N2, e2⟩ := hQ2
  have NA2 := Fr.app NA1 N2
  refine Go.back (t' := (T2.setTop (mkF m 13 #[.val (.int p0), .val (.int p1), .val (.int (p1 &&& (15 : Int32))), .unset, .unset] [(.int (F_own_ref p0)), (.int (F_own_isText p0))]))) st2 ?_
  refine Go.back (t' := (T2.setTop (mkF m 16 #[.val (.int p0), .val (.int p1), .val (.int (p1 &&& (15 : Int32))), .unset, .unset] []))) (fun u k => XS.icmpNo X2.here hx rfl (hb hby at_13) rfl (XT.ii_ne_f (own_law p0)) k) ?_
  refine Go.back (t' := (T2.setTop (mkF m 17 #[.val (.int p0), .val (.int p1), .val (.int (p1 &&& (15 : Int32))), .unset, .unset] [(.int (1 : Int32))]))) (fun u k => XT.iconstV X2.here hx rfl (1 : Int32) (hb hby at_16) (by decide) k) ?_
  refine Go.back (t' := (T2.setTop (mkF m 21 #[.val (.int p0), .val (.int p1), .val (.int (p1 &&& (15 : Int32))), .unset, .unset] [(.int (1 : Int32))]))) (fun u k => XS.goto X2.here hx rfl (pc0 := 17) (pc' := 21) rfl (hb hby at_17) (by decide) (by decide) k) ?_
  refine Go.back (t' := (T2.setTop (mkF m 22 #[.val (.int p0), .val (.int p1), .val (.int (p1 &&& (15 : Int32))), .val (.int (1 : Int32)), .unset] []))) (fun u k => XS.istoreN X2.here hx rfl (hb hby at_21) rfl (l' := #[.val (.int p0), .val (.int p1), .val (.int (p1 &&& (15 : Int32))), .val (.int (1 : Int32)), .unset]) rfl k) ?_
  refine Go.back (t' := (T2.setTop (mkF m 23 #[.val (.int p0), .val (.int p1), .val (.int (p1 &&& (15 : Int32))), .val (.int (1 : Int32)), .unset] [(.int (p1 &&& (15 : Int32)))]))) (fun u k => XS.iloadN X2.here hx rfl (hb hby at_22) rfl k) ?_
  obtain ⟨_, _, ⟨T3, L3, k3, n3⟩, -, X3, ⟨Lc3, hQ3, l3, y3, z3⟩, st3⟩ := Jvm.LawKit.callS X2 hx (y := (⟨"com/example/binfold/binfold/XmlInput", "isText", "(I)Z"⟩ : MethodName)) hown (mvT hZ (hw _ (List.mem_of_getElem? (i := 0) rfl))) (mvT hZ (hw _ (List.mem_of_getElem? (i := 1) rfl))) (mvT hZ (hw _ (List.mem_of_getElem? (i := 2) rfl))) (mvT hZ (hw _ (List.mem_of_getElem? (i := 3) rfl))) (by decide) (backOf (W := 0) (own_isText l Z a0 hw [] (p1 &&& (15 : Int32)) h0 n0 Z0 ) hZ (hw _ (List.mem_of_getElem? (i := 3) rfl)) (hw _ (List.mem_of_getElem? (i := 2) rfl)) (by decide) (by decide)) (g := (mkF m 23 #[.val (.int p0), .val (.int p1), .val (.int (p1 &&& (15 : Int32))), .val (.int (1 : Int32)), .unset] [(.int (p1 &&& (15 : Int32)))])) rfl (by rw [hml]; rfl) (argsL := [(.int (p1 &&& (15 : Int32)))]) (rest := []) (lenOf own_pd0 rfl) rfl (by show 2 * 0 + _ ≤ _; exact Nat.le_of_eq rfl) (hb hby at_23) (fun _ _ => ⟨rfl, e2, (by decide : 0 + 0 ≤ _), (by decide : 0 + 0 ≤ _)⟩)
  dsimp only [Pt.U, Pt.locs, Pt.cells, Pt.slots] at X3 l3 y3 z3 st3 hQ3
  subst l3 y3 z3
  obtain ⟨rfl, N3, e3⟩ := hQ3
  have NA3 := Fr.app NA2 N3
  refine Go.back (t' := (T3.setTop (mkF m 26 #[.val (.int p0), .val (.int p1), .val (.int (p1 &&& (15 : Int32))), .val (.int (1 : Int32)), .unset] [(.int (F_own_isText (p1 &&& (15 : Int32))))]))) st3 ?_
  refine Go.back (t' := (T3.setTop (mkF m 27 #[.val (.int p0), .val (.int p1), .val (.int (p1 &&& (15 : Int32))), .val (.int (1 : Int32)), .unset] [(.int (p1 &&& (15 : Int32))), (.int (F_own_isText (p1 &&& (15 : Int32))))]))) (fun u k => XS.iloadN X3.here hx rfl (hb hby at_26) rfl k) ?_
  obtain ⟨_, _, ⟨T4, L4, k4, n4⟩, -, X4, ⟨Lc4, hQ4, l4, y4, z4⟩, st4⟩ := Jvm.LawKit.callS X3 hx (y := (⟨"com/example/binfold/binfold/XmlInputIsTextPinLaw", "reference", "(I)Z"⟩ : MethodName)) hown (mvT hZ (hw _ (List.mem_of_getElem? (i := 4) rfl))) (mvT hZ (hw _ (List.mem_of_getElem? (i := 5) rfl))) (mvT hZ (hw _ (List.mem_of_getElem? (i := 6) rfl))) (mvT hZ (hw _ (List.mem_of_getElem? (i := 7) rfl))) (by decide) (backOf (W := 1) (own_ref l Z a0 hw [] (p1 &&& (15 : Int32)) h0 n0 Z0 ) hZ (hw _ (List.mem_of_getElem? (i := 7) rfl)) (hw _ (List.mem_of_getElem? (i := 6) rfl)) (by decide) (by decide)) (g := (mkF m 27 #[.val (.int p0), .val (.int p1), .val (.int (p1 &&& (15 : Int32))), .val (.int (1 : Int32)), .unset] [(.int (p1 &&& (15 : Int32))), (.int (F_own_isText (p1 &&& (15 : Int32))))])) rfl (by rw [hml]; rfl) (argsL := [(.int (p1 &&& (15 : Int32)))]) (rest := [(.int (F_own_isText (p1 &&& (15 : Int32))))]) (lenOf own_pd0 rfl) rfl (by show 2 * 0 + _ ≤ _; exact Nat.le_of_eq rfl) (hb hby at_27) (fun _ _ => ⟨rfl, e3, (by decide : 0 + 0 ≤ _), (by decide : 0 + 0 ≤ _)⟩)
  dsimp only [Pt.U, Pt.locs, Pt.cells, Pt.slots] at X4 l4 y4 z4 st4 hQ4
  subst l4 y4 z4
  obtain ⟨rfl, N4, e4⟩ := hQ4
  have NA4 := Fr.app NA3 N4
  refine Go.back (t' := (T4.setTop (mkF m 30 #[.val (.int p0), .val (.int p1), .val (.int (p1 &&& (15 : Int32))), .val (.int (1 : Int32)), .unset] [(.int (F_own_ref (p1 &&& (15 : Int32)))), (.int (F_own_isText (p1 &&& (15 : Int32))))]))) st4 ?_
  refine Go.back (t' := (T4.setTop (mkF m 33 #[.val (.int p0), .val (.int p1), .val (.int (p1 &&& (15 : Int32))), .val (.int (1 : Int32)), .unset] []))) (fun u k => XS.icmpNo X4.here hx rfl (hb hby at_30) rfl (XT.ii_ne_f (own_law (p1 &&& (15 : Int32)))) k) ?_
  refine Go.back (t' := (T4.setTop (mkF m 34 #[.val (.int p0), .val (.int p1), .val (.int (p1 &&& (15 : Int32))), .val (.int (1 : Int32)), .unset] [(.int (1 : Int32))]))) (fun u k => XT.iconstV X4.here hx rfl (1 : Int32) (hb hby at_33) (by decide) k) ?_
  refine Go.back (t' := (T4.setTop (mkF m 38 #[.val (.int p0), .val (.int p1), .val (.int (p1 &&& (15 : Int32))), .val (.int (1 : Int32)), .unset] [(.int (1 : Int32))]))) (fun u k => XS.goto X4.here hx rfl (pc0 := 34) (pc' := 38) rfl (hb hby at_34) (by decide) (by decide) k) ?_
  refine Go.back (t' := (T4.setTop (mkF m 40 #[.val (.int p0), .val (.int p1), .val (.int (p1 &&& (15 : Int32))), .val (.int (1 : Int32)), .val (.int (1 : Int32))] []))) (fun u k => XS.istore X4.here hx rfl (hb hby at_38) rfl (l' := #[.val (.int p0), .val (.int p1), .val (.int (p1 &&& (15 : Int32))), .val (.int (1 : Int32)), .val (.int (1 : Int32))]) rfl k) ?_
  refine Go.back (t' := (T4.setTop (mkF m 41 #[.val (.int p0), .val (.int p1), .val (.int (p1 &&& (15 : Int32))), .val (.int (1 : Int32)), .val (.int (1 : Int32))] [(.int (1 : Int32))]))) (fun u k => XS.iloadN X4.here hx rfl (hb hby at_40) rfl k) ?_
  refine Go.back (t' := (T4.setTop (mkF m 44 #[.val (.int p0), .val (.int p1), .val (.int (p1 &&& (15 : Int32))), .val (.int (1 : Int32)), .val (.int (1 : Int32))] []))) (fun u k => XS.ifNo X4.here hx rfl (hb hby at_41) rfl (XT.i0_eq_f (by decide)) k) ?_
  refine Go.back (t' := (T4.setTop (mkF m 46 #[.val (.int p0), .val (.int p1), .val (.int (p1 &&& (15 : Int32))), .val (.int (1 : Int32)), .val (.int (1 : Int32))] [(.int (1 : Int32))]))) (fun u k => XS.iload X4.here hx rfl (hb hby at_44) rfl k) ?_
  refine Go.back (t' := (T4.setTop (mkF m 49 #[.val (.int p0), .val (.int p1), .val (.int (p1 &&& (15 : Int32))), .val (.int (1 : Int32)), .val (.int (1 : Int32))] []))) (fun u k => XS.ifNo X4.here hx rfl (hb hby at_46) rfl (XT.i0_eq_f (by decide)) k) ?_
  refine Go.back (t' := (T4.setTop (mkF m 50 #[.val (.int p0), .val (.int p1), .val (.int (p1 &&& (15 : Int32))), .val (.int (1 : Int32)), .val (.int (1 : Int32))] [(.int (1 : Int32))]))) (fun u k => XT.iconstV X4.here hx rfl (1 : Int32) (hb hby at_49) (by decide) k) ?_
  refine Go.back (t' := (T4.setTop (mkF m 54 #[.val (.int p0), .val (.int p1), .val (.int (p1 &&& (15 : Int32))), .val (.int (1 : Int32)), .val (.int (1 : Int32))] [(.int (1 : Int32))]))) (fun u k => XS.goto X4.here hx rfl (pc0 := 50) (pc' := 54) rfl (hb hby at_50) (by decide) (by decide) k) ?_
  obtain ⟨fs, hr, hrun, hended, hW, hsame⟩ := X4.leave (v := some (.int (1 : Int32))) (fun h => by rw [Bd.returns] at h; cases h)
  refine ⟨_, _, retN X4 hx (t := .boolean) Bd.returns (by simp) (hb hby at_54) hr, hrun, hended, _, _, rfl, ?_, ⟨_, rfl⟩, hW, hsame.mono (by decide) (by decide)⟩
  show Q_own_law0 Z p0 p1 h0 n0 _ T4.heap _
  rw [e4]
  exact ⟨rfl, NA4, rfl⟩
set_option maxRecDepth 65536 in
set_option maxHeartbeats 40000000 in
theorem own_comes {Post : Tables → Env → Array Value → State → Outcome → State → Prop} (hpost : ∀ tb e args s v u, (limb_1_1.after args s (.returned v) u = true ∧ limb_1_2.after args s (.returned v) u = true ∧ True) → FrameEnd s (.returned v) u (Jvm.fieldLocs frame_1_writes args s ++ Jvm.arrayLocs frame_1_arrays args s ++ Jvm.staticLocs frame_1_statics s) 0 0 → Post tb e args s (.returned v) u) :
    ArmFor flags0 classFile x code maxLocals ret World_1 tables_1 room_1 Calls_1 rest_1 Pre_1 Post := by
  intro l hfl _ _ p e ha hc hk s m args below hf hA hF happ hP
  obtain ⟨hcalls, hrest, hpre⟩ := hP
  obtain ⟨-, -, -, hnamed, -, -, -, hat⟩ := (Spec.applies_iff hf).mp happ
  obtain ⟨hg, hn⟩ := and_e (Cond.before_iff.mp (show (Jvm.Cond.and given_1 narrow_1).before args s = true from hpre))
  obtain ⟨hg1, hg2⟩ := and_e hg
  obtain ⟨hg3, hg4⟩ := and_e hg2
  obtain ⟨w0, w1, rfl⟩ : ∃ w0 w1 : Value, args = #[w0, w1] := by
    have hs : args.size = 2 := by simpa [Cond.value, given_1] using hg1
    obtain ⟨L⟩ := args
    match L, hs with
    | [w0, w1], _ => exact ⟨w0, w1, rfl⟩
  have hw := fun d (hd : d ∈ tables_1) => atoms_spec (ws := Jvm.Cond.code x code maxLocals ret :: tables_1) hat d (List.mem_cons_of_mem _ hd)
  have hfit : Fit s := fun {y c} hc i hi => by
    obtain ⟨ha, rfl⟩ := Array.getElem?_eq_some_iff.mp hc
    have q := List.all_eq_true.mp ((Array.all_eq_true_iff_forall_mem.mp hF) _ (Array.getElem_mem ha)) i (List.mem_range.mpr hi)
    simpa [Array.getElem?_eq_getElem hi] using q
  obtain ⟨i0, ei0⟩ := is_v hg3
  obtain rfl : w0 = (.int i0) := Option.some.inj ei0
  obtain ⟨i1, ei1⟩ := is_v hg4
  obtain rfl : w1 = (.int i1) := Option.some.inj ei1
  obtain ⟨n, o, h1, h2, h3, _, L, rfl, ⟨rfl, N, -⟩, hq⟩ := own_law0 l s _ hw tables_1 i0 i1  s.heap s.heap.size (Nat.le_refl _)  p e ha hc hk s m _ below hf ((Spec.applies_iff_loose hf).mp happ).1 ⟨rfl, State.Warmed39.refl s, rfl⟩ trivial
  refine ⟨n, _, h1, h2, h3, hpost _ _ _ _ _ _ ⟨Cond.after_iff.mpr rfl, Cond.after_iff.mpr (eq_i res_at (Term.int_eval (1)) rfl), trivial⟩ ⟨hq.1, hq.2.1, (hq.2.2.sift fun y hy => Or.inr (N y hy)).mono (by decide) (by decide)⟩⟩
theorem main_1_1 : Claimed_1_1 := own_comes fun _ _ _ _ _ _ h hF => ⟨h.1, hF⟩
theorem main_1_2 : Claimed_1_2 := own_comes fun _ _ _ _ _ _ h hF => ⟨h.2.1, hF⟩
end Jvm.Pilot.@@N@@
namespace Jvm.Pilot.@@N@@
open Jvm Jvm.ClassFile Sem Op Lib Jvm.Free Jvm.Stand Jvm.Pilot.@@N@@.Jvm.D
/-! MADE BY PROGRAM (witnessworld.py) out of the Statement's table words and the real class files: 9 classes; the members and pool entries that the words name. The judged class is class 1, her method 2. -/
namespace start1
open Jvm.ClassFile
def u (s : String) : CpInfo := .utf8 (stringToUtf16 s)
/-- a pool by its gaps: so many unusable entries, then the entry; so many at the end -/
def gap : Nat → List CpInfo → List CpInfo
  | 0, r => r
  | n + 1, r => .unusable :: gap n r
def poolList (es : List (Nat × CpInfo)) (last : Nat) : List CpInfo := es.foldr (fun e r => gap e.1 (e.2 :: r)) (gap last [])
def pool (es : List (Nat × CpInfo)) (last : Nat) : Array CpInfo := ⟨poolList es last⟩
def fileOf (pool : Array CpInfo) (this : Nat) (attrs : Array Attribute := #[]) (ms : Array MethodInfo := #[]) (fl : Nat := 33) (sup : Nat := 0) (ifs : Array Nat := #[]) (fds : Array FieldInfo := #[]) : ClassFile where
  minorVersion := 0
  majorVersion := 65
  constantPool := pool
  accessFlags := fl
  thisClass := this
  superClass := sup
  interfaces := ifs
  fields := fds
  methods := ms
  attributes := attrs
def plain (name : String) (sup : Option ClassId) : Class where
  name := name
  kind := .ordinary
  loader := none
  accessFlags := 33
  super := sup
  interfaces := #[]
  cf := none
  fields := #[]
  methods := #[]
  instanceTypes := #[]
  staticTypes := #[]
  resolved := #[]
  callSites := []
  init := .initialized
  statics := none
  mirror := none

def pool0 : Array CpInfo := pool [(5, u "<init>"), (0, u "()V"), (1, .class_ 10), (1, u "java/lang/Object")] 113

def k0m0 : Method := { name := "<init>", desc := "()V", sig := { parameters := [], returnType := none }, accessFlags := 1, code := none }
/-- java/lang/Object -/
def k0 : Class := { plain "java/lang/Object" none with
  accessFlags := 33
  interfaces := #[]
  cf := some (fileOf pool0 8 #[] #[{ accessFlags := 1, nameIndex := 5, descriptorIndex := 6, attributes := #[] }] 33 0 #[] #[])
  fields := #[]
  methods := #[k0m0]
  instanceTypes := #[]
  staticTypes := #[]
  resolved := Array.replicate 124 none
  statics := none }

def pool1 : Array CpInfo := pool [(2, .class_ 4), (1, u "java/lang/Object"), (0, u "<init>"), (0, u "()V"), (0, .methodref 8 9), (0, .class_ 10), (0, .nameAndType 11 12), (0, u "com/example/binfold/binfold/XmlInput"), (0, u "isText"), (0, u "(I)Z"), (0, .methodref 14 15), (0, .class_ 16), (0, .nameAndType 17 12), (0, u "com/example/binfold/binfold/XmlInputIsTextPinLaw"), (0, u "reference"), (3, u "law"), (0, u "(II)Z")] 2

def k1m0 : Method := { name := "<init>", desc := "()V", sig := { parameters := [], returnType := none }, accessFlags := 2, code := none }
def k1c1 : Code := { maxStack := 2, maxLocals := 1, code := method_2_code, exceptionTable := #[], attributes := #[] }
def k1m1 : Method := { name := "reference", desc := "(I)Z", sig := { parameters := [.int], returnType := some .boolean }, accessFlags := 10, code := some k1c1 }
def k1c2 : Code := { maxStack := 2, maxLocals := 5, code := code, exceptionTable := #[], attributes := #[] }
def k1m2 : Method := { name := "law", desc := "(II)Z", sig := { parameters := [.int, .int], returnType := some .boolean }, accessFlags := 9, code := some k1c2 }
/-- com/example/binfold/binfold/XmlInputIsTextPinLaw -/
def k1 : Class := { plain "com/example/binfold/binfold/XmlInputIsTextPinLaw" (some 0) with
  accessFlags := 49
  interfaces := #[]
  cf := some (fileOf pool1 14 #[] #[{ accessFlags := 2, nameIndex := 5, descriptorIndex := 6, attributes := #[] }, { accessFlags := 10, nameIndex := 17, descriptorIndex := 12, attributes := #[] }, { accessFlags := 9, nameIndex := 21, descriptorIndex := 22, attributes := #[] }] 49 2 #[] #[])
  fields := #[]
  methods := #[k1m0, k1m1, k1m2]
  instanceTypes := #[]
  staticTypes := #[]
  resolved := Array.replicate 25 none
  statics := none }

def pool2 : Array CpInfo := pool [(2, .class_ 4), (1, u "com/example/binfold/binfold/XmlInput"), (3, .class_ 10), (1, u "java/lang/Object"), (65, u "limits"), (0, u "Lcom/example/binfold/binfold/XopReader$Limits;"), (0, .class_ 79), (0, u "com/example/binfold/binfold/XmlInput$UncheckedStream"), (9, u "reader"), (0, u "Ljavax/xml/stream/XMLStreamReader;"), (54, u "declarationsInScope"), (0, u "I"), (103, u "NOT_WELL_FORMED"), (34, u "MAX_NAME_LENGTH"), (2, u "MAX_ATTRIBUTES"), (1, u "MAX_ELEMENT_DEPTH"), (0, u "MAX_DECLARATIONS_IN_SCOPE"), (0, u "MAX_NAME_LENGTH_PROPERTY"), (0, u "Ljava/lang/String;"), (0, u "MAX_ATTRIBUTES_PROPERTY"), (0, u "MAX_ELEMENT_DEPTH_PROPERTY"), (0, u "DECLARATIONS_AS_ATTRIBUTES_PROPERTY"), (0, u "JDK_MESSAGE_LEAD"), (15, u "isText"), (0, u "(I)Z")] 44

def k2c0 : Code := { maxStack := 2, maxLocals := 1, code := prog_34_method_9_code, exceptionTable := #[], attributes := #[] }
def k2m0 : Method := { name := "isText", desc := "(I)Z", sig := { parameters := [.int], returnType := some .boolean }, accessFlags := 8, code := some k2c0 }
/-- com/example/binfold/binfold/XmlInput -/
def k2 : Class := { plain "com/example/binfold/binfold/XmlInput" (some 0) with
  accessFlags := 48
  interfaces := #[]
  cf := some (fileOf pool2 2 #[.nestMembers #[78]] #[{ accessFlags := 8, nameIndex := 313, descriptorIndex := 314, attributes := #[] }] 48 8 #[] #[{ accessFlags := 24, nameIndex := 285, descriptorIndex := 146, attributes := #[] }, { accessFlags := 24, nameIndex := 288, descriptorIndex := 146, attributes := #[] }, { accessFlags := 24, nameIndex := 290, descriptorIndex := 146, attributes := #[] }, { accessFlags := 24, nameIndex := 291, descriptorIndex := 146, attributes := #[] }, { accessFlags := 26, nameIndex := 292, descriptorIndex := 293, attributes := #[] }, { accessFlags := 26, nameIndex := 294, descriptorIndex := 293, attributes := #[] }, { accessFlags := 26, nameIndex := 295, descriptorIndex := 293, attributes := #[] }, { accessFlags := 26, nameIndex := 296, descriptorIndex := 293, attributes := #[] }, { accessFlags := 26, nameIndex := 297, descriptorIndex := 293, attributes := #[] }, { accessFlags := 26, nameIndex := 250, descriptorIndex := 293, attributes := #[] }, { accessFlags := 18, nameIndex := 89, descriptorIndex := 90, attributes := #[] }, { accessFlags := 18, nameIndex := 76, descriptorIndex := 77, attributes := #[] }, { accessFlags := 2, nameIndex := 145, descriptorIndex := 146, attributes := #[] }])
  fields := #[{ name := "MAX_NAME_LENGTH", type := .int, accessFlags := 24, slot := 0, constantValue := 0 }, { name := "MAX_ATTRIBUTES", type := .int, accessFlags := 24, slot := 1, constantValue := 0 }, { name := "MAX_ELEMENT_DEPTH", type := .int, accessFlags := 24, slot := 2, constantValue := 0 }, { name := "MAX_DECLARATIONS_IN_SCOPE", type := .int, accessFlags := 24, slot := 3, constantValue := 0 }, { name := "MAX_NAME_LENGTH_PROPERTY", type := (.object "java/lang/String"), accessFlags := 26, slot := 4, constantValue := 0 }, { name := "MAX_ATTRIBUTES_PROPERTY", type := (.object "java/lang/String"), accessFlags := 26, slot := 5, constantValue := 0 }, { name := "MAX_ELEMENT_DEPTH_PROPERTY", type := (.object "java/lang/String"), accessFlags := 26, slot := 6, constantValue := 0 }, { name := "DECLARATIONS_AS_ATTRIBUTES_PROPERTY", type := (.object "java/lang/String"), accessFlags := 26, slot := 7, constantValue := 0 }, { name := "JDK_MESSAGE_LEAD", type := (.object "java/lang/String"), accessFlags := 26, slot := 8, constantValue := 0 }, { name := "NOT_WELL_FORMED", type := (.object "java/lang/String"), accessFlags := 26, slot := 9, constantValue := 0 }, { name := "reader", type := (.object "javax/xml/stream/XMLStreamReader"), accessFlags := 18, slot := 0, constantValue := 0 }, { name := "limits", type := (.object "com/example/binfold/binfold/XopReader$Limits"), accessFlags := 18, slot := 1, constantValue := 0 }, { name := "declarationsInScope", type := .int, accessFlags := 2, slot := 2, constantValue := 0 }]
  methods := #[k2m0]
  instanceTypes := #[(.object "javax/xml/stream/XMLStreamReader"), (.object "com/example/binfold/binfold/XopReader$Limits"), .int]
  staticTypes := #[.int, .int, .int, .int, (.object "java/lang/String"), (.object "java/lang/String"), (.object "java/lang/String"), (.object "java/lang/String"), (.object "java/lang/String"), (.object "java/lang/String")]
  resolved := Array.replicate 359 none
  statics := none }

def pool3 : Array CpInfo := pool [(1, u "java/lang/Cloneable"), (0, .class_ 1), (0, u "java/lang/Object"), (0, .class_ 3)] 3

/-- java/lang/Cloneable -/
def k3 : Class := { plain "java/lang/Cloneable" (some 0) with
  accessFlags := 1537
  interfaces := #[]
  cf := some (fileOf pool3 2 #[] #[] 1537 4 #[] #[])
  fields := #[]
  methods := #[]
  instanceTypes := #[]
  staticTypes := #[]
  resolved := Array.replicate 8 none
  statics := none }

def pool4 : Array CpInfo := pool [(1, u "java/io/Serializable"), (0, .class_ 1), (0, u "java/lang/Object"), (0, .class_ 3)] 3

/-- java/io/Serializable -/
def k4 : Class := { plain "java/io/Serializable" (some 0) with
  accessFlags := 1537
  interfaces := #[]
  cf := some (fileOf pool4 2 #[] #[] 1537 4 #[] #[])
  fields := #[]
  methods := #[]
  instanceTypes := #[]
  staticTypes := #[]
  resolved := Array.replicate 8 none
  statics := none }

/-- the primitive byte -/
def k5 : Class := { plain "byte" none with kind := .primitive 'B', accessFlags := 0x411 }
/-- [B -/
def k6 : Class := { plain "[B" (some 0) with kind := .array 5 .byte, interfaces := #[3, 4], accessFlags := 1041 }

/-- the primitive int -/
def k7 : Class := { plain "int" none with kind := .primitive 'I', accessFlags := 0x411 }
/-- [I -/
def k8 : Class := { plain "[I" (some 0) with kind := .array 7 .int, interfaces := #[3, 4], accessFlags := 1041 }

def heap : Heap := #[]
def classes : Array Class := #[k0, k1, k2, k3, k4, k5, k6, k7, k8]
def interned : List (Array UInt16 × Addr) := []
def slotsUsed : Nat := 0
def theMethod : MethodId := ⟨1, 2⟩
def args0 : Array Value := #[.int 5, .int 4]
def aboutOver (below : List Frame) : State where
  vm := { classes := classes, interned := interned.toArray }
  heap := heap
  slotsUsed := slotsUsed
  threads := #[{ frames := .invoking theMethod args0 :: below }]
def below0 : List Frame := [.native { method := ⟨0, 0⟩, args := #[] }]
def about1 : State := aboutOver below0
def p0 : Program := .bare "" "" ""
def e0 : Env := launch0.env 0 0 0
theorem w_frames : about1.frames = Frame.invoking theMethod args0 :: below0 := rfl
set_option maxRecDepth 65536 in
theorem w_args : argsFit about1.vm theMethod args0 = true := by decide +kernel
set_option maxRecDepth 65536 in
theorem w_heap : heapFits about1 = true := by decide +kernel
set_option maxRecDepth 65536 in
theorem w_runnable : about1.curStatus? = some .runnable := by decide +kernel
set_option maxRecDepth 65536 in
theorem w_alone : about1.alone = true := by decide +kernel
set_option maxRecDepth 65536 in
theorem w_named : about1.methodNamed? x = some theMethod := by decide +kernel
set_option maxRecDepth 65536 in
theorem w_hears : about1.hears theMethod below0 = true := by decide +kernel
set_option maxRecDepth 65536 in
theorem w_ripe : about1.ripe theMethod args0 below0 = true := by decide +kernel
theorem w_running : about1.status = .running := rfl
set_option maxRecDepth 65536 in
theorem w_room : about1.hasRoom e0.platform room_1 = true :=
  launch0.hasRoom_least _ room_1 (by decide +kernel) (by decide +kernel) (by decide +kernel) (by decide +kernel) (by decide +kernel) (by decide +kernel)
theorem allAtoms_all (ts : List Jvm.Cond) (a : Array Jvm.Value) (st : Jvm.State) : (allAtoms ts).before a st = ts.all (fun c => c.before a st) := by
  induction ts with
  | nil => rfl
  | cons c t ih =>
    show (Jvm.Cond.and c (allAtoms t)).before a st = _
    rw [Jvm.Cond.before_and, ih, List.all_cons]
def words1 : List Jvm.Cond := Jvm.Cond.code x code maxLocals ret :: tables_1
/-- a 'code' word, met by the world's own term for the bytes: nothing is compared byte by byte -/
theorem code_word {y : MethodName} {bytes : ByteArray} {mx : Nat} {rt : Option FieldType} {a : Array Value} {s : State} {m : MethodId} {meth : Method} {c : Code} (h1 : s.methodNamed? y = some m) (h2 : s.vm.method? m = some meth) (h3 : meth.code = some c) (h4 : c.code = bytes)
    (h5 : (c.maxLocals == mx && c.exceptionTable.isEmpty && decide (c.maxStack ≤ mostOperands) && decide (meth.sig.returnType = rt) && !meth.locks && decide (parseMethodDescriptor y.desc = some meth.sig)) = true) : (Jvm.Cond.code y bytes mx rt).before a s = true := by
  simp only [Bool.and_eq_true, beq_iff_eq, Bool.not_eq_true', decide_eq_true_eq] at h5
  obtain ⟨⟨⟨⟨⟨g1, g2⟩, g3⟩, g4⟩, g5⟩, g6⟩ := h5
  simp [Cond.before, Cond.holds, Cond.value, h1, h2, h3, h4, g1, g2, g3, g4, g5, g6]
def isCode : Jvm.Cond → Bool
  | .code _ _ _ _ => true
  | _ => false
theorem all_split {L : List Jvm.Cond} {P : Jvm.Cond → Bool} (h1 : L.all (fun c => isCode c || P c) = true) (h2 : ∀ c ∈ L.filter isCode, P c = true) : L.all P = true := by
  refine List.all_eq_true.mpr fun c hc => ?_
  have h := List.all_eq_true.mp h1 c hc
  rcases Bool.eq_false_or_eq_true (isCode c) with hi | hi
  · exact h2 c (List.mem_filter.mpr ⟨hc, hi⟩)
  · simpa [hi] using h
set_option maxRecDepth 65536 in
theorem w_c0 : (Jvm.Cond.code x code maxLocals ret).before args0 about1 = true := code_word (m := ⟨1, 2⟩) (meth := k1m2) (c := k1c2) (by decide +kernel) rfl rfl rfl (by decide +kernel)
set_option maxRecDepth 65536 in
theorem w_c1 : (Jvm.Cond.code ({ cls := "com/example/binfold/binfold/XmlInput", name := "isText", desc := "(I)Z" } : Jvm.MethodName) prog_34_method_9_code (1 : Nat) (Option.some Jvm.ClassFile.FieldType.boolean)).before args0 about1 = true := code_word (m := ⟨2, 0⟩) (meth := k2m0) (c := k2c0) (by decide +kernel) rfl rfl rfl (by decide +kernel)
set_option maxRecDepth 65536 in
theorem w_c2 : (Jvm.Cond.code ({ cls := "com/example/binfold/binfold/XmlInputIsTextPinLaw", name := "reference", desc := "(I)Z" } : Jvm.MethodName) method_2_code (1 : Nat) (Option.some Jvm.ClassFile.FieldType.boolean)).before args0 about1 = true := code_word (m := ⟨1, 1⟩) (meth := k1m1) (c := k1c1) (by decide +kernel) rfl rfl rfl (by decide +kernel)
def codes1 : List Jvm.Cond := [Jvm.Cond.code x code maxLocals ret, Jvm.Cond.code ({ cls := "com/example/binfold/binfold/XmlInput", name := "isText", desc := "(I)Z" } : Jvm.MethodName) prog_34_method_9_code (1 : Nat) (Option.some Jvm.ClassFile.FieldType.boolean), Jvm.Cond.code ({ cls := "com/example/binfold/binfold/XmlInputIsTextPinLaw", name := "reference", desc := "(I)Z" } : Jvm.MethodName) method_2_code (1 : Nat) (Option.some Jvm.ClassFile.FieldType.boolean)]
set_option maxRecDepth 65536 in
theorem codes_eq : words1.filter isCode = codes1 := rfl
theorem w_codes : ∀ c ∈ words1.filter isCode, c.before args0 about1 = true := by
  rw [codes_eq]
  intro c hc
  simp only [codes1, List.mem_cons, List.not_mem_nil, or_false] at hc
  rcases hc with rfl | rfl | rfl
  · exact w_c0
  · exact w_c1
  · exact w_c2
set_option maxRecDepth 65536 in
theorem w_t1 : words1.all (fun c => isCode c || c.before args0 about1) = true := by decide +kernel
theorem w_tables : (allAtoms (Jvm.Cond.code x code maxLocals ret :: tables_1)).before args0 about1 = true := by
  rw [allAtoms_all]
  show words1.all (fun c => c.before args0 about1) = true
  refine all_split ?_ w_codes
  rw [w_t1]
set_option maxRecDepth 65536 in
theorem w_case : (Jvm.Cond.and given_1 narrow_1).before args0 about1 = true := by decide +kernel
theorem w_applies : (headSpec (Jvm.Cond.code x code maxLocals ret :: tables_1) room_1).applies x e0.platform about1 = true :=
  (Spec.applies_iff w_frames).mpr ⟨w_running, w_runnable, w_alone, w_named, w_hears, w_ripe, w_room, w_tables⟩
theorem atStart : AtStart classFile x code maxLocals ret World_1 tables_1 room_1 Calls_1 rest_1 Pre_1 launch0 p0 e0 about1 theMethod args0 below0 :=
  ⟨lists_1, trivial, launch0.admits_env _ _ _, launch0.least_env, fairChoices_fair.cas, fairChoices_fair.clock, w_frames, w_args, w_heap, w_applies, trivial, trivial, w_case⟩
end start1
theorem witness_1 : WitnessClaimed_1 := ⟨start1.p0, start1.e0, start1.about1, start1.theMethod, start1.args0, start1.below0, start1.atStart⟩
end Jvm.Pilot.@@N@@
