import JvmDerived
import JvmDerived.Pilot.@@N@@Statement
import JvmDerived.Pilot.@@N@@Code
set_option linter.unusedVariables false
set_option linter.unusedSimpArgs false
@@BLOCK:NumsL.lean.txt@@
namespace Jvm.RoadKit
open Sem ClassFile Op Lib Jvm.Stand Jvm.Free Jvm.LawKit
section New
variable {p : Program} {l : Launch} {e : Env} {R : Room} {s : State} {m : MethodId} {args : Array Value} {below : List Frame} {meth : Method} {c : Code} {T : State} {locs : List Loc} {cells slots : Nat}
theorem retI (X : Stand p l e R s m args below meth c T locs cells slots) (hx : p.tables.exec = Jvm.exec) {pc : Nat} {Ls : Array Slot} {z : Int32} {rest : List Value} (hret : meth.sig.returnType = some .int) (hd : decode c.code pc = .ok (.ireturn, 1)) {fs : List Frame}
    (hl : ∀ (f : JFrame) (acts : List Action), f.method = m → f.locked = none → f.entered = [] → (doReturn e (T.setTop f) acts (some (.int z))).1 = T.setFrames fs) : Steps p.tables e below (T.setTop (mkF m pc Ls (.int z :: rest))) (T.setFrames fs) := by
  have hm' : T.vm.method? m = some meth := X.method'
  have hn : narrow .int (.int z) = .int z := rfl
  show Steps p.tables e below (T.setTop { method := m, pc := pc, locals := Ls, stack := _ :: rest, locked := none }) _
  jvm_step X.here [X.here.top, hx, hd, hm', hret, hn]
  first | (intro acts; rw [hl _ acts rfl rfl rfl]) | rw [hl _ _ rfl rfl rfl]
  exact Steps.refl _
end New
end Jvm.RoadKit
namespace Jvm.Pilot.@@N@@
open Jvm Jvm.ClassFile Sem Op Lib Jvm.Free Jvm.Stand Jvm.LawKit Jvm.RoadKit Bundle Jvm.Pilot.@@N@@.Jvm.D
/-- the rest of a run, in passing style: some state is come to at which F holds -/
def Go (p : Program) (e : Env) (below : List Frame) (F : State → Outcome → Prop) (t : State) : Prop := ∃ u o, Steps p.tables e below t u ∧ F u o
theorem Go.back {p : Program} {e : Env} {below : List Frame} {F : State → Outcome → Prop} {t t' : State} (k : ∀ u, Steps p.tables e below t' u → Steps p.tables e below t u) (h : Go p e below F t') : Go p e below F t := by
  obtain ⟨u, o, h1, h2⟩ := h
  exact ⟨u, o, k u h1, h2⟩
def own_F (s : State) (below : List Frame) (Q : Option Value → Heap → List Loc → Prop) (cells slots : Nat) (u : State) (o : Outcome) : Prop := u.status = .running ∧ Ended u below o ∧ ∃ v L, o = .returned v ∧ Q v u.heap L ∧ FrameEnd s o u L cells slots
theorem own_field {args : Array Value} {s : State} {t : Term} {C n d : String} {x : Addr} {v : Value} (h : t.eval args s none [] s = some (.ref x)) (h2 : (Term.field t C n d).eval args s none [] s = some v) : s.fieldOf? x C n d = some v := by
  simpa [Term.eval, h] using h2
theorem own_bit {x : Int32} (h : x = 0 ∨ x = 1) : narrow .boolean (.int x) = .int x ∧ fits .boolean (.int x) = true := by
  rcases h with rfl | rfl <;> decide
theorem own_lrem_eq (x y : Int64) : x - (x / y) * y = x % y := Int64.toInt_inj.mp ((Jvm.Kit.i64_rem x y).trans (Int64.toInt_mod x y).symm)
theorem own_lremM {tb : Tables} [Ours tb] {e : Env} {below : List Frame} {T target : State} {m : MethodId} {c : Code} {g : JFrame} (h : At T m c below) (hx : tb.exec = Jvm.exec) (hg : g.method = m) {x y : Int64} {rest : List Value} (hd : decode c.code g.pc = .ok (.lrem, 1)) (hs : g.stack = .long y :: .long x :: rest) (hy : y ≠ 0)
    (hr : Steps tb e below (T.setTop { g with pc := g.pc + 1, stack := .long (x % y) :: rest }) target) : Steps tb e below (T.setTop g) target :=
  XT.lrem h hx hg hd hs hy (by rw [own_lrem_eq]; exact hr)
theorem own_pn0 : plainName "java/lang/Record" = true := by first | (simp [plainName, overriddenIn]; done) | decide +kernel
theorem own_d2_0 : decode jdk_30_method_1_code 0 = .ok (.aload_n 0, 1) := by decide +kernel
theorem own_d2_1 : decode jdk_30_method_1_code 1 = .ok (.invokespecial 1, 3) := by decide +kernel
theorem own_d2_4 : decode jdk_30_method_1_code 4 = .ok (.return_, 1) := by decide +kernel
theorem own_ef_own_recInit (m : MethodId) (x0 : Addr) : entryFrame m #[(.ref x0)] 1 = mkF m 0 #[.val (.ref x0)] [] := by first | (simp [entryFrame, mkF, argsToLocals, Value.category]; done) | rfl
def Q_own_recInit (Z : State) (a : Addr) (h0 : Heap) (n0 : Nat) (v : Option Value) (h : Heap) (L : List Loc) : Prop := v = none ∧ Fr n0 L ∧ h = h0
set_option maxRecDepth 65536 in
set_option maxHeartbeats 40000000 in
theorem own_recInit (l : Launch) (Z : State) (a0 : Array Value) (hw : ∀ d ∈ tables_1, d.before a0 Z = true) (ws : List Jvm.Cond) (a : Addr) (h0 : Heap) (n0 : Nat) (Z0 : n0 ≤ h0.size) :
    MetFree l (⟨"java/lang/Record", "<init>", "()V"⟩ : MethodName) (head1 (Jvm.Cond.code (⟨"java/lang/Record", "<init>", "()V"⟩ : MethodName) jdk_30_method_1_code 1 none :: ws) ({ frames := 1, cells := 0, slots := 0, locals := 12 } : Room)) (fun as_ U => as_ = #[(.ref a)] ∧ Z.Warmed39 U.vm ∧ U.heap = h0) (fun _ _ _ _ _ => True) (fun _ U o U' => ∃ v L, o = .returned v ∧ Q_own_recInit Z a h0 n0 v U'.heap L ∧ FrameEnd U o U' L ({ frames := 1, cells := 0, slots := 0, locals := 12 } : Room).cells ({ frames := 1, cells := 0, slots := 0, locals := 12 } : Room).slots) := by
  refine MetFree.of_bodySF (plainFor_of_name own_pn0) hisR ?_
  intro p e s m args below meth c s₁ Bd hml0 hP hK
  obtain ⟨rfl, hZ, hh⟩ := hP
  have hx := Bd.exec
  have hby := Bd.bytes
  have hml : c.maxLocals = 1 := hml0
  have hown : s.vm.findClass "java/lang/Record" = some m.cls := findClass_of_methodNamed Bd.named
  have hnm := (name_of_methodNamed Bd.named Bd.method).1
  have X0 : Stand p l e ({ frames := 1, cells := 0, slots := 0, locals := 12 } : Room) s m #[(.ref a)] below meth c s₁ [] 0 0 := Stand.of_body Bd
  have e0 : s₁.heap = h0 := by rw [← hh, Bd.state]; rfl
  have N0 := Fr.nil n0
  have K0 := Keep.refl h0 []
  show Go p e below (own_F s below (Q_own_recInit Z a h0 n0) ({ frames := 1, cells := 0, slots := 0, locals := 12 } : Room).cells ({ frames := 1, cells := 0, slots := 0, locals := 12 } : Room).slots) (s₁.setTop (entryFrame m #[(.ref a)] 1))
  rw [own_ef_own_recInit m a]
  refine Go.back (t' := (s₁.setTop (mkF m 1 #[.val (.ref a)] [(.ref a)]))) (fun u k => XS.aloadN X0.here hx rfl (hb hby own_d2_0) rfl rfl k) ?_
  obtain ⟨T1, X1, e1, st1⟩ := initO X0 hx hZ hown (hw _ (List.mem_of_getElem? (i := 12) rfl)) (hw _ (List.mem_of_getElem? (i := 13) rfl)) (hw _ (List.mem_of_getElem? (i := 14) rfl)) e0 (g := (mkF m 1 #[.val (.ref a)] [(.ref a)])) rfl (by rw [hml]; rfl) rfl (hb hby own_d2_1) (by decide) (W := 0) (by show 2 * 0 + _ ≤ _; exact Nat.le_of_eq rfl) (by decide)
  refine Go.back (t' := (T1.setTop (mkF m 4 #[.val (.ref a)] []))) st1 ?_
  obtain ⟨fs, hr, hrun, hended, hW, hsame⟩ := X1.leave (v := none) (fun _ => rfl)
  refine ⟨_, _, X1.returnOut hx Bd.returns (hb hby own_d2_4) hr, hrun, hended, _, _, rfl, ?_, ⟨_, rfl⟩, hW, hsame.mono (by decide) (by decide)⟩
  show Q_own_recInit Z a h0 n0 _ T1.heap _
  rw [e1]
  exact ⟨rfl, N0, rfl⟩
theorem own_pd0 : parseMethodDescriptor "()V" = some ⟨[], none⟩ := by decide +kernel
theorem own_pn1 : plainName "com/example/waypath/waypath/evaluator/StepLimit" = true := by first | (simp [plainName, overriddenIn]; done) | decide +kernel
theorem own_d1_0 : decode prog_9_method_1_code 0 = .ok (.aload_n 0, 1) := by decide +kernel
theorem own_d1_1 : decode prog_9_method_1_code 1 = .ok (.invokespecial 7, 3) := by decide +kernel
theorem own_d1_4 : decode prog_9_method_1_code 4 = .ok (.lload_n 1, 1) := by decide +kernel
theorem own_d1_5 : decode prog_9_method_1_code 5 = .ok (.lconst 0, 1) := by decide +kernel
theorem own_d1_6 : decode prog_9_method_1_code 6 = .ok (.lcmp, 1) := by decide +kernel
theorem own_d1_7 : decode prog_9_method_1_code 7 = .ok (.ifCond .lt 9, 3) := by decide +kernel
theorem own_d1_10 : decode prog_9_method_1_code 10 = .ok (.lload_n 3, 1) := by decide +kernel
theorem own_d1_11 : decode prog_9_method_1_code 11 = .ok (.lconst 0, 1) := by decide +kernel
theorem own_d1_12 : decode prog_9_method_1_code 12 = .ok (.lcmp, 1) := by decide +kernel
theorem own_d1_13 : decode prog_9_method_1_code 13 = .ok (.ifCond .ge 18, 3) := by decide +kernel
theorem own_d1_16 : decode prog_9_method_1_code 16 = .ok (.new 12, 3) := by decide +kernel
theorem own_d1_19 : decode prog_9_method_1_code 19 = .ok (.dup, 1) := by decide +kernel
theorem own_d1_20 : decode prog_9_method_1_code 20 = .ok (.lload_n 1, 1) := by decide +kernel
theorem own_d1_21 : decode prog_9_method_1_code 21 = .ok (.lload_n 3, 1) := by decide +kernel
theorem own_d1_22 : decode prog_9_method_1_code 22 = .ok (.invokedynamic 14, 5) := by decide +kernel
theorem own_d1_27 : decode prog_9_method_1_code 27 = .ok (.invokespecial 18, 3) := by decide +kernel
theorem own_d1_30 : decode prog_9_method_1_code 30 = .ok (.athrow, 1) := by decide +kernel
theorem own_d1_31 : decode prog_9_method_1_code 31 = .ok (.aload_n 0, 1) := by decide +kernel
theorem own_d1_32 : decode prog_9_method_1_code 32 = .ok (.lload_n 1, 1) := by decide +kernel
theorem own_d1_33 : decode prog_9_method_1_code 33 = .ok (.putfield 21, 3) := by decide +kernel
theorem own_d1_36 : decode prog_9_method_1_code 36 = .ok (.aload_n 0, 1) := by decide +kernel
theorem own_d1_37 : decode prog_9_method_1_code 37 = .ok (.lload_n 3, 1) := by decide +kernel
theorem own_d1_38 : decode prog_9_method_1_code 38 = .ok (.putfield 25, 3) := by decide +kernel
theorem own_d1_41 : decode prog_9_method_1_code 41 = .ok (.return_, 1) := by decide +kernel
theorem own_ef_own_init (m : MethodId) (x0 : Addr) (x1 : Int64) (x2 : Int64) : entryFrame m #[(.ref x0), (.long x1), (.long x2)] 5 = mkF m 0 #[.val (.ref x0), .val (.long x1), .second, .val (.long x2), .second] [] := by first | (simp [entryFrame, mkF, argsToLocals, Value.category]; done) | rfl
def Q_own_init (Z : State) (a : Addr) (q1 : Int64) (q2 : Int64) (h0 : Heap) (n0 : Nat) (v : Option Value) (h : Heap) (L : List Loc) : Prop := v = none ∧ Fr n0 L ∧ Keep h0 h [a] ∧ Exa Z h a "com/example/waypath/waypath/evaluator/StepLimit" ∧ Fld Z h a "com/example/waypath/waypath/evaluator/StepLimit" "steps" "J" (.long q1) ∧ Fld Z h a "com/example/waypath/waypath/evaluator/StepLimit" "stepsPerInputItem" "J" (.long q2)
set_option maxRecDepth 65536 in
set_option maxHeartbeats 40000000 in
theorem own_init (l : Launch) (Z : State) (a0 : Array Value) (hw : ∀ d ∈ tables_1, d.before a0 Z = true) (ws : List Jvm.Cond) (a : Addr) (q1 : Int64) (q2 : Int64) (h0 : Heap) (n0 : Nat) (Z0 : n0 ≤ h0.size) (E_a : Exa Z h0 a "com/example/waypath/waypath/evaluator/StepLimit") (F_a_steps : Fld Z h0 a "com/example/waypath/waypath/evaluator/StepLimit" "steps" "J" (.long (0 : Int64))) (F_a_stepsPerInputItem : Fld Z h0 a "com/example/waypath/waypath/evaluator/StepLimit" "stepsPerInputItem" "J" (.long (0 : Int64))) (g_a : n0 ≤ a) (kn_4 : ¬ (q1 < (0 : Int64))) (kn_5 : ¬ (q2 < (0 : Int64))) :
    MetFree l (⟨"com/example/waypath/waypath/evaluator/StepLimit", "<init>", "(JJ)V"⟩ : MethodName) (head1 (Jvm.Cond.code (⟨"com/example/waypath/waypath/evaluator/StepLimit", "<init>", "(JJ)V"⟩ : MethodName) prog_9_method_1_code 5 none :: ws) ({ frames := 2, cells := 0, slots := 0, locals := 24 } : Room)) (fun as_ U => as_ = #[(.ref a), (.long q1), (.long q2)] ∧ Z.Warmed39 U.vm ∧ U.heap = h0) (fun _ _ _ _ _ => True) (fun _ U o U' => ∃ v L, o = .returned v ∧ Q_own_init Z a q1 q2 h0 n0 v U'.heap L ∧ FrameEnd U o U' L ({ frames := 2, cells := 0, slots := 0, locals := 24 } : Room).cells ({ frames := 2, cells := 0, slots := 0, locals := 24 } : Room).slots) := by
  refine MetFree.of_bodySF (plainFor_of_name own_pn1) hisR ?_
  intro p e s m args below meth c s₁ Bd hml0 hP hK
  obtain ⟨rfl, hZ, hh⟩ := hP
  have hx := Bd.exec
  have hby := Bd.bytes
  have hml : c.maxLocals = 5 := hml0
  have hown : s.vm.findClass "com/example/waypath/waypath/evaluator/StepLimit" = some m.cls := findClass_of_methodNamed Bd.named
  have hnm := (name_of_methodNamed Bd.named Bd.method).1
  have X0 : Stand p l e ({ frames := 2, cells := 0, slots := 0, locals := 24 } : Room) s m #[(.ref a), (.long q1), (.long q2)] below meth c s₁ [] 0 0 := Stand.of_body Bd
  have e0 : s₁.heap = h0 := by rw [← hh, Bd.state]; rfl
  have N0 := Fr.nil n0
  have K0 := Keep.refl h0 [a]
  show Go p e below (own_F s below (Q_own_init Z a q1 q2 h0 n0) ({ frames := 2, cells := 0, slots := 0, locals := 24 } : Room).cells ({ frames := 2, cells := 0, slots := 0, locals := 24 } : Room).slots) (s₁.setTop (entryFrame m #[(.ref a), (.long q1), (.long q2)] 5))
  rw [own_ef_own_init m a q1 q2]
  refine Go.back (t' := (s₁.setTop (mkF m 1 #[.val (.ref a), .val (.long q1), .second, .val (.long q2), .second] [(.ref a)]))) (fun u k => XS.aloadN X0.here hx rfl (hb hby own_d1_0) rfl rfl k) ?_
  obtain ⟨_, _, ⟨T1, L1, k1, n1⟩, -, X1, ⟨Lc1, hQ1, l1, y1, z1⟩, st1⟩ := X0.specialBack hx (y := (⟨"java/lang/Record", "<init>", "()V"⟩ : MethodName)) rfl hown (mvT hZ (hw _ (List.mem_of_getElem? (i := 7) rfl))) (mvT hZ (hw _ (List.mem_of_getElem? (i := 8) rfl))) (mvT hZ (hw _ (List.mem_of_getElem? (i := 11) rfl))) (by decide) (backOf (W := 0) (own_recInit l Z a0 hw [] a h0 n0 Z0 ) hZ (hw _ (List.mem_of_getElem? (i := 11) rfl)) (hw _ (List.mem_of_getElem? (i := 10) rfl)) (by decide) (by decide)) (g := (mkF m 1 #[.val (.ref a), .val (.long q1), .second, .val (.long q2), .second] [(.ref a)])) rfl (by rw [hml]; rfl) (Steps.refl _) (a := a) (argsL := []) (rest := []) (lenOf own_pd0 rfl) rfl (by show 2 * 0 + _ ≤ _; exact Nat.le_of_eq rfl) (hb hby own_d1_1) (fun _ _ => ⟨rfl, e0, (by decide : 0 + 0 ≤ _), (by decide : 0 + 0 ≤ _)⟩)
  dsimp only [Pt.U, Pt.locs, Pt.cells, Pt.slots] at X1 l1 y1 z1 st1 hQ1
  subst l1 y1 z1
  obtain ⟨rfl, N1, e1⟩ := hQ1
  have NA1 := Fr.app N0 N1
  refine Go.back (t' := (T1.setTop (mkF m 4 #[.val (.ref a), .val (.long q1), .second, .val (.long q2), .second] []))) (fun u k => st1.trans k) ?_
  refine Go.back (t' := (T1.setTop (mkF m 5 #[.val (.ref a), .val (.long q1), .second, .val (.long q2), .second] [(.long q1)]))) (fun u k => XT.lloadN X1.here hx rfl (hb hby own_d1_4) rfl k) ?_
  refine Go.back (t' := (T1.setTop (mkF m 6 #[.val (.ref a), .val (.long q1), .second, .val (.long q2), .second] [(.long (0 : Int64)), (.long q1)]))) (fun u k => XT.lconstV X1.here hx rfl (0 : Int64) (hb hby own_d1_5) (by decide) k) ?_
  refine Go.back (t' := (T1.setTop (mkF m 7 #[.val (.ref a), .val (.long q1), .second, .val (.long q2), .second] [(.int (XT.cmpL q1 (0 : Int64)))]))) (fun u k => XT.lcmp X1.here hx rfl (hb hby own_d1_6) rfl k) ?_
  refine Go.back (t' := (T1.setTop (mkF m 10 #[.val (.ref a), .val (.long q1), .second, .val (.long q2), .second] []))) (fun u k => XS.ifNo X1.here hx rfl (hb hby own_d1_7) rfl (XT.ll_lt_f kn_4) k) ?_
  refine Go.back (t' := (T1.setTop (mkF m 11 #[.val (.ref a), .val (.long q1), .second, .val (.long q2), .second] [(.long q2)]))) (fun u k => XT.lloadN X1.here hx rfl (hb hby own_d1_10) rfl k) ?_
  refine Go.back (t' := (T1.setTop (mkF m 12 #[.val (.ref a), .val (.long q1), .second, .val (.long q2), .second] [(.long (0 : Int64)), (.long q2)]))) (fun u k => XT.lconstV X1.here hx rfl (0 : Int64) (hb hby own_d1_11) (by decide) k) ?_
  refine Go.back (t' := (T1.setTop (mkF m 13 #[.val (.ref a), .val (.long q1), .second, .val (.long q2), .second] [(.int (XT.cmpL q2 (0 : Int64)))]))) (fun u k => XT.lcmp X1.here hx rfl (hb hby own_d1_12) rfl k) ?_
  refine Go.back (t' := (T1.setTop (mkF m 31 #[.val (.ref a), .val (.long q1), .second, .val (.long q2), .second] []))) (fun u k => XS.ifYes X1.here hx rfl (pc0 := 13) (pc' := 31) rfl (hb hby own_d1_13) rfl (XT.ll_ge_t kn_5) (by decide) (by decide) k) ?_
  refine Go.back (t' := (T1.setTop (mkF m 32 #[.val (.ref a), .val (.long q1), .second, .val (.long q2), .second] [(.ref a)]))) (fun u k => XS.aloadN X1.here hx rfl (hb hby own_d1_31) rfl rfl k) ?_
  refine Go.back (t' := (T1.setTop (mkF m 33 #[.val (.ref a), .val (.long q1), .second, .val (.long q2), .second] [(.long q1), (.ref a)]))) (fun u k => XT.lloadN X1.here hx rfl (hb hby own_d1_32) rfl k) ?_
  obtain ⟨T2, h2, X2, e2, W2, st2⟩ := putF X1 hx hZ hown (host := "") (Or.inl (hw _ (List.mem_of_getElem? (i := 15) rfl))) Via.refl e1 F_a_steps E_a (Or.inr ⟨(hw _ (List.mem_of_getElem? (i := 16) rfl)), rfl, hnm⟩) (hw _ (List.mem_of_getElem? (i := 2) rfl)) (ty := .long) (by decide) rfl rfl (g := (mkF m 33 #[.val (.ref a), .val (.long q1), .second, .val (.long q2), .second] [(.long q1), (.ref a)])) rfl rfl (hb hby own_d1_33)
  have Z2 : n0 ≤ h2.size := Nat.le_trans Z0 (Keep.of_wr W2).1
  have K2 := K0.wr W2 (Or.inl (List.mem_of_getElem? (i := 0) rfl))
  have N2 := Fr.snoc X2 NA1 g_a
  have F2 := F_a_steps.same W2
  refine Go.back (t' := (T2.setTop (mkF m 36 #[.val (.ref a), .val (.long q1), .second, .val (.long q2), .second] []))) st2 ?_
  refine Go.back (t' := (T2.setTop (mkF m 37 #[.val (.ref a), .val (.long q1), .second, .val (.long q2), .second] [(.ref a)]))) (fun u k => XS.aloadN X2.here hx rfl (hb hby own_d1_36) rfl rfl k) ?_
  refine Go.back (t' := (T2.setTop (mkF m 38 #[.val (.ref a), .val (.long q1), .second, .val (.long q2), .second] [(.long q2), (.ref a)]))) (fun u k => XT.lloadN X2.here hx rfl (hb hby own_d1_37) rfl k) ?_
  have f4 := (F_a_stepsPerInputItem.other W2 (Or.inr (slot_ne (Or.inr (hw _ (List.mem_of_getElem? (i := 18) rfl))) (Or.inr (hw _ (List.mem_of_getElem? (i := 16) rfl))) (by decide) (t := .long) (t' := .long) (by decide) (by decide))))
  have f5 := (E_a.wr W2)
  obtain ⟨T3, h3, X3, e3, W3, st3⟩ := putF X2 hx hZ hown (host := "") (Or.inl (hw _ (List.mem_of_getElem? (i := 17) rfl))) Via.refl e2 f4 f5 (Or.inr ⟨(hw _ (List.mem_of_getElem? (i := 18) rfl)), rfl, hnm⟩) (hw _ (List.mem_of_getElem? (i := 2) rfl)) (ty := .long) (by decide) rfl rfl (g := (mkF m 38 #[.val (.ref a), .val (.long q1), .second, .val (.long q2), .second] [(.long q2), (.ref a)])) rfl rfl (hb hby own_d1_38)
  have Z3 : n0 ≤ h3.size := Nat.le_trans Z2 (Keep.of_wr W3).1
  have K3 := K2.wr W3 (Or.inl (List.mem_of_getElem? (i := 0) rfl))
  have N3 := Fr.snoc X3 N2 g_a
  have F3 := f4.same W3
  refine Go.back (t' := (T3.setTop (mkF m 41 #[.val (.ref a), .val (.long q1), .second, .val (.long q2), .second] []))) st3 ?_
  have f6 := (f5.wr W3)
  have f7 := (F2.other W3 (Or.inr (slot_ne (Or.inr (hw _ (List.mem_of_getElem? (i := 16) rfl))) (Or.inr (hw _ (List.mem_of_getElem? (i := 18) rfl))) (by decide) (t := .long) (t' := .long) (by decide) (by decide))))
  obtain ⟨fs, hr, hrun, hended, hW, hsame⟩ := X3.leave (v := none) (fun _ => rfl)
  refine ⟨_, _, X3.returnOut hx Bd.returns (hb hby own_d1_41) hr, hrun, hended, _, _, rfl, ?_, ⟨_, rfl⟩, hW, hsame.mono (by decide) (by decide)⟩
  show Q_own_init Z a q1 q2 h0 n0 _ T3.heap _
  rw [e3]
  exact ⟨rfl, N3, K3, f6, f7, F3⟩
def F_own_sum (p0 : Int64) (p1 : Int64) (p2 : Int64) : Int64 := (if p1 = (0 : Int64) then (p0 + (p1 * p2)) else (if (((9223372036854775807 : Int64) - p0) / p1) < p2 then (9223372036854775807 : Int64) else (p0 + (p1 * p2))))
theorem own_d5_0 : decode prog_9_method_5_code 0 = .ok (.lload_n 2, 1) := by decide +kernel
theorem own_d5_1 : decode prog_9_method_5_code 1 = .ok (.lconst 0, 1) := by decide +kernel
theorem own_d5_2 : decode prog_9_method_5_code 2 = .ok (.lcmp, 1) := by decide +kernel
theorem own_d5_3 : decode prog_9_method_5_code 3 = .ok (.ifCond .eq 20, 3) := by decide +kernel
theorem own_d5_6 : decode prog_9_method_5_code 6 = .ok (.lload 4, 2) := by decide +kernel
theorem own_d5_8 : decode prog_9_method_5_code 8 = .ok (.ldc2_w 34, 3) := by decide +kernel
theorem own_d5_11 : decode prog_9_method_5_code 11 = .ok (.lload_n 0, 1) := by decide +kernel
theorem own_d5_12 : decode prog_9_method_5_code 12 = .ok (.lsub, 1) := by decide +kernel
theorem own_d5_13 : decode prog_9_method_5_code 13 = .ok (.lload_n 2, 1) := by decide +kernel
theorem own_d5_14 : decode prog_9_method_5_code 14 = .ok (.ldiv, 1) := by decide +kernel
theorem own_d5_15 : decode prog_9_method_5_code 15 = .ok (.lcmp, 1) := by decide +kernel
theorem own_d5_16 : decode prog_9_method_5_code 16 = .ok (.ifCond .le 7, 3) := by decide +kernel
theorem own_d5_19 : decode prog_9_method_5_code 19 = .ok (.ldc2_w 34, 3) := by decide +kernel
theorem own_d5_22 : decode prog_9_method_5_code 22 = .ok (.lreturn, 1) := by decide +kernel
theorem own_d5_23 : decode prog_9_method_5_code 23 = .ok (.lload_n 0, 1) := by decide +kernel
theorem own_d5_24 : decode prog_9_method_5_code 24 = .ok (.lload_n 2, 1) := by decide +kernel
theorem own_d5_25 : decode prog_9_method_5_code 25 = .ok (.lload 4, 2) := by decide +kernel
theorem own_d5_27 : decode prog_9_method_5_code 27 = .ok (.lmul, 1) := by decide +kernel
theorem own_d5_28 : decode prog_9_method_5_code 28 = .ok (.ladd, 1) := by decide +kernel
theorem own_d5_29 : decode prog_9_method_5_code 29 = .ok (.lreturn, 1) := by decide +kernel
theorem own_ef_own_sum (m : MethodId) (x0 : Int64) (x1 : Int64) (x2 : Int64) : entryFrame m #[(.long x0), (.long x1), (.long x2)] 6 = mkF m 0 #[.val (.long x0), .second, .val (.long x1), .second, .val (.long x2), .second] [] := by first | (simp [entryFrame, mkF, argsToLocals, Value.category]; done) | rfl
def Q_own_sum (Z : State) (p0 : Int64) (p1 : Int64) (p2 : Int64) (h0 : Heap) (n0 : Nat) (v : Option Value) (h : Heap) (L : List Loc) : Prop := v = some (.long (F_own_sum p0 p1 p2)) ∧ Fr n0 L ∧ h = h0
set_option maxRecDepth 65536 in
set_option maxHeartbeats 40000000 in
theorem own_sum (l : Launch) (Z : State) (a0 : Array Value) (hw : ∀ d ∈ tables_1, d.before a0 Z = true) (ws : List Jvm.Cond) (p0 : Int64) (p1 : Int64) (p2 : Int64) (h0 : Heap) (n0 : Nat) (Z0 : n0 ≤ h0.size) :
    MetFree l (⟨"com/example/waypath/waypath/evaluator/StepLimit", "sum", "(JJJ)J"⟩ : MethodName) (head1 (Jvm.Cond.code (⟨"com/example/waypath/waypath/evaluator/StepLimit", "sum", "(JJJ)J"⟩ : MethodName) prog_9_method_5_code 6 (some .long) :: ws) ({ frames := 0, cells := 0, slots := 0, locals := 0 } : Room)) (fun as_ U => as_ = #[(.long p0), (.long p1), (.long p2)] ∧ Z.Warmed39 U.vm ∧ U.heap = h0) (fun _ _ _ _ _ => True) (fun _ U o U' => ∃ v L, o = .returned v ∧ Q_own_sum Z p0 p1 p2 h0 n0 v U'.heap L ∧ FrameEnd U o U' L ({ frames := 0, cells := 0, slots := 0, locals := 0 } : Room).cells ({ frames := 0, cells := 0, slots := 0, locals := 0 } : Room).slots) := by
  refine MetFree.of_bodySF (plainFor_of_name own_pn1) hisR ?_
  intro p e s m args below meth c s₁ Bd hml0 hP hK
  obtain ⟨rfl, hZ, hh⟩ := hP
  have hx := Bd.exec
  have hby := Bd.bytes
  have hml : c.maxLocals = 6 := hml0
  have hown : s.vm.findClass "com/example/waypath/waypath/evaluator/StepLimit" = some m.cls := findClass_of_methodNamed Bd.named
  have hnm := (name_of_methodNamed Bd.named Bd.method).1
  have X0 : Stand p l e ({ frames := 0, cells := 0, slots := 0, locals := 0 } : Room) s m #[(.long p0), (.long p1), (.long p2)] below meth c s₁ [] 0 0 := Stand.of_body Bd
  have e0 : s₁.heap = h0 := by rw [← hh, Bd.state]; rfl
  have N0 := Fr.nil n0
  have K0 := Keep.refl h0 []
  show Go p e below (own_F s below (Q_own_sum Z p0 p1 p2 h0 n0) ({ frames := 0, cells := 0, slots := 0, locals := 0 } : Room).cells ({ frames := 0, cells := 0, slots := 0, locals := 0 } : Room).slots) (s₁.setTop (entryFrame m #[(.long p0), (.long p1), (.long p2)] 6))
  rw [own_ef_own_sum m p0 p1 p2]
  refine Go.back (t' := (s₁.setTop (mkF m 1 #[.val (.long p0), .second, .val (.long p1), .second, .val (.long p2), .second] [(.long p1)]))) (fun u k => XT.lloadN X0.here hx rfl (hb hby own_d5_0) rfl k) ?_
  refine Go.back (t' := (s₁.setTop (mkF m 2 #[.val (.long p0), .second, .val (.long p1), .second, .val (.long p2), .second] [(.long (0 : Int64)), (.long p1)]))) (fun u k => XT.lconstV X0.here hx rfl (0 : Int64) (hb hby own_d5_1) (by decide) k) ?_
  refine Go.back (t' := (s₁.setTop (mkF m 3 #[.val (.long p0), .second, .val (.long p1), .second, .val (.long p2), .second] [(.int (XT.cmpL p1 (0 : Int64)))]))) (fun u k => XT.lcmp X0.here hx rfl (hb hby own_d5_2) rfl k) ?_
  by_cases hc1 : p1 = (0 : Int64)
  · skip
    refine Go.back (t' := (s₁.setTop (mkF m 23 #[.val (.long p0), .second, .val (.long p1), .second, .val (.long p2), .second] []))) (fun u k => XS.ifYes X0.here hx rfl (pc0 := 3) (pc' := 23) rfl (hb hby own_d5_3) rfl (XT.ll_eq_t hc1) (by decide) (by decide) k) ?_
    refine Go.back (t' := (s₁.setTop (mkF m 24 #[.val (.long p0), .second, .val (.long p1), .second, .val (.long p2), .second] [(.long p0)]))) (fun u k => XT.lloadN X0.here hx rfl (hb hby own_d5_23) rfl k) ?_
    refine Go.back (t' := (s₁.setTop (mkF m 25 #[.val (.long p0), .second, .val (.long p1), .second, .val (.long p2), .second] [(.long p1), (.long p0)]))) (fun u k => XT.lloadN X0.here hx rfl (hb hby own_d5_24) rfl k) ?_
    refine Go.back (t' := (s₁.setTop (mkF m 27 #[.val (.long p0), .second, .val (.long p1), .second, .val (.long p2), .second] [(.long p2), (.long p1), (.long p0)]))) (fun u k => XT.lload X0.here hx rfl (hb hby own_d5_25) rfl k) ?_
    refine Go.back (t' := (s₁.setTop (mkF m 28 #[.val (.long p0), .second, .val (.long p1), .second, .val (.long p2), .second] [(.long (p1 * p2)), (.long p0)]))) (fun u k => XT.lmul X0.here hx rfl (hb hby own_d5_27) rfl k) ?_
    refine Go.back (t' := (s₁.setTop (mkF m 29 #[.val (.long p0), .second, .val (.long p1), .second, .val (.long p2), .second] [(.long (p0 + (p1 * p2)))]))) (fun u k => XT.ladd X0.here hx rfl (hb hby own_d5_28) rfl k) ?_
    obtain ⟨fs, hr, hrun, hended, hW, hsame⟩ := X0.leave (v := some (.long (p0 + (p1 * p2)))) (fun h => by rw [Bd.returns] at h; cases h)
    refine ⟨_, _, retOut X0 hx (t := .long) (i := .lreturn) Bd.returns rfl (Or.inr (Or.inl ⟨rfl, rfl, _, rfl⟩)) (hb hby own_d5_29) hr, hrun, hended, _, _, rfl, ?_, ⟨_, rfl⟩, hW, hsame.mono (by decide) (by decide)⟩
    show Q_own_sum Z p0 p1 p2 h0 n0 _ s₁.heap _
    rw [e0]
    exact ⟨by simp only [F_own_sum, if_pos hc1], N0, rfl⟩
  · skip
    refine Go.back (t' := (s₁.setTop (mkF m 6 #[.val (.long p0), .second, .val (.long p1), .second, .val (.long p2), .second] []))) (fun u k => XS.ifNo X0.here hx rfl (hb hby own_d5_3) rfl (XT.ll_eq_f hc1) k) ?_
    refine Go.back (t' := (s₁.setTop (mkF m 8 #[.val (.long p0), .second, .val (.long p1), .second, .val (.long p2), .second] [(.long p2)]))) (fun u k => XT.lload X0.here hx rfl (hb hby own_d5_6) rfl k) ?_
    refine Go.back (t' := (s₁.setTop (mkF m 11 #[.val (.long p0), .second, .val (.long p1), .second, .val (.long p2), .second] [(.long (9223372036854775807 : Int64)), (.long p2)]))) (fun u k => X0.ldc2J hx hown (mvT hZ (hw _ (List.mem_of_getElem? (i := 27) rfl))) rfl (hb hby own_d5_8) k) ?_
    refine Go.back (t' := (s₁.setTop (mkF m 12 #[.val (.long p0), .second, .val (.long p1), .second, .val (.long p2), .second] [(.long p0), (.long (9223372036854775807 : Int64)), (.long p2)]))) (fun u k => XT.lloadN X0.here hx rfl (hb hby own_d5_11) rfl k) ?_
    refine Go.back (t' := (s₁.setTop (mkF m 13 #[.val (.long p0), .second, .val (.long p1), .second, .val (.long p2), .second] [(.long ((9223372036854775807 : Int64) - p0)), (.long p2)]))) (fun u k => XT.lsub X0.here hx rfl (hb hby own_d5_12) rfl k) ?_
    refine Go.back (t' := (s₁.setTop (mkF m 14 #[.val (.long p0), .second, .val (.long p1), .second, .val (.long p2), .second] [(.long p1), (.long ((9223372036854775807 : Int64) - p0)), (.long p2)]))) (fun u k => XT.lloadN X0.here hx rfl (hb hby own_d5_13) rfl k) ?_
    refine Go.back (t' := (s₁.setTop (mkF m 15 #[.val (.long p0), .second, .val (.long p1), .second, .val (.long p2), .second] [(.long (((9223372036854775807 : Int64) - p0) / p1)), (.long p2)]))) (fun u k => XT.ldiv X0.here hx rfl (hb hby own_d5_14) rfl hc1 k) ?_
    refine Go.back (t' := (s₁.setTop (mkF m 16 #[.val (.long p0), .second, .val (.long p1), .second, .val (.long p2), .second] [(.int (XT.cmpL p2 (((9223372036854775807 : Int64) - p0) / p1)))]))) (fun u k => XT.lcmp X0.here hx rfl (hb hby own_d5_15) rfl k) ?_
    by_cases hc2 : (((9223372036854775807 : Int64) - p0) / p1) < p2
    · skip
      refine Go.back (t' := (s₁.setTop (mkF m 19 #[.val (.long p0), .second, .val (.long p1), .second, .val (.long p2), .second] []))) (fun u k => XS.ifNo X0.here hx rfl (hb hby own_d5_16) rfl (XT.ll_le_f hc2) k) ?_
      refine Go.back (t' := (s₁.setTop (mkF m 22 #[.val (.long p0), .second, .val (.long p1), .second, .val (.long p2), .second] [(.long (9223372036854775807 : Int64))]))) (fun u k => X0.ldc2J hx hown (mvT hZ (hw _ (List.mem_of_getElem? (i := 27) rfl))) rfl (hb hby own_d5_19) k) ?_
      obtain ⟨fs, hr, hrun, hended, hW, hsame⟩ := X0.leave (v := some (.long (9223372036854775807 : Int64))) (fun h => by rw [Bd.returns] at h; cases h)
      refine ⟨_, _, retOut X0 hx (t := .long) (i := .lreturn) Bd.returns rfl (Or.inr (Or.inl ⟨rfl, rfl, _, rfl⟩)) (hb hby own_d5_22) hr, hrun, hended, _, _, rfl, ?_, ⟨_, rfl⟩, hW, hsame.mono (by decide) (by decide)⟩
      show Q_own_sum Z p0 p1 p2 h0 n0 _ s₁.heap _
      rw [e0]
      exact ⟨by simp only [F_own_sum, if_neg hc1, if_pos hc2], N0, rfl⟩
    · skip
      refine Go.back (t' := (s₁.setTop (mkF m 23 #[.val (.long p0), .second, .val (.long p1), .second, .val (.long p2), .second] []))) (fun u k => XS.ifYes X0.here hx rfl (pc0 := 16) (pc' := 23) rfl (hb hby own_d5_16) rfl (XT.ll_le_t hc2) (by decide) (by decide) k) ?_
      refine Go.back (t' := (s₁.setTop (mkF m 24 #[.val (.long p0), .second, .val (.long p1), .second, .val (.long p2), .second] [(.long p0)]))) (fun u k => XT.lloadN X0.here hx rfl (hb hby own_d5_23) rfl k) ?_
      refine Go.back (t' := (s₁.setTop (mkF m 25 #[.val (.long p0), .second, .val (.long p1), .second, .val (.long p2), .second] [(.long p1), (.long p0)]))) (fun u k => XT.lloadN X0.here hx rfl (hb hby own_d5_24) rfl k) ?_
      refine Go.back (t' := (s₁.setTop (mkF m 27 #[.val (.long p0), .second, .val (.long p1), .second, .val (.long p2), .second] [(.long p2), (.long p1), (.long p0)]))) (fun u k => XT.lload X0.here hx rfl (hb hby own_d5_25) rfl k) ?_
      refine Go.back (t' := (s₁.setTop (mkF m 28 #[.val (.long p0), .second, .val (.long p1), .second, .val (.long p2), .second] [(.long (p1 * p2)), (.long p0)]))) (fun u k => XT.lmul X0.here hx rfl (hb hby own_d5_27) rfl k) ?_
      refine Go.back (t' := (s₁.setTop (mkF m 29 #[.val (.long p0), .second, .val (.long p1), .second, .val (.long p2), .second] [(.long (p0 + (p1 * p2)))]))) (fun u k => XT.ladd X0.here hx rfl (hb hby own_d5_28) rfl k) ?_
      obtain ⟨fs, hr, hrun, hended, hW, hsame⟩ := X0.leave (v := some (.long (p0 + (p1 * p2)))) (fun h => by rw [Bd.returns] at h; cases h)
      refine ⟨_, _, retOut X0 hx (t := .long) (i := .lreturn) Bd.returns rfl (Or.inr (Or.inl ⟨rfl, rfl, _, rfl⟩)) (hb hby own_d5_29) hr, hrun, hended, _, _, rfl, ?_, ⟨_, rfl⟩, hW, hsame.mono (by decide) (by decide)⟩
      show Q_own_sum Z p0 p1 p2 h0 n0 _ s₁.heap _
      rw [e0]
      exact ⟨by simp only [F_own_sum, if_neg hc1, if_neg hc2], N0, rfl⟩
theorem own_pd1 : parseMethodDescriptor "(JJJ)J" = some ⟨[.long, .long, .long], some .long⟩ := by decide +kernel
theorem own_d4_0 : decode prog_9_method_3_code 0 = .ok (.aload_n 0, 1) := by decide +kernel
theorem own_d4_1 : decode prog_9_method_3_code 1 = .ok (.getfield 21, 3) := by decide +kernel
theorem own_d4_4 : decode prog_9_method_3_code 4 = .ok (.aload_n 0, 1) := by decide +kernel
theorem own_d4_5 : decode prog_9_method_3_code 5 = .ok (.getfield 25, 3) := by decide +kernel
theorem own_d4_8 : decode prog_9_method_3_code 8 = .ok (.lload_n 1, 1) := by decide +kernel
theorem own_d4_9 : decode prog_9_method_3_code 9 = .ok (.invokestatic 28, 3) := by decide +kernel
theorem own_d4_12 : decode prog_9_method_3_code 12 = .ok (.lreturn, 1) := by decide +kernel
theorem own_ef_own_stepsFor (m : MethodId) (x0 : Addr) (x1 : Int64) : entryFrame m #[(.ref x0), (.long x1)] 3 = mkF m 0 #[.val (.ref x0), .val (.long x1), .second] [] := by first | (simp [entryFrame, mkF, argsToLocals, Value.category]; done) | rfl
def Q_own_stepsFor (Z : State) (a : Addr) (q3 : Int64) (q1 : Int64) (q2 : Int64) (h0 : Heap) (n0 : Nat) (v : Option Value) (h : Heap) (L : List Loc) : Prop := v = some (.long (F_own_sum q1 q2 q3)) ∧ Fr n0 L ∧ h = h0
set_option maxRecDepth 65536 in
set_option maxHeartbeats 40000000 in
theorem own_stepsFor (l : Launch) (Z : State) (a0 : Array Value) (hw : ∀ d ∈ tables_1, d.before a0 Z = true) (ws : List Jvm.Cond) (a : Addr) (q3 : Int64) (q1 : Int64) (q2 : Int64) (h0 : Heap) (n0 : Nat) (Z0 : n0 ≤ h0.size) (F_a_steps : Fld Z h0 a "com/example/waypath/waypath/evaluator/StepLimit" "steps" "J" (.long q1)) (F_a_stepsPerInputItem : Fld Z h0 a "com/example/waypath/waypath/evaluator/StepLimit" "stepsPerInputItem" "J" (.long q2)) :
    MetFree l (⟨"com/example/waypath/waypath/evaluator/StepLimit", "stepsFor", "(J)J"⟩ : MethodName) (head1 (Jvm.Cond.code (⟨"com/example/waypath/waypath/evaluator/StepLimit", "stepsFor", "(J)J"⟩ : MethodName) prog_9_method_3_code 3 (some .long) :: ws) ({ frames := 1, cells := 0, slots := 0, locals := 17 } : Room)) (fun as_ U => as_ = #[(.ref a), (.long q3)] ∧ Z.Warmed39 U.vm ∧ U.heap = h0) (fun _ _ _ _ _ => True) (fun _ U o U' => ∃ v L, o = .returned v ∧ Q_own_stepsFor Z a q3 q1 q2 h0 n0 v U'.heap L ∧ FrameEnd U o U' L ({ frames := 1, cells := 0, slots := 0, locals := 17 } : Room).cells ({ frames := 1, cells := 0, slots := 0, locals := 17 } : Room).slots) := by
  refine MetFree.of_bodySF (plainFor_of_name own_pn1) hisR ?_
  intro p e s m args below meth c s₁ Bd hml0 hP hK
  obtain ⟨rfl, hZ, hh⟩ := hP
  have hx := Bd.exec
  have hby := Bd.bytes
  have hml : c.maxLocals = 3 := hml0
  have hown : s.vm.findClass "com/example/waypath/waypath/evaluator/StepLimit" = some m.cls := findClass_of_methodNamed Bd.named
  have hnm := (name_of_methodNamed Bd.named Bd.method).1
  have X0 : Stand p l e ({ frames := 1, cells := 0, slots := 0, locals := 17 } : Room) s m #[(.ref a), (.long q3)] below meth c s₁ [] 0 0 := Stand.of_body Bd
  have e0 : s₁.heap = h0 := by rw [← hh, Bd.state]; rfl
  have N0 := Fr.nil n0
  have K0 := Keep.refl h0 []
  show Go p e below (own_F s below (Q_own_stepsFor Z a q3 q1 q2 h0 n0) ({ frames := 1, cells := 0, slots := 0, locals := 17 } : Room).cells ({ frames := 1, cells := 0, slots := 0, locals := 17 } : Room).slots) (s₁.setTop (entryFrame m #[(.ref a), (.long q3)] 3))
  rw [own_ef_own_stepsFor m a q3]
  refine Go.back (t' := (s₁.setTop (mkF m 1 #[.val (.ref a), .val (.long q3), .second] [(.ref a)]))) (fun u k => XS.aloadN X0.here hx rfl (hb hby own_d4_0) rfl rfl k) ?_
  obtain ⟨T1, X1, e1, st1⟩ := getF X0 hx hZ hown (host := "") (Or.inl (hw _ (List.mem_of_getElem? (i := 15) rfl))) Via.refl e0 F_a_steps (g := (mkF m 1 #[.val (.ref a), .val (.long q3), .second] [(.ref a)])) rfl rfl (hb hby own_d4_1)
  refine Go.back (t' := (T1.setTop (mkF m 4 #[.val (.ref a), .val (.long q3), .second] [(.long q1)]))) st1 ?_
  refine Go.back (t' := (T1.setTop (mkF m 5 #[.val (.ref a), .val (.long q3), .second] [(.ref a), (.long q1)]))) (fun u k => XS.aloadN X1.here hx rfl (hb hby own_d4_4) rfl rfl k) ?_
  obtain ⟨T2, X2, e2, st2⟩ := getF X1 hx hZ hown (host := "") (Or.inl (hw _ (List.mem_of_getElem? (i := 17) rfl))) Via.refl e1 F_a_stepsPerInputItem (g := (mkF m 5 #[.val (.ref a), .val (.long q3), .second] [(.ref a), (.long q1)])) rfl rfl (hb hby own_d4_5)
  refine Go.back (t' := (T2.setTop (mkF m 8 #[.val (.ref a), .val (.long q3), .second] [(.long q2), (.long q1)]))) st2 ?_
  refine Go.back (t' := (T2.setTop (mkF m 9 #[.val (.ref a), .val (.long q3), .second] [(.long q3), (.long q2), (.long q1)]))) (fun u k => XT.lloadN X2.here hx rfl (hb hby own_d4_8) rfl k) ?_
  obtain ⟨_, _, ⟨T3, L3, k3, n3⟩, -, X3, ⟨Lc3, hQ3, l3, y3, z3⟩, st3⟩ := Jvm.LawKit.callS X2 hx (y := (⟨"com/example/waypath/waypath/evaluator/StepLimit", "sum", "(JJJ)J"⟩ : MethodName)) hown (mvT hZ (hw _ (List.mem_of_getElem? (i := 24) rfl))) (mvT hZ (hw _ (List.mem_of_getElem? (i := 25) rfl))) (mvT hZ (hw _ (List.mem_of_getElem? (i := 3) rfl))) (mvT hZ (hw _ (List.mem_of_getElem? (i := 26) rfl))) (by decide) (backOf (W := 0) (own_sum l Z a0 hw [] q1 q2 q3 h0 n0 Z0 ) hZ (hw _ (List.mem_of_getElem? (i := 26) rfl)) (hw _ (List.mem_of_getElem? (i := 3) rfl)) (by decide) (by decide)) (g := (mkF m 9 #[.val (.ref a), .val (.long q3), .second] [(.long q3), (.long q2), (.long q1)])) rfl (by rw [hml]; rfl) (argsL := [(.long q1), (.long q2), (.long q3)]) (rest := []) (lenOf own_pd1 rfl) rfl (by show 2 * 0 + _ ≤ _; exact Nat.le_of_eq rfl) (hb hby own_d4_9) (fun _ _ => ⟨rfl, e2, (by decide : 0 + 0 ≤ _), (by decide : 0 + 0 ≤ _)⟩)
  dsimp only [Pt.U, Pt.locs, Pt.cells, Pt.slots] at X3 l3 y3 z3 st3 hQ3
  subst l3 y3 z3
  obtain ⟨rfl, N3, e3⟩ := hQ3
  have NA3 := Fr.app N0 N3
  refine Go.back (t' := (T3.setTop (mkF m 12 #[.val (.ref a), .val (.long q3), .second] [(.long (F_own_sum q1 q2 q3))]))) st3 ?_
  obtain ⟨fs, hr, hrun, hended, hW, hsame⟩ := X3.leave (v := some (.long (F_own_sum q1 q2 q3))) (fun h => by rw [Bd.returns] at h; cases h)
  refine ⟨_, _, retOut X3 hx (t := .long) (i := .lreturn) Bd.returns rfl (Or.inr (Or.inl ⟨rfl, rfl, _, rfl⟩)) (hb hby own_d4_12) hr, hrun, hended, _, _, rfl, ?_, ⟨_, rfl⟩, hW, hsame.mono (by decide) (by decide)⟩
  show Q_own_stepsFor Z a q3 q1 q2 h0 n0 _ T3.heap _
  rw [e3]
  exact ⟨rfl, NA3, rfl⟩
theorem own_nn (x : Int64) (k : Int32) : ¬ (XT.ushrL (x &&& (9223372036854775807 : Int64)) k < (0 : Int64)) := by
  have m := Jvm.Kit.i64_mask x (9223372036854775807 : Int64) (k := 63) (by decide) (by decide)
  have h0 : (0 : Int64) ≤ (x &&& (9223372036854775807 : Int64)) := Jvm.Kit.i64_nonneg.mpr (by rw [m]; omega)
  generalize (x &&& (9223372036854775807 : Int64)) = y at h0
  have hk : (k.toInt64.toUInt64 &&& Int64.toUInt64 63).toNat < 64 := by
    rw [UInt64.toNat_and]
    exact Nat.lt_succ_of_le Nat.and_le_right
  have e := Jvm.Kit.i64_lushr h0 (n := (k.toInt64.toUInt64 &&& Int64.toUInt64 63)) rfl hk
  rw [Int64.lt_iff_toInt_lt]
  show ¬ ((y.toUInt64 >>> (k.toInt64.toUInt64 &&& Int64.toUInt64 63)).toInt64).toInt < _
  rw [e]
  have h1 := Jvm.Kit.i64_nonneg.mp h0
  have h2 : (0 : Int64).toInt = 0 := by decide
  rw [h2]
  have := Int.ediv_nonneg h1 (show (0 : Int) ≤ 2 ^ (k.toInt64.toUInt64 &&& Int64.toUInt64 63).toNat from Int.le_of_lt (Int.pow_pos (by decide)))
  omega
/-- the sum in plain ints: either past the greatest long and cut there, or itself -/
theorem own_sum_spec {vb vp vi r d : Int64} (nb : ¬ (vb < (0 : Int64))) (np : ¬ (vp < (0 : Int64))) (ni : ¬ (vi < (0 : Int64))) (h_r : r = F_own_sum vb vp vi) (h_d : d = ((9223372036854775807 : Int64) - vb)) :
    0 ≤ vb.toInt ∧ 0 ≤ vp.toInt ∧ 0 ≤ vi.toInt ∧ d.toInt = 9223372036854775807 - vb.toInt ∧
      ((vp.toInt ≠ 0 ∧ d.toInt / vp.toInt < vi.toInt ∧ r.toInt = 9223372036854775807) ∨ (r.toInt = vb.toInt + vp.toInt * vi.toInt ∧ vp.toInt * vi.toInt ≤ d.toInt)) := by
  have z0 : (0 : Int64).toInt = 0 := by decide
  have zm : (9223372036854775807 : Int64).toInt = 9223372036854775807 := by decide
  rw [Int64.lt_iff_toInt_lt, z0] at nb np ni
  have lb := vb.toInt_lt; have lp := vp.toInt_lt; have li := vi.toInt_lt
  have ed : d.toInt = 9223372036854775807 - vb.toInt := by
    rw [h_d, Jvm.Kit.i64_sub (by rw [zm]; omega) (by rw [zm]; omega), zm]
  refine ⟨by omega, by omega, by omega, ed, ?_⟩
  have fin : vp.toInt * vi.toInt ≤ d.toInt → (vb + (vp * vi)).toInt = vb.toInt + vp.toInt * vi.toInt := fun h => by
    have h0 : 0 ≤ vp.toInt * vi.toInt := Int.mul_nonneg (by omega) (by omega)
    have hm : (vp * vi).toInt = vp.toInt * vi.toInt := Jvm.Kit.i64_mul (by omega) (by omega)
    rw [Jvm.Kit.i64_add (by rw [hm]; omega) (by rw [hm]; omega), hm]
  rw [h_r]
  unfold F_own_sum
  by_cases c1 : vp = (0 : Int64)
  · right
    rw [if_pos c1]
    have hp : vp.toInt = 0 := by rw [c1]; exact z0
    have hle : vp.toInt * vi.toInt ≤ d.toInt := by rw [hp, Int.zero_mul]; omega
    exact ⟨fin hle, hle⟩
  · rw [if_neg c1]
    have hp : vp.toInt ≠ 0 := fun q => c1 (Int64.toInt_inj.mp (q.trans z0.symm))
    have hdv : (((9223372036854775807 : Int64) - vb) / vp).toInt = d.toInt / vp.toInt := by
      rw [← h_d, Jvm.Kit.i64_div (by omega), Int.tdiv_eq_ediv_of_nonneg (by omega)]
    by_cases c2 : (((9223372036854775807 : Int64) - vb) / vp) < vi
    · left
      rw [if_pos c2]
      rw [Int64.lt_iff_toInt_lt, hdv] at c2
      exact ⟨hp, c2, zm⟩
    · right
      rw [if_neg c2]
      rw [Int64.lt_iff_toInt_lt, hdv] at c2
      have hle : vp.toInt * vi.toInt ≤ d.toInt := by
        have h1 : vi.toInt ≤ d.toInt / vp.toInt := by omega
        have h2 := Int.mul_le_mul_of_nonneg_left h1 (show 0 ≤ vp.toInt by omega)
        have h3 := Int.mul_ediv_self_le (x := d.toInt) (k := vp.toInt) hp
        omega
      exact ⟨fin hle, hle⟩
theorem own_mod_of_mul (p n : Int) : p * n % p = 0 := Int.mul_emod_right p n
theorem own_rem {x y : Int64} (h : 0 ≤ x.toInt) : (x % y).toInt = x.toInt % y.toInt := by rw [Int64.toInt_mod, Int.tmod_eq_emod_of_nonneg h]
theorem own_div {x y : Int64} (h : 0 ≤ x.toInt) : (x / y).toInt = x.toInt / y.toInt := by
  rw [Jvm.Kit.i64_div (by omega), Int.tdiv_eq_ediv_of_nonneg h]
theorem own_ne0 {x : Int64} (h : ¬ x = (0 : Int64)) : x.toInt ≠ 0 := fun q => h (Int64.toInt_inj.mp (q.trans (by decide)))

theorem own_leaf0 {vb vp vi r d : Int64} (nb : ¬ (vb < (0 : Int64))) (np : ¬ (vp < (0 : Int64))) (ni : ¬ (vi < (0 : Int64))) (h_r : r = F_own_sum vb vp vi) (h_d : d = ((9223372036854775807 : Int64) - vb)) (c0 : r = (9223372036854775807 : Int64)) (c1 : vp = (0 : Int64)) (c2 : ¬ (d = (0 : Int64))) : False := by
  obtain ⟨B0, P0, N0, D, S⟩ := own_sum_spec nb np ni h_r h_d
  have z0 : (0 : Int64).toInt = 0 := by decide
  have z1 : (1 : Int64).toInt = 1 := by decide
  have zm : (9223372036854775807 : Int64).toInt = 9223372036854775807 := by decide
  have lb := vb.toInt_lt; have lp := vp.toInt_lt; have li := vi.toInt_lt
  have hr := congrArg Int64.toInt c0
  rw [zm] at hr
  have hp := congrArg Int64.toInt c1
  rw [z0] at hp
  rcases S with ⟨q, -, -⟩ | ⟨q, -⟩
  · exact q hp
  · rw [hp, Int.zero_mul] at q
    exact own_ne0 c2 (by omega)
theorem own_leaf1 {vb vp vi r d : Int64} (nb : ¬ (vb < (0 : Int64))) (np : ¬ (vp < (0 : Int64))) (ni : ¬ (vi < (0 : Int64))) (h_r : r = F_own_sum vb vp vi) (h_d : d = ((9223372036854775807 : Int64) - vb)) (c0 : r = (9223372036854775807 : Int64)) (c1 : ¬ (vp = (0 : Int64))) (c2 : (d % vp) = (0 : Int64)) (c3 : vi < (d / vp)) : False := by
  obtain ⟨B0, P0, N0, D, S⟩ := own_sum_spec nb np ni h_r h_d
  have z0 : (0 : Int64).toInt = 0 := by decide
  have z1 : (1 : Int64).toInt = 1 := by decide
  have zm : (9223372036854775807 : Int64).toInt = 9223372036854775807 := by decide
  have lb := vb.toInt_lt; have lp := vp.toInt_lt; have li := vi.toInt_lt
  have hr := congrArg Int64.toInt c0
  rw [zm] at hr
  have hp := own_ne0 c1
  rw [Int64.lt_iff_toInt_lt, own_div (by omega)] at c3
  rcases S with ⟨-, q, -⟩ | ⟨q, -⟩
  · omega
  · have e : d.toInt = vp.toInt * vi.toInt := by omega
    rw [e, Int.mul_ediv_cancel_left _ hp] at c3
    omega
theorem own_leaf2 {vb vp vi r d : Int64} (nb : ¬ (vb < (0 : Int64))) (np : ¬ (vp < (0 : Int64))) (ni : ¬ (vi < (0 : Int64))) (h_r : r = F_own_sum vb vp vi) (h_d : d = ((9223372036854775807 : Int64) - vb)) (c0 : r = (9223372036854775807 : Int64)) (c1 : ¬ (vp = (0 : Int64))) (c2 : ¬ ((d % vp) = (0 : Int64))) (c3 : vi < ((d / vp) + (1 : Int64))) : False := by
  obtain ⟨B0, P0, N0, D, S⟩ := own_sum_spec nb np ni h_r h_d
  have z0 : (0 : Int64).toInt = 0 := by decide
  have z1 : (1 : Int64).toInt = 1 := by decide
  have zm : (9223372036854775807 : Int64).toInt = 9223372036854775807 := by decide
  have lb := vb.toInt_lt; have lp := vp.toInt_lt; have li := vi.toInt_lt
  have hr := congrArg Int64.toInt c0
  rw [zm] at hr
  have hp := own_ne0 c1
  have hm := own_ne0 c2
  rw [own_rem (by omega)] at hm
  have hq : 0 ≤ d.toInt / vp.toInt := Int.ediv_nonneg (by omega) P0
  have hq2 : d.toInt / vp.toInt ≤ d.toInt := Int.ediv_le_self _ (by omega)
  rcases S with ⟨-, q, -⟩ | ⟨q, -⟩
  · have hd := own_div (x := d) (y := vp) (by omega)
    have := li
    rw [Int64.lt_iff_toInt_lt, Jvm.Kit.i64_add (by rw [hd, z1]; omega) (by rw [hd, z1]; omega), hd, z1] at c3
    omega
  · have e : d.toInt = vp.toInt * vi.toInt := by omega
    rw [e, own_mod_of_mul] at hm
    exact hm rfl
theorem own_leaf3 {vb vp vi r d : Int64} (nb : ¬ (vb < (0 : Int64))) (np : ¬ (vp < (0 : Int64))) (ni : ¬ (vi < (0 : Int64))) (h_r : r = F_own_sum vb vp vi) (h_d : d = ((9223372036854775807 : Int64) - vb)) (c0 : ¬ (r = (9223372036854775807 : Int64))) (c1 : (r - vb) < (0 : Int64)) : False := by
  obtain ⟨B0, P0, N0, D, S⟩ := own_sum_spec nb np ni h_r h_d
  have z0 : (0 : Int64).toInt = 0 := by decide
  have z1 : (1 : Int64).toInt = 1 := by decide
  have zm : (9223372036854775807 : Int64).toInt = 9223372036854775807 := by decide
  have lb := vb.toInt_lt; have lp := vp.toInt_lt; have li := vi.toInt_lt
  rcases S with ⟨-, -, q⟩ | ⟨q, q2⟩
  · exact c0 (Int64.toInt_inj.mp (q.trans zm.symm))
  · have h0 : 0 ≤ vp.toInt * vi.toInt := Int.mul_nonneg P0 N0
    rw [Int64.lt_iff_toInt_lt, z0, Jvm.Kit.i64_sub (by omega) (by omega)] at c1
    omega
theorem own_leaf4 {vb vp vi r d : Int64} (nb : ¬ (vb < (0 : Int64))) (np : ¬ (vp < (0 : Int64))) (ni : ¬ (vi < (0 : Int64))) (h_r : r = F_own_sum vb vp vi) (h_d : d = ((9223372036854775807 : Int64) - vb)) (c0 : ¬ (r = (9223372036854775807 : Int64))) (c1 : ¬ ((r - vb) < (0 : Int64))) (c2 : vp = (0 : Int64)) (c3 : ¬ ((r - vb) = (0 : Int64))) : False := by
  obtain ⟨B0, P0, N0, D, S⟩ := own_sum_spec nb np ni h_r h_d
  have z0 : (0 : Int64).toInt = 0 := by decide
  have z1 : (1 : Int64).toInt = 1 := by decide
  have zm : (9223372036854775807 : Int64).toInt = 9223372036854775807 := by decide
  have lb := vb.toInt_lt; have lp := vp.toInt_lt; have li := vi.toInt_lt
  have hp := congrArg Int64.toInt c2
  rw [z0] at hp
  rcases S with ⟨q, -, -⟩ | ⟨q, -⟩
  · exact q hp
  · rw [hp, Int.zero_mul] at q
    have := own_ne0 c3
    rw [Jvm.Kit.i64_sub (by omega) (by omega)] at this
    omega
theorem own_leaf5 {vb vp vi r d : Int64} (nb : ¬ (vb < (0 : Int64))) (np : ¬ (vp < (0 : Int64))) (ni : ¬ (vi < (0 : Int64))) (h_r : r = F_own_sum vb vp vi) (h_d : d = ((9223372036854775807 : Int64) - vb)) (c0 : ¬ (r = (9223372036854775807 : Int64))) (c1 : ¬ ((r - vb) < (0 : Int64))) (c2 : ¬ (vp = (0 : Int64))) (c3 : ((r - vb) % vp) = (0 : Int64)) (c4 : ¬ (((r - vb) / vp) = vi)) : False := by
  obtain ⟨B0, P0, N0, D, S⟩ := own_sum_spec nb np ni h_r h_d
  have z0 : (0 : Int64).toInt = 0 := by decide
  have z1 : (1 : Int64).toInt = 1 := by decide
  have zm : (9223372036854775807 : Int64).toInt = 9223372036854775807 := by decide
  have lb := vb.toInt_lt; have lp := vp.toInt_lt; have li := vi.toInt_lt
  have hp := own_ne0 c2
  rcases S with ⟨-, -, q⟩ | ⟨q, q2⟩
  · exact c0 (Int64.toInt_inj.mp (q.trans zm.symm))
  · have h0 : 0 ≤ vp.toInt * vi.toInt := Int.mul_nonneg P0 N0
    have e : (r - vb).toInt = vp.toInt * vi.toInt := by rw [Jvm.Kit.i64_sub (by omega) (by omega)]; omega
    refine c4 (Int64.toInt_inj.mp ?_)
    rw [own_div (by omega), e, Int.mul_ediv_cancel_left _ hp]
theorem own_leaf6 {vb vp vi r d : Int64} (nb : ¬ (vb < (0 : Int64))) (np : ¬ (vp < (0 : Int64))) (ni : ¬ (vi < (0 : Int64))) (h_r : r = F_own_sum vb vp vi) (h_d : d = ((9223372036854775807 : Int64) - vb)) (c0 : ¬ (r = (9223372036854775807 : Int64))) (c1 : ¬ ((r - vb) < (0 : Int64))) (c2 : ¬ (vp = (0 : Int64))) (c3 : ¬ (((r - vb) % vp) = (0 : Int64))) : False := by
  obtain ⟨B0, P0, N0, D, S⟩ := own_sum_spec nb np ni h_r h_d
  have z0 : (0 : Int64).toInt = 0 := by decide
  have z1 : (1 : Int64).toInt = 1 := by decide
  have zm : (9223372036854775807 : Int64).toInt = 9223372036854775807 := by decide
  have lb := vb.toInt_lt; have lp := vp.toInt_lt; have li := vi.toInt_lt
  have hp := own_ne0 c2
  rcases S with ⟨-, -, q⟩ | ⟨q, q2⟩
  · exact c0 (Int64.toInt_inj.mp (q.trans zm.symm))
  · have h0 : 0 ≤ vp.toInt * vi.toInt := Int.mul_nonneg P0 N0
    have e : (r - vb).toInt = vp.toInt * vi.toInt := by rw [Jvm.Kit.i64_sub (by omega) (by omega)]; omega
    have hm := own_ne0 c3
    rw [own_rem (by omega), e, own_mod_of_mul] at hm
    exact hm rfl

theorem own_pd2 : parseMethodDescriptor "(JJ)V" = some ⟨[.long, .long], none⟩ := by decide +kernel
theorem own_pd3 : parseMethodDescriptor "(J)J" = some ⟨[.long], some .long⟩ := by decide +kernel
theorem own_pn2 : plainName "com/example/waypath/waypath/evaluator/StepLimitStepsForPinLaw" = true := by first | (simp [plainName, overriddenIn]; done) | decide +kernel
theorem own_ef_own_law0 (m : MethodId) (x0 : Int64) (x1 : Int64) (x2 : Int64) (x3 : Int32) : entryFrame m #[(.long x0), (.long x1), (.long x2), (.int x3)] maxLocals = mkF m 0 #[.val (.long x0), .second, .val (.long x1), .second, .val (.long x2), .second, .val (.int x3), .unset, .unset, .unset, .unset, .unset, .unset, .unset, .unset, .unset, .unset, .unset, .unset, .unset, .unset, .unset] [] := by first | (simp [entryFrame, mkF, argsToLocals, Value.category, maxLocals]; done) | rfl
def Q_own_law0 (Z : State) (q0 : Int64) (q1 : Int64) (q2 : Int64) (p0 : Int32) (h0 : Heap) (n0 : Nat) (v : Option Value) (h : Heap) (L : List Loc) : Prop := v = some (.int 1) ∧ Fr n0 L ∧ Keep h0 h []
set_option maxRecDepth 65536 in
set_option maxHeartbeats 40000000 in
theorem own_law0 (l : Launch) (Z : State) (a0 : Array Value) (hw : ∀ d ∈ tables_1, d.before a0 Z = true) (ws : List Jvm.Cond) (q0 : Int64) (q1 : Int64) (q2 : Int64) (p0 : Int32) (h0 : Heap) (n0 : Nat) (Z0 : n0 ≤ h0.size) :
    MetFree l x (head1 (Jvm.Cond.code x code maxLocals ret :: ws) room_1) (fun as_ U => as_ = #[(.long q0), (.long q1), (.long q2), (.int p0)] ∧ Z.Warmed39 U.vm ∧ U.heap = h0) (fun _ _ _ _ _ => True) (fun _ U o U' => ∃ v L, o = .returned v ∧ Q_own_law0 Z q0 q1 q2 p0 h0 n0 v U'.heap L ∧ FrameEnd U o U' L 16 128) := by
  refine MetFree.of_bodySF (plainFor_of_name own_pn2) hisR ?_
  intro p e s m args below meth c s₁ Bd hml0 hP hK
  obtain ⟨rfl, hZ, hh⟩ := hP
  have hx := Bd.exec
  have hby := Bd.bytes
  have hml : c.maxLocals = 22 := hml0
  have hown : s.vm.findClass "com/example/waypath/waypath/evaluator/StepLimitStepsForPinLaw" = some m.cls := findClass_of_methodNamed Bd.named
  have hnm := (name_of_methodNamed Bd.named Bd.method).1
  have X0 : Stand p l e room_1 s m #[(.long q0), (.long q1), (.long q2), (.int p0)] below meth c s₁ [] 0 0 := Stand.of_body Bd
  have e0 : s₁.heap = h0 := by rw [← hh, Bd.state]; rfl
  have N0 := Fr.nil n0
  have K0 := Keep.refl h0 []
  show Go p e below (own_F s below (Q_own_law0 Z q0 q1 q2 p0 h0 n0) 16 128) (s₁.setTop (entryFrame m #[(.long q0), (.long q1), (.long q2), (.int p0)] maxLocals))
  rw [own_ef_own_law0 m q0 q1 q2 p0]
  refine Go.back (t' := (s₁.setTop (mkF m 1 #[.val (.long q0), .second, .val (.long q1), .second, .val (.long q2), .second, .val (.int p0), .unset, .unset, .unset, .unset, .unset, .unset, .unset, .unset, .unset, .unset, .unset, .unset, .unset, .unset, .unset] [(.long q0)]))) (fun u k => XT.lloadN X0.here hx rfl (hb hby at_0) rfl k) ?_
  refine Go.back (t' := (s₁.setTop (mkF m 4 #[.val (.long q0), .second, .val (.long q1), .second, .val (.long q2), .second, .val (.int p0), .unset, .unset, .unset, .unset, .unset, .unset, .unset, .unset, .unset, .unset, .unset, .unset, .unset, .unset, .unset] [(.long (9223372036854775807 : Int64)), (.long q0)]))) (fun u k => X0.ldc2J hx hown (mvT hZ (hw _ (List.mem_of_getElem? (i := 0) rfl))) rfl (hb hby at_1) k) ?_
  refine Go.back (t' := (s₁.setTop (mkF m 5 #[.val (.long q0), .second, .val (.long q1), .second, .val (.long q2), .second, .val (.int p0), .unset, .unset, .unset, .unset, .unset, .unset, .unset, .unset, .unset, .unset, .unset, .unset, .unset, .unset, .unset] [(.long (q0 &&& (9223372036854775807 : Int64)))]))) (fun u k => XT.land X0.here hx rfl (hb hby at_4) rfl k) ?_
  refine Go.back (t' := (s₁.setTop (mkF m 7 #[.val (.long q0), .second, .val (.long q1), .second, .val (.long q2), .second, .val (.int p0), .unset, .unset, .unset, .unset, .unset, .unset, .unset, .unset, .unset, .unset, .unset, .unset, .unset, .unset, .unset] [(.int p0), (.long (q0 &&& (9223372036854775807 : Int64)))]))) (fun u k => XS.iload X0.here hx rfl (hb hby at_5) rfl k) ?_
  refine Go.back (t' := (s₁.setTop (mkF m 9 #[.val (.long q0), .second, .val (.long q1), .second, .val (.long q2), .second, .val (.int p0), .unset, .unset, .unset, .unset, .unset, .unset, .unset, .unset, .unset, .unset, .unset, .unset, .unset, .unset, .unset] [(.int (63 : Int32)), (.int p0), (.long (q0 &&& (9223372036854775807 : Int64)))]))) (fun u k => XT.bipushV X0.here hx rfl (63 : Int32) (hb hby at_7) (by decide) k) ?_
  refine Go.back (t' := (s₁.setTop (mkF m 10 #[.val (.long q0), .second, .val (.long q1), .second, .val (.long q2), .second, .val (.int p0), .unset, .unset, .unset, .unset, .unset, .unset, .unset, .unset, .unset, .unset, .unset, .unset, .unset, .unset, .unset] [(.int (p0 &&& (63 : Int32))), (.long (q0 &&& (9223372036854775807 : Int64)))]))) (fun u k => XS.iand X0.here hx rfl (hb hby at_9) rfl k) ?_
  refine Go.back (t' := (s₁.setTop (mkF m 11 #[.val (.long q0), .second, .val (.long q1), .second, .val (.long q2), .second, .val (.int p0), .unset, .unset, .unset, .unset, .unset, .unset, .unset, .unset, .unset, .unset, .unset, .unset, .unset, .unset, .unset] [(.long (XT.ushrL (q0 &&& (9223372036854775807 : Int64)) (p0 &&& (63 : Int32))))]))) (fun u k => XT.lushr X0.here hx rfl (hb hby at_10) rfl k) ?_
  obtain ⟨vb, h_vb⟩ : ∃ z : Int64, z = (XT.ushrL (q0 &&& (9223372036854775807 : Int64)) (p0 &&& (63 : Int32))) := ⟨_, rfl⟩
  rw [← h_vb]
  have nn_vb : ¬ (vb < (0 : Int64)) := by rw [h_vb]; exact own_nn _ _
  refine Go.back (t' := (s₁.setTop (mkF m 13 #[.val (.long q0), .second, .val (.long q1), .second, .val (.long q2), .second, .val (.int p0), .val (.long vb), .second, .unset, .unset, .unset, .unset, .unset, .unset, .unset, .unset, .unset, .unset, .unset, .unset, .unset] []))) (fun u k => XT.lstore X0.here hx rfl (hb hby at_11) rfl (l' := #[.val (.long q0), .second, .val (.long q1), .second, .val (.long q2), .second, .val (.int p0), .val (.long vb), .second, .unset, .unset, .unset, .unset, .unset, .unset, .unset, .unset, .unset, .unset, .unset, .unset, .unset]) rfl k) ?_
  refine Go.back (t' := (s₁.setTop (mkF m 14 #[.val (.long q0), .second, .val (.long q1), .second, .val (.long q2), .second, .val (.int p0), .val (.long vb), .second, .unset, .unset, .unset, .unset, .unset, .unset, .unset, .unset, .unset, .unset, .unset, .unset, .unset] [(.long q1)]))) (fun u k => XT.lloadN X0.here hx rfl (hb hby at_13) rfl k) ?_
  refine Go.back (t' := (s₁.setTop (mkF m 17 #[.val (.long q0), .second, .val (.long q1), .second, .val (.long q2), .second, .val (.int p0), .val (.long vb), .second, .unset, .unset, .unset, .unset, .unset, .unset, .unset, .unset, .unset, .unset, .unset, .unset, .unset] [(.long (9223372036854775807 : Int64)), (.long q1)]))) (fun u k => X0.ldc2J hx hown (mvT hZ (hw _ (List.mem_of_getElem? (i := 0) rfl))) rfl (hb hby at_14) k) ?_
  refine Go.back (t' := (s₁.setTop (mkF m 18 #[.val (.long q0), .second, .val (.long q1), .second, .val (.long q2), .second, .val (.int p0), .val (.long vb), .second, .unset, .unset, .unset, .unset, .unset, .unset, .unset, .unset, .unset, .unset, .unset, .unset, .unset] [(.long (q1 &&& (9223372036854775807 : Int64)))]))) (fun u k => XT.land X0.here hx rfl (hb hby at_17) rfl k) ?_
  refine Go.back (t' := (s₁.setTop (mkF m 20 #[.val (.long q0), .second, .val (.long q1), .second, .val (.long q2), .second, .val (.int p0), .val (.long vb), .second, .unset, .unset, .unset, .unset, .unset, .unset, .unset, .unset, .unset, .unset, .unset, .unset, .unset] [(.int p0), (.long (q1 &&& (9223372036854775807 : Int64)))]))) (fun u k => XS.iload X0.here hx rfl (hb hby at_18) rfl k) ?_
  refine Go.back (t' := (s₁.setTop (mkF m 22 #[.val (.long q0), .second, .val (.long q1), .second, .val (.long q2), .second, .val (.int p0), .val (.long vb), .second, .unset, .unset, .unset, .unset, .unset, .unset, .unset, .unset, .unset, .unset, .unset, .unset, .unset] [(.int (6 : Int32)), (.int p0), (.long (q1 &&& (9223372036854775807 : Int64)))]))) (fun u k => XT.bipushV X0.here hx rfl (6 : Int32) (hb hby at_20) (by decide) k) ?_
  refine Go.back (t' := (s₁.setTop (mkF m 23 #[.val (.long q0), .second, .val (.long q1), .second, .val (.long q2), .second, .val (.int p0), .val (.long vb), .second, .unset, .unset, .unset, .unset, .unset, .unset, .unset, .unset, .unset, .unset, .unset, .unset, .unset] [(.int (XT.ushr p0 (6 : Int32))), (.long (q1 &&& (9223372036854775807 : Int64)))]))) (fun u k => XT.iushr X0.here hx rfl (hb hby at_22) rfl k) ?_
  refine Go.back (t' := (s₁.setTop (mkF m 25 #[.val (.long q0), .second, .val (.long q1), .second, .val (.long q2), .second, .val (.int p0), .val (.long vb), .second, .unset, .unset, .unset, .unset, .unset, .unset, .unset, .unset, .unset, .unset, .unset, .unset, .unset] [(.int (63 : Int32)), (.int (XT.ushr p0 (6 : Int32))), (.long (q1 &&& (9223372036854775807 : Int64)))]))) (fun u k => XT.bipushV X0.here hx rfl (63 : Int32) (hb hby at_23) (by decide) k) ?_
  refine Go.back (t' := (s₁.setTop (mkF m 26 #[.val (.long q0), .second, .val (.long q1), .second, .val (.long q2), .second, .val (.int p0), .val (.long vb), .second, .unset, .unset, .unset, .unset, .unset, .unset, .unset, .unset, .unset, .unset, .unset, .unset, .unset] [(.int ((XT.ushr p0 (6 : Int32)) &&& (63 : Int32))), (.long (q1 &&& (9223372036854775807 : Int64)))]))) (fun u k => XS.iand X0.here hx rfl (hb hby at_25) rfl k) ?_
  refine Go.back (t' := (s₁.setTop (mkF m 27 #[.val (.long q0), .second, .val (.long q1), .second, .val (.long q2), .second, .val (.int p0), .val (.long vb), .second, .unset, .unset, .unset, .unset, .unset, .unset, .unset, .unset, .unset, .unset, .unset, .unset, .unset] [(.long (XT.ushrL (q1 &&& (9223372036854775807 : Int64)) ((XT.ushr p0 (6 : Int32)) &&& (63 : Int32))))]))) (fun u k => XT.lushr X0.here hx rfl (hb hby at_26) rfl k) ?_
  obtain ⟨vp, h_vp⟩ : ∃ z : Int64, z = (XT.ushrL (q1 &&& (9223372036854775807 : Int64)) ((XT.ushr p0 (6 : Int32)) &&& (63 : Int32))) := ⟨_, rfl⟩
  rw [← h_vp]
  have nn_vp : ¬ (vp < (0 : Int64)) := by rw [h_vp]; exact own_nn _ _
  refine Go.back (t' := (s₁.setTop (mkF m 29 #[.val (.long q0), .second, .val (.long q1), .second, .val (.long q2), .second, .val (.int p0), .val (.long vb), .second, .val (.long vp), .second, .unset, .unset, .unset, .unset, .unset, .unset, .unset, .unset, .unset, .unset, .unset] []))) (fun u k => XT.lstore X0.here hx rfl (hb hby at_27) rfl (l' := #[.val (.long q0), .second, .val (.long q1), .second, .val (.long q2), .second, .val (.int p0), .val (.long vb), .second, .val (.long vp), .second, .unset, .unset, .unset, .unset, .unset, .unset, .unset, .unset, .unset, .unset, .unset]) rfl k) ?_
  refine Go.back (t' := (s₁.setTop (mkF m 31 #[.val (.long q0), .second, .val (.long q1), .second, .val (.long q2), .second, .val (.int p0), .val (.long vb), .second, .val (.long vp), .second, .unset, .unset, .unset, .unset, .unset, .unset, .unset, .unset, .unset, .unset, .unset] [(.long q2)]))) (fun u k => XT.lload X0.here hx rfl (hb hby at_29) rfl k) ?_
  refine Go.back (t' := (s₁.setTop (mkF m 34 #[.val (.long q0), .second, .val (.long q1), .second, .val (.long q2), .second, .val (.int p0), .val (.long vb), .second, .val (.long vp), .second, .unset, .unset, .unset, .unset, .unset, .unset, .unset, .unset, .unset, .unset, .unset] [(.long (9223372036854775807 : Int64)), (.long q2)]))) (fun u k => X0.ldc2J hx hown (mvT hZ (hw _ (List.mem_of_getElem? (i := 0) rfl))) rfl (hb hby at_31) k) ?_
  refine Go.back (t' := (s₁.setTop (mkF m 35 #[.val (.long q0), .second, .val (.long q1), .second, .val (.long q2), .second, .val (.int p0), .val (.long vb), .second, .val (.long vp), .second, .unset, .unset, .unset, .unset, .unset, .unset, .unset, .unset, .unset, .unset, .unset] [(.long (q2 &&& (9223372036854775807 : Int64)))]))) (fun u k => XT.land X0.here hx rfl (hb hby at_34) rfl k) ?_
  refine Go.back (t' := (s₁.setTop (mkF m 37 #[.val (.long q0), .second, .val (.long q1), .second, .val (.long q2), .second, .val (.int p0), .val (.long vb), .second, .val (.long vp), .second, .unset, .unset, .unset, .unset, .unset, .unset, .unset, .unset, .unset, .unset, .unset] [(.int p0), (.long (q2 &&& (9223372036854775807 : Int64)))]))) (fun u k => XS.iload X0.here hx rfl (hb hby at_35) rfl k) ?_
  refine Go.back (t' := (s₁.setTop (mkF m 39 #[.val (.long q0), .second, .val (.long q1), .second, .val (.long q2), .second, .val (.int p0), .val (.long vb), .second, .val (.long vp), .second, .unset, .unset, .unset, .unset, .unset, .unset, .unset, .unset, .unset, .unset, .unset] [(.int (12 : Int32)), (.int p0), (.long (q2 &&& (9223372036854775807 : Int64)))]))) (fun u k => XT.bipushV X0.here hx rfl (12 : Int32) (hb hby at_37) (by decide) k) ?_
  refine Go.back (t' := (s₁.setTop (mkF m 40 #[.val (.long q0), .second, .val (.long q1), .second, .val (.long q2), .second, .val (.int p0), .val (.long vb), .second, .val (.long vp), .second, .unset, .unset, .unset, .unset, .unset, .unset, .unset, .unset, .unset, .unset, .unset] [(.int (XT.ushr p0 (12 : Int32))), (.long (q2 &&& (9223372036854775807 : Int64)))]))) (fun u k => XT.iushr X0.here hx rfl (hb hby at_39) rfl k) ?_
  refine Go.back (t' := (s₁.setTop (mkF m 42 #[.val (.long q0), .second, .val (.long q1), .second, .val (.long q2), .second, .val (.int p0), .val (.long vb), .second, .val (.long vp), .second, .unset, .unset, .unset, .unset, .unset, .unset, .unset, .unset, .unset, .unset, .unset] [(.int (63 : Int32)), (.int (XT.ushr p0 (12 : Int32))), (.long (q2 &&& (9223372036854775807 : Int64)))]))) (fun u k => XT.bipushV X0.here hx rfl (63 : Int32) (hb hby at_40) (by decide) k) ?_
  refine Go.back (t' := (s₁.setTop (mkF m 43 #[.val (.long q0), .second, .val (.long q1), .second, .val (.long q2), .second, .val (.int p0), .val (.long vb), .second, .val (.long vp), .second, .unset, .unset, .unset, .unset, .unset, .unset, .unset, .unset, .unset, .unset, .unset] [(.int ((XT.ushr p0 (12 : Int32)) &&& (63 : Int32))), (.long (q2 &&& (9223372036854775807 : Int64)))]))) (fun u k => XS.iand X0.here hx rfl (hb hby at_42) rfl k) ?_
  refine Go.back (t' := (s₁.setTop (mkF m 44 #[.val (.long q0), .second, .val (.long q1), .second, .val (.long q2), .second, .val (.int p0), .val (.long vb), .second, .val (.long vp), .second, .unset, .unset, .unset, .unset, .unset, .unset, .unset, .unset, .unset, .unset, .unset] [(.long (XT.ushrL (q2 &&& (9223372036854775807 : Int64)) ((XT.ushr p0 (12 : Int32)) &&& (63 : Int32))))]))) (fun u k => XT.lushr X0.here hx rfl (hb hby at_43) rfl k) ?_
  obtain ⟨vi, h_vi⟩ : ∃ z : Int64, z = (XT.ushrL (q2 &&& (9223372036854775807 : Int64)) ((XT.ushr p0 (12 : Int32)) &&& (63 : Int32))) := ⟨_, rfl⟩
  rw [← h_vi]
  have nn_vi : ¬ (vi < (0 : Int64)) := by rw [h_vi]; exact own_nn _ _
  refine Go.back (t' := (s₁.setTop (mkF m 46 #[.val (.long q0), .second, .val (.long q1), .second, .val (.long q2), .second, .val (.int p0), .val (.long vb), .second, .val (.long vp), .second, .val (.long vi), .second, .unset, .unset, .unset, .unset, .unset, .unset, .unset, .unset, .unset] []))) (fun u k => XT.lstore X0.here hx rfl (hb hby at_44) rfl (l' := #[.val (.long q0), .second, .val (.long q1), .second, .val (.long q2), .second, .val (.int p0), .val (.long vb), .second, .val (.long vp), .second, .val (.long vi), .second, .unset, .unset, .unset, .unset, .unset, .unset, .unset, .unset, .unset]) rfl k) ?_
  obtain ⟨T1, h1, X1, e1, E1, A1, D1, -, st1⟩ := newO X0 hx hZ hown (hw _ (List.mem_of_getElem? (i := 1) rfl)) (hw _ (List.mem_of_getElem? (i := 2) rfl)) (hw _ (List.mem_of_getElem? (i := 3) rfl)) e0 (g := (mkF m 46 #[.val (.long q0), .second, .val (.long q1), .second, .val (.long q2), .second, .val (.int p0), .val (.long vb), .second, .val (.long vp), .second, .val (.long vi), .second, .unset, .unset, .unset, .unset, .unset, .unset, .unset, .unset, .unset] [])) rfl (hb hby at_46) (by decide) (by decide)
  obtain ⟨b1, g1⟩ : ∃ z, z = h0.size := ⟨_, rfl⟩
  rw [← g1] at A1 D1 st1
  have gb1 : n0 ≤ b1 := Nat.le_trans Z0 (Nat.le_of_eq g1.symm)
  have sz1 : h0.size ≤ b1 := Nat.le_trans K0.1 (Nat.le_of_eq g1.symm)
  have Z1 : n0 ≤ h1.size := Nat.le_trans Z0 E1.1
  have K1 := K0.ext E1
  refine Go.back (t' := (T1.setTop (mkF m 49 #[.val (.long q0), .second, .val (.long q1), .second, .val (.long q2), .second, .val (.int p0), .val (.long vb), .second, .val (.long vp), .second, .val (.long vi), .second, .unset, .unset, .unset, .unset, .unset, .unset, .unset, .unset, .unset] [(.ref b1)]))) st1 ?_
  refine Go.back (t' := (T1.setTop (mkF m 50 #[.val (.long q0), .second, .val (.long q1), .second, .val (.long q2), .second, .val (.int p0), .val (.long vb), .second, .val (.long vp), .second, .val (.long vi), .second, .unset, .unset, .unset, .unset, .unset, .unset, .unset, .unset, .unset] [(.ref b1), (.ref b1)]))) (fun u k => XS.dup X1.here hx rfl (hb hby at_49) rfl rfl k) ?_
  refine Go.back (t' := (T1.setTop (mkF m 52 #[.val (.long q0), .second, .val (.long q1), .second, .val (.long q2), .second, .val (.int p0), .val (.long vb), .second, .val (.long vp), .second, .val (.long vi), .second, .unset, .unset, .unset, .unset, .unset, .unset, .unset, .unset, .unset] [(.long vb), (.ref b1), (.ref b1)]))) (fun u k => XT.lload X1.here hx rfl (hb hby at_50) rfl k) ?_
  refine Go.back (t' := (T1.setTop (mkF m 54 #[.val (.long q0), .second, .val (.long q1), .second, .val (.long q2), .second, .val (.int p0), .val (.long vb), .second, .val (.long vp), .second, .val (.long vi), .second, .unset, .unset, .unset, .unset, .unset, .unset, .unset, .unset, .unset] [(.long vp), (.long vb), (.ref b1), (.ref b1)]))) (fun u k => XT.lload X1.here hx rfl (hb hby at_52) rfl k) ?_
  obtain ⟨_, _, ⟨T2, L2, k2, n2⟩, -, X2, ⟨Lc2, hQ2, l2, y2, z2⟩, st2⟩ := X1.specialBack hx (y := (⟨"com/example/waypath/waypath/evaluator/StepLimit", "<init>", "(JJ)V"⟩ : MethodName)) rfl hown (mvT hZ (hw _ (List.mem_of_getElem? (i := 4) rfl))) (mvT hZ (hw _ (List.mem_of_getElem? (i := 5) rfl))) (mvT hZ (hw _ (List.mem_of_getElem? (i := 6) rfl))) (by decide) (backOf (W := 1) (own_init l Z a0 hw [] b1 vb vp h1 n0 Z1 A1 (D1 (Or.inr (hw _ (List.mem_of_getElem? (i := 16) rfl))) (ty := .long) (by decide)) (D1 (Or.inr (hw _ (List.mem_of_getElem? (i := 18) rfl))) (ty := .long) (by decide)) gb1 nn_vb nn_vp) hZ (hw _ (List.mem_of_getElem? (i := 6) rfl)) (hw _ (List.mem_of_getElem? (i := 3) rfl)) (by decide) (by decide)) (g := (mkF m 54 #[.val (.long q0), .second, .val (.long q1), .second, .val (.long q2), .second, .val (.int p0), .val (.long vb), .second, .val (.long vp), .second, .val (.long vi), .second, .unset, .unset, .unset, .unset, .unset, .unset, .unset, .unset, .unset] [(.long vp), (.long vb), (.ref b1), (.ref b1)])) rfl (by rw [hml]; rfl) (Steps.refl _) (a := b1) (argsL := [(.long vb), (.long vp)]) (rest := [(.ref b1)]) (lenOf own_pd2 rfl) rfl (by show 2 * 0 + _ ≤ _; exact Nat.le_of_eq rfl) (hb hby at_54) (fun _ _ => ⟨rfl, e1, (by decide : 1 + 0 ≤ _), (by decide : 2 + 0 ≤ _)⟩)
  dsimp only [Pt.U, Pt.locs, Pt.cells, Pt.slots] at X2 l2 y2 z2 st2 hQ2
  subst l2 y2 z2
  obtain ⟨rfl, N2, Kc2, P2_0, P2_1, P2_2⟩ := hQ2
  have NA2 := Fr.app N0 N2
  have Z2 : n0 ≤ T2.heap.size := Nat.le_trans Z1 Kc2.1
  have K2 := K1.trans Kc2 (allS (Or.inr sz1) all0)
  refine Go.back (t' := (T2.setTop (mkF m 57 #[.val (.long q0), .second, .val (.long q1), .second, .val (.long q2), .second, .val (.int p0), .val (.long vb), .second, .val (.long vp), .second, .val (.long vi), .second, .unset, .unset, .unset, .unset, .unset, .unset, .unset, .unset, .unset] [(.ref b1)]))) (fun u k => st2.trans k) ?_
  refine Go.back (t' := (T2.setTop (mkF m 59 #[.val (.long q0), .second, .val (.long q1), .second, .val (.long q2), .second, .val (.int p0), .val (.long vb), .second, .val (.long vp), .second, .val (.long vi), .second, .val (.ref b1), .unset, .unset, .unset, .unset, .unset, .unset, .unset, .unset] []))) (fun u k => XS.astore X2.here hx rfl (hb hby at_57) rfl rfl (l' := #[.val (.long q0), .second, .val (.long q1), .second, .val (.long q2), .second, .val (.int p0), .val (.long vb), .second, .val (.long vp), .second, .val (.long vi), .second, .val (.ref b1), .unset, .unset, .unset, .unset, .unset, .unset, .unset, .unset]) rfl k) ?_
  refine Go.back (t' := (T2.setTop (mkF m 61 #[.val (.long q0), .second, .val (.long q1), .second, .val (.long q2), .second, .val (.int p0), .val (.long vb), .second, .val (.long vp), .second, .val (.long vi), .second, .val (.ref b1), .unset, .unset, .unset, .unset, .unset, .unset, .unset, .unset] [(.ref b1)]))) (fun u k => XS.aload X2.here hx rfl (hb hby at_59) rfl rfl k) ?_
  refine Go.back (t' := (T2.setTop (mkF m 63 #[.val (.long q0), .second, .val (.long q1), .second, .val (.long q2), .second, .val (.int p0), .val (.long vb), .second, .val (.long vp), .second, .val (.long vi), .second, .val (.ref b1), .unset, .unset, .unset, .unset, .unset, .unset, .unset, .unset] [(.long vi), (.ref b1)]))) (fun u k => XT.lload X2.here hx rfl (hb hby at_61) rfl k) ?_
  obtain ⟨cq4, kq4, qa4, qb4, qc4⟩ := isOf hZ rfl P2_0
  obtain ⟨_, _, ⟨T3, L3, k3, n3⟩, -, X3, ⟨Lc3, hQ3, l3, y3, z3⟩, st3⟩ := X2.virtualBack hx (y := (⟨"com/example/waypath/waypath/evaluator/StepLimit", "stepsFor", "(J)J"⟩ : MethodName)) (z := (⟨"com/example/waypath/waypath/evaluator/StepLimit", "stepsFor", "(J)J"⟩ : MethodName)) hown (mvT hZ (hw _ (List.mem_of_getElem? (i := 19) rfl))) (mvT hZ (hw _ (List.mem_of_getElem? (i := 20) rfl))) (notFace_of_selects (args := #[]) (mvT hZ (hw _ (List.mem_of_getElem? (i := 22) rfl)))) (mvT hZ (hw _ (List.mem_of_getElem? (i := 22) rfl))) (mvT hZ (hw _ (List.mem_of_getElem? (i := 21) rfl))) (by decide) (backOf (W := 0) (own_stepsFor l Z a0 hw [] b1 vi vb vp T2.heap n0 Z2 P2_1 P2_2) hZ (hw _ (List.mem_of_getElem? (i := 23) rfl)) (hw _ (List.mem_of_getElem? (i := 3) rfl)) (by decide) (by decide)) qa4 qc4 (g := (mkF m 63 #[.val (.long q0), .second, .val (.long q1), .second, .val (.long q2), .second, .val (.int p0), .val (.long vb), .second, .val (.long vp), .second, .val (.long vi), .second, .val (.ref b1), .unset, .unset, .unset, .unset, .unset, .unset, .unset, .unset] [(.long vi), (.ref b1)])) rfl (by rw [hml]; rfl) (Steps.refl _) (argsL := [(.long vi)]) (rest := []) (lenOf own_pd3 rfl) rfl (by show 2 * 0 + _ ≤ _; exact Nat.le_of_eq rfl) (hb hby at_63) (fun _ _ => ⟨rfl, rfl, (by decide : 1 + 0 ≤ _), (by decide : 2 + 0 ≤ _)⟩)
  dsimp only [Pt.U, Pt.locs, Pt.cells, Pt.slots] at X3 l3 y3 z3 st3 hQ3
  subst l3 y3 z3
  obtain ⟨rfl, N3, e3⟩ := hQ3
  have NA3 := Fr.app NA2 N3
  refine Go.back (t' := (T3.setTop (mkF m 66 #[.val (.long q0), .second, .val (.long q1), .second, .val (.long q2), .second, .val (.int p0), .val (.long vb), .second, .val (.long vp), .second, .val (.long vi), .second, .val (.ref b1), .unset, .unset, .unset, .unset, .unset, .unset, .unset, .unset] [(.long (F_own_sum vb vp vi))]))) (fun u k => st3.trans k) ?_
  obtain ⟨r, h_r⟩ : ∃ z : Int64, z = (F_own_sum vb vp vi) := ⟨_, rfl⟩
  rw [← h_r]
  refine Go.back (t' := (T3.setTop (mkF m 68 #[.val (.long q0), .second, .val (.long q1), .second, .val (.long q2), .second, .val (.int p0), .val (.long vb), .second, .val (.long vp), .second, .val (.long vi), .second, .val (.ref b1), .val (.long r), .second, .unset, .unset, .unset, .unset, .unset, .unset] []))) (fun u k => XT.lstore X3.here hx rfl (hb hby at_66) rfl (l' := #[.val (.long q0), .second, .val (.long q1), .second, .val (.long q2), .second, .val (.int p0), .val (.long vb), .second, .val (.long vp), .second, .val (.long vi), .second, .val (.ref b1), .val (.long r), .second, .unset, .unset, .unset, .unset, .unset, .unset]) rfl k) ?_
  refine Go.back (t' := (T3.setTop (mkF m 71 #[.val (.long q0), .second, .val (.long q1), .second, .val (.long q2), .second, .val (.int p0), .val (.long vb), .second, .val (.long vp), .second, .val (.long vi), .second, .val (.ref b1), .val (.long r), .second, .unset, .unset, .unset, .unset, .unset, .unset] [(.long (9223372036854775807 : Int64))]))) (fun u k => X3.ldc2J hx hown (mvT hZ (hw _ (List.mem_of_getElem? (i := 0) rfl))) rfl (hb hby at_68) k) ?_
  refine Go.back (t' := (T3.setTop (mkF m 73 #[.val (.long q0), .second, .val (.long q1), .second, .val (.long q2), .second, .val (.int p0), .val (.long vb), .second, .val (.long vp), .second, .val (.long vi), .second, .val (.ref b1), .val (.long r), .second, .val (.long (9223372036854775807 : Int64)), .second, .unset, .unset, .unset, .unset] []))) (fun u k => XT.lstore X3.here hx rfl (hb hby at_71) rfl (l' := #[.val (.long q0), .second, .val (.long q1), .second, .val (.long q2), .second, .val (.int p0), .val (.long vb), .second, .val (.long vp), .second, .val (.long vi), .second, .val (.ref b1), .val (.long r), .second, .val (.long (9223372036854775807 : Int64)), .second, .unset, .unset, .unset, .unset]) rfl k) ?_
  refine Go.back (t' := (T3.setTop (mkF m 75 #[.val (.long q0), .second, .val (.long q1), .second, .val (.long q2), .second, .val (.int p0), .val (.long vb), .second, .val (.long vp), .second, .val (.long vi), .second, .val (.ref b1), .val (.long r), .second, .val (.long (9223372036854775807 : Int64)), .second, .unset, .unset, .unset, .unset] [(.long (9223372036854775807 : Int64))]))) (fun u k => XT.lload X3.here hx rfl (hb hby at_73) rfl k) ?_
  refine Go.back (t' := (T3.setTop (mkF m 77 #[.val (.long q0), .second, .val (.long q1), .second, .val (.long q2), .second, .val (.int p0), .val (.long vb), .second, .val (.long vp), .second, .val (.long vi), .second, .val (.ref b1), .val (.long r), .second, .val (.long (9223372036854775807 : Int64)), .second, .unset, .unset, .unset, .unset] [(.long vb), (.long (9223372036854775807 : Int64))]))) (fun u k => XT.lload X3.here hx rfl (hb hby at_75) rfl k) ?_
  refine Go.back (t' := (T3.setTop (mkF m 78 #[.val (.long q0), .second, .val (.long q1), .second, .val (.long q2), .second, .val (.int p0), .val (.long vb), .second, .val (.long vp), .second, .val (.long vi), .second, .val (.ref b1), .val (.long r), .second, .val (.long (9223372036854775807 : Int64)), .second, .unset, .unset, .unset, .unset] [(.long ((9223372036854775807 : Int64) - vb))]))) (fun u k => XT.lsub X3.here hx rfl (hb hby at_77) rfl k) ?_
  obtain ⟨d, h_d⟩ : ∃ z : Int64, z = ((9223372036854775807 : Int64) - vb) := ⟨_, rfl⟩
  rw [← h_d]
  refine Go.back (t' := (T3.setTop (mkF m 80 #[.val (.long q0), .second, .val (.long q1), .second, .val (.long q2), .second, .val (.int p0), .val (.long vb), .second, .val (.long vp), .second, .val (.long vi), .second, .val (.ref b1), .val (.long r), .second, .val (.long (9223372036854775807 : Int64)), .second, .val (.long d), .second, .unset, .unset] []))) (fun u k => XT.lstore X3.here hx rfl (hb hby at_78) rfl (l' := #[.val (.long q0), .second, .val (.long q1), .second, .val (.long q2), .second, .val (.int p0), .val (.long vb), .second, .val (.long vp), .second, .val (.long vi), .second, .val (.ref b1), .val (.long r), .second, .val (.long (9223372036854775807 : Int64)), .second, .val (.long d), .second, .unset, .unset]) rfl k) ?_
  refine Go.back (t' := (T3.setTop (mkF m 82 #[.val (.long q0), .second, .val (.long q1), .second, .val (.long q2), .second, .val (.int p0), .val (.long vb), .second, .val (.long vp), .second, .val (.long vi), .second, .val (.ref b1), .val (.long r), .second, .val (.long (9223372036854775807 : Int64)), .second, .val (.long d), .second, .unset, .unset] [(.long r)]))) (fun u k => XT.lload X3.here hx rfl (hb hby at_80) rfl k) ?_
  refine Go.back (t' := (T3.setTop (mkF m 84 #[.val (.long q0), .second, .val (.long q1), .second, .val (.long q2), .second, .val (.int p0), .val (.long vb), .second, .val (.long vp), .second, .val (.long vi), .second, .val (.ref b1), .val (.long r), .second, .val (.long (9223372036854775807 : Int64)), .second, .val (.long d), .second, .unset, .unset] [(.long (9223372036854775807 : Int64)), (.long r)]))) (fun u k => XT.lload X3.here hx rfl (hb hby at_82) rfl k) ?_
  refine Go.back (t' := (T3.setTop (mkF m 85 #[.val (.long q0), .second, .val (.long q1), .second, .val (.long q2), .second, .val (.int p0), .val (.long vb), .second, .val (.long vp), .second, .val (.long vi), .second, .val (.ref b1), .val (.long r), .second, .val (.long (9223372036854775807 : Int64)), .second, .val (.long d), .second, .unset, .unset] [(.int (XT.cmpL r (9223372036854775807 : Int64)))]))) (fun u k => XT.lcmp X3.here hx rfl (hb hby at_84) rfl k) ?_
  by_cases hc5 : r = (9223372036854775807 : Int64)
  · skip
    refine Go.back (t' := (T3.setTop (mkF m 88 #[.val (.long q0), .second, .val (.long q1), .second, .val (.long q2), .second, .val (.int p0), .val (.long vb), .second, .val (.long vp), .second, .val (.long vi), .second, .val (.ref b1), .val (.long r), .second, .val (.long (9223372036854775807 : Int64)), .second, .val (.long d), .second, .unset, .unset] []))) (fun u k => XS.ifNo X3.here hx rfl (hb hby at_85) rfl (XT.ll_ne_f hc5) k) ?_
    refine Go.back (t' := (T3.setTop (mkF m 90 #[.val (.long q0), .second, .val (.long q1), .second, .val (.long q2), .second, .val (.int p0), .val (.long vb), .second, .val (.long vp), .second, .val (.long vi), .second, .val (.ref b1), .val (.long r), .second, .val (.long (9223372036854775807 : Int64)), .second, .val (.long d), .second, .unset, .unset] [(.long vp)]))) (fun u k => XT.lload X3.here hx rfl (hb hby at_88) rfl k) ?_
    refine Go.back (t' := (T3.setTop (mkF m 91 #[.val (.long q0), .second, .val (.long q1), .second, .val (.long q2), .second, .val (.int p0), .val (.long vb), .second, .val (.long vp), .second, .val (.long vi), .second, .val (.ref b1), .val (.long r), .second, .val (.long (9223372036854775807 : Int64)), .second, .val (.long d), .second, .unset, .unset] [(.long (0 : Int64)), (.long vp)]))) (fun u k => XT.lconstV X3.here hx rfl (0 : Int64) (hb hby at_90) (by decide) k) ?_
    refine Go.back (t' := (T3.setTop (mkF m 92 #[.val (.long q0), .second, .val (.long q1), .second, .val (.long q2), .second, .val (.int p0), .val (.long vb), .second, .val (.long vp), .second, .val (.long vi), .second, .val (.ref b1), .val (.long r), .second, .val (.long (9223372036854775807 : Int64)), .second, .val (.long d), .second, .unset, .unset] [(.int (XT.cmpL vp (0 : Int64)))]))) (fun u k => XT.lcmp X3.here hx rfl (hb hby at_91) rfl k) ?_
    by_cases hc6 : vp = (0 : Int64)
    · skip
      refine Go.back (t' := (T3.setTop (mkF m 95 #[.val (.long q0), .second, .val (.long q1), .second, .val (.long q2), .second, .val (.int p0), .val (.long vb), .second, .val (.long vp), .second, .val (.long vi), .second, .val (.ref b1), .val (.long r), .second, .val (.long (9223372036854775807 : Int64)), .second, .val (.long d), .second, .unset, .unset] []))) (fun u k => XS.ifNo X3.here hx rfl (hb hby at_92) rfl (XT.ll_ne_f hc6) k) ?_
      refine Go.back (t' := (T3.setTop (mkF m 97 #[.val (.long q0), .second, .val (.long q1), .second, .val (.long q2), .second, .val (.int p0), .val (.long vb), .second, .val (.long vp), .second, .val (.long vi), .second, .val (.ref b1), .val (.long r), .second, .val (.long (9223372036854775807 : Int64)), .second, .val (.long d), .second, .unset, .unset] [(.long d)]))) (fun u k => XT.lload X3.here hx rfl (hb hby at_95) rfl k) ?_
      refine Go.back (t' := (T3.setTop (mkF m 98 #[.val (.long q0), .second, .val (.long q1), .second, .val (.long q2), .second, .val (.int p0), .val (.long vb), .second, .val (.long vp), .second, .val (.long vi), .second, .val (.ref b1), .val (.long r), .second, .val (.long (9223372036854775807 : Int64)), .second, .val (.long d), .second, .unset, .unset] [(.long (0 : Int64)), (.long d)]))) (fun u k => XT.lconstV X3.here hx rfl (0 : Int64) (hb hby at_97) (by decide) k) ?_
      refine Go.back (t' := (T3.setTop (mkF m 99 #[.val (.long q0), .second, .val (.long q1), .second, .val (.long q2), .second, .val (.int p0), .val (.long vb), .second, .val (.long vp), .second, .val (.long vi), .second, .val (.ref b1), .val (.long r), .second, .val (.long (9223372036854775807 : Int64)), .second, .val (.long d), .second, .unset, .unset] [(.int (XT.cmpL d (0 : Int64)))]))) (fun u k => XT.lcmp X3.here hx rfl (hb hby at_98) rfl k) ?_
      by_cases hc7 : d = (0 : Int64)
      · skip
        refine Go.back (t' := (T3.setTop (mkF m 102 #[.val (.long q0), .second, .val (.long q1), .second, .val (.long q2), .second, .val (.int p0), .val (.long vb), .second, .val (.long vp), .second, .val (.long vi), .second, .val (.ref b1), .val (.long r), .second, .val (.long (9223372036854775807 : Int64)), .second, .val (.long d), .second, .unset, .unset] []))) (fun u k => XS.ifNo X3.here hx rfl (hb hby at_99) rfl (XT.ll_ne_f hc7) k) ?_
        refine Go.back (t' := (T3.setTop (mkF m 103 #[.val (.long q0), .second, .val (.long q1), .second, .val (.long q2), .second, .val (.int p0), .val (.long vb), .second, .val (.long vp), .second, .val (.long vi), .second, .val (.ref b1), .val (.long r), .second, .val (.long (9223372036854775807 : Int64)), .second, .val (.long d), .second, .unset, .unset] [(.int (1 : Int32))]))) (fun u k => XT.iconstV X3.here hx rfl (1 : Int32) (hb hby at_102) (by decide) k) ?_
        refine Go.back (t' := (T3.setTop (mkF m 107 #[.val (.long q0), .second, .val (.long q1), .second, .val (.long q2), .second, .val (.int p0), .val (.long vb), .second, .val (.long vp), .second, .val (.long vi), .second, .val (.ref b1), .val (.long r), .second, .val (.long (9223372036854775807 : Int64)), .second, .val (.long d), .second, .unset, .unset] [(.int (1 : Int32))]))) (fun u k => XS.goto X3.here hx rfl (pc0 := 103) (pc' := 107) rfl (hb hby at_103) (by decide) (by decide) k) ?_
        obtain ⟨fs, hr, hrun, hended, hW, hsame⟩ := X3.leave (v := some (.int (1 : Int32))) (fun h => by rw [Bd.returns] at h; cases h)
        refine ⟨_, _, retN X3 hx (t := .boolean) Bd.returns (by simp) (hb hby at_107) hr, hrun, hended, _, _, rfl, ?_, ⟨_, rfl⟩, hW, hsame.mono (by decide) (by decide)⟩
        show Q_own_law0 Z q0 q1 q2 p0 h0 n0 _ T3.heap _
        rw [e3]
        exact ⟨rfl, NA3, K2⟩
      · skip
        refine Go.back (t' := (T3.setTop (mkF m 106 #[.val (.long q0), .second, .val (.long q1), .second, .val (.long q2), .second, .val (.int p0), .val (.long vb), .second, .val (.long vp), .second, .val (.long vi), .second, .val (.ref b1), .val (.long r), .second, .val (.long (9223372036854775807 : Int64)), .second, .val (.long d), .second, .unset, .unset] []))) (fun u k => XS.ifYes X3.here hx rfl (pc0 := 99) (pc' := 106) rfl (hb hby at_99) rfl (XT.ll_ne_t hc7) (by decide) (by decide) k) ?_
        refine Go.back (t' := (T3.setTop (mkF m 107 #[.val (.long q0), .second, .val (.long q1), .second, .val (.long q2), .second, .val (.int p0), .val (.long vb), .second, .val (.long vp), .second, .val (.long vi), .second, .val (.ref b1), .val (.long r), .second, .val (.long (9223372036854775807 : Int64)), .second, .val (.long d), .second, .unset, .unset] [(.int (0 : Int32))]))) (fun u k => XT.iconstV X3.here hx rfl (0 : Int32) (hb hby at_106) (by decide) k) ?_
        exact (own_leaf0 nn_vb nn_vp nn_vi h_r h_d hc5 hc6 hc7).elim
    · skip
      refine Go.back (t' := (T3.setTop (mkF m 108 #[.val (.long q0), .second, .val (.long q1), .second, .val (.long q2), .second, .val (.int p0), .val (.long vb), .second, .val (.long vp), .second, .val (.long vi), .second, .val (.ref b1), .val (.long r), .second, .val (.long (9223372036854775807 : Int64)), .second, .val (.long d), .second, .unset, .unset] []))) (fun u k => XS.ifYes X3.here hx rfl (pc0 := 92) (pc' := 108) rfl (hb hby at_92) rfl (XT.ll_ne_t hc6) (by decide) (by decide) k) ?_
      refine Go.back (t' := (T3.setTop (mkF m 110 #[.val (.long q0), .second, .val (.long q1), .second, .val (.long q2), .second, .val (.int p0), .val (.long vb), .second, .val (.long vp), .second, .val (.long vi), .second, .val (.ref b1), .val (.long r), .second, .val (.long (9223372036854775807 : Int64)), .second, .val (.long d), .second, .unset, .unset] [(.long d)]))) (fun u k => XT.lload X3.here hx rfl (hb hby at_108) rfl k) ?_
      refine Go.back (t' := (T3.setTop (mkF m 112 #[.val (.long q0), .second, .val (.long q1), .second, .val (.long q2), .second, .val (.int p0), .val (.long vb), .second, .val (.long vp), .second, .val (.long vi), .second, .val (.ref b1), .val (.long r), .second, .val (.long (9223372036854775807 : Int64)), .second, .val (.long d), .second, .unset, .unset] [(.long vp), (.long d)]))) (fun u k => XT.lload X3.here hx rfl (hb hby at_110) rfl k) ?_
      refine Go.back (t' := (T3.setTop (mkF m 113 #[.val (.long q0), .second, .val (.long q1), .second, .val (.long q2), .second, .val (.int p0), .val (.long vb), .second, .val (.long vp), .second, .val (.long vi), .second, .val (.ref b1), .val (.long r), .second, .val (.long (9223372036854775807 : Int64)), .second, .val (.long d), .second, .unset, .unset] [(.long (d / vp))]))) (fun u k => XT.ldiv X3.here hx rfl (hb hby at_112) rfl hc6 k) ?_
      refine Go.back (t' := (T3.setTop (mkF m 115 #[.val (.long q0), .second, .val (.long q1), .second, .val (.long q2), .second, .val (.int p0), .val (.long vb), .second, .val (.long vp), .second, .val (.long vi), .second, .val (.ref b1), .val (.long r), .second, .val (.long (9223372036854775807 : Int64)), .second, .val (.long d), .second, .val (.long (d / vp)), .second] []))) (fun u k => XT.lstore X3.here hx rfl (hb hby at_113) rfl (l' := #[.val (.long q0), .second, .val (.long q1), .second, .val (.long q2), .second, .val (.int p0), .val (.long vb), .second, .val (.long vp), .second, .val (.long vi), .second, .val (.ref b1), .val (.long r), .second, .val (.long (9223372036854775807 : Int64)), .second, .val (.long d), .second, .val (.long (d / vp)), .second]) rfl k) ?_
      refine Go.back (t' := (T3.setTop (mkF m 117 #[.val (.long q0), .second, .val (.long q1), .second, .val (.long q2), .second, .val (.int p0), .val (.long vb), .second, .val (.long vp), .second, .val (.long vi), .second, .val (.ref b1), .val (.long r), .second, .val (.long (9223372036854775807 : Int64)), .second, .val (.long d), .second, .val (.long (d / vp)), .second] [(.long d)]))) (fun u k => XT.lload X3.here hx rfl (hb hby at_115) rfl k) ?_
      refine Go.back (t' := (T3.setTop (mkF m 119 #[.val (.long q0), .second, .val (.long q1), .second, .val (.long q2), .second, .val (.int p0), .val (.long vb), .second, .val (.long vp), .second, .val (.long vi), .second, .val (.ref b1), .val (.long r), .second, .val (.long (9223372036854775807 : Int64)), .second, .val (.long d), .second, .val (.long (d / vp)), .second] [(.long vp), (.long d)]))) (fun u k => XT.lload X3.here hx rfl (hb hby at_117) rfl k) ?_
      refine Go.back (t' := (T3.setTop (mkF m 120 #[.val (.long q0), .second, .val (.long q1), .second, .val (.long q2), .second, .val (.int p0), .val (.long vb), .second, .val (.long vp), .second, .val (.long vi), .second, .val (.ref b1), .val (.long r), .second, .val (.long (9223372036854775807 : Int64)), .second, .val (.long d), .second, .val (.long (d / vp)), .second] [(.long (d % vp))]))) (fun u k => own_lremM X3.here hx rfl (hb hby at_119) rfl hc6 k) ?_
      refine Go.back (t' := (T3.setTop (mkF m 121 #[.val (.long q0), .second, .val (.long q1), .second, .val (.long q2), .second, .val (.int p0), .val (.long vb), .second, .val (.long vp), .second, .val (.long vi), .second, .val (.ref b1), .val (.long r), .second, .val (.long (9223372036854775807 : Int64)), .second, .val (.long d), .second, .val (.long (d / vp)), .second] [(.long (0 : Int64)), (.long (d % vp))]))) (fun u k => XT.lconstV X3.here hx rfl (0 : Int64) (hb hby at_120) (by decide) k) ?_
      refine Go.back (t' := (T3.setTop (mkF m 122 #[.val (.long q0), .second, .val (.long q1), .second, .val (.long q2), .second, .val (.int p0), .val (.long vb), .second, .val (.long vp), .second, .val (.long vi), .second, .val (.ref b1), .val (.long r), .second, .val (.long (9223372036854775807 : Int64)), .second, .val (.long d), .second, .val (.long (d / vp)), .second] [(.int (XT.cmpL (d % vp) (0 : Int64)))]))) (fun u k => XT.lcmp X3.here hx rfl (hb hby at_121) rfl k) ?_
      by_cases hc8 : (d % vp) = (0 : Int64)
      · skip
        refine Go.back (t' := (T3.setTop (mkF m 131 #[.val (.long q0), .second, .val (.long q1), .second, .val (.long q2), .second, .val (.int p0), .val (.long vb), .second, .val (.long vp), .second, .val (.long vi), .second, .val (.ref b1), .val (.long r), .second, .val (.long (9223372036854775807 : Int64)), .second, .val (.long d), .second, .val (.long (d / vp)), .second] []))) (fun u k => XS.ifYes X3.here hx rfl (pc0 := 122) (pc' := 131) rfl (hb hby at_122) rfl (XT.ll_eq_t hc8) (by decide) (by decide) k) ?_
        refine Go.back (t' := (T3.setTop (mkF m 133 #[.val (.long q0), .second, .val (.long q1), .second, .val (.long q2), .second, .val (.int p0), .val (.long vb), .second, .val (.long vp), .second, .val (.long vi), .second, .val (.ref b1), .val (.long r), .second, .val (.long (9223372036854775807 : Int64)), .second, .val (.long d), .second, .val (.long (d / vp)), .second] [(.long vi)]))) (fun u k => XT.lload X3.here hx rfl (hb hby at_131) rfl k) ?_
        refine Go.back (t' := (T3.setTop (mkF m 135 #[.val (.long q0), .second, .val (.long q1), .second, .val (.long q2), .second, .val (.int p0), .val (.long vb), .second, .val (.long vp), .second, .val (.long vi), .second, .val (.ref b1), .val (.long r), .second, .val (.long (9223372036854775807 : Int64)), .second, .val (.long d), .second, .val (.long (d / vp)), .second] [(.long (d / vp)), (.long vi)]))) (fun u k => XT.lload X3.here hx rfl (hb hby at_133) rfl k) ?_
        refine Go.back (t' := (T3.setTop (mkF m 136 #[.val (.long q0), .second, .val (.long q1), .second, .val (.long q2), .second, .val (.int p0), .val (.long vb), .second, .val (.long vp), .second, .val (.long vi), .second, .val (.ref b1), .val (.long r), .second, .val (.long (9223372036854775807 : Int64)), .second, .val (.long d), .second, .val (.long (d / vp)), .second] [(.int (XT.cmpL vi (d / vp)))]))) (fun u k => XT.lcmp X3.here hx rfl (hb hby at_135) rfl k) ?_
        by_cases hc9 : vi < (d / vp)
        · skip
          refine Go.back (t' := (T3.setTop (mkF m 143 #[.val (.long q0), .second, .val (.long q1), .second, .val (.long q2), .second, .val (.int p0), .val (.long vb), .second, .val (.long vp), .second, .val (.long vi), .second, .val (.ref b1), .val (.long r), .second, .val (.long (9223372036854775807 : Int64)), .second, .val (.long d), .second, .val (.long (d / vp)), .second] []))) (fun u k => XS.ifYes X3.here hx rfl (pc0 := 136) (pc' := 143) rfl (hb hby at_136) rfl (XT.ll_lt_t hc9) (by decide) (by decide) k) ?_
          refine Go.back (t' := (T3.setTop (mkF m 144 #[.val (.long q0), .second, .val (.long q1), .second, .val (.long q2), .second, .val (.int p0), .val (.long vb), .second, .val (.long vp), .second, .val (.long vi), .second, .val (.ref b1), .val (.long r), .second, .val (.long (9223372036854775807 : Int64)), .second, .val (.long d), .second, .val (.long (d / vp)), .second] [(.int (0 : Int32))]))) (fun u k => XT.iconstV X3.here hx rfl (0 : Int32) (hb hby at_143) (by decide) k) ?_
          exact (own_leaf1 nn_vb nn_vp nn_vi h_r h_d hc5 hc6 hc8 hc9).elim
        · skip
          refine Go.back (t' := (T3.setTop (mkF m 139 #[.val (.long q0), .second, .val (.long q1), .second, .val (.long q2), .second, .val (.int p0), .val (.long vb), .second, .val (.long vp), .second, .val (.long vi), .second, .val (.ref b1), .val (.long r), .second, .val (.long (9223372036854775807 : Int64)), .second, .val (.long d), .second, .val (.long (d / vp)), .second] []))) (fun u k => XS.ifNo X3.here hx rfl (hb hby at_136) rfl (XT.ll_lt_f hc9) k) ?_
          refine Go.back (t' := (T3.setTop (mkF m 140 #[.val (.long q0), .second, .val (.long q1), .second, .val (.long q2), .second, .val (.int p0), .val (.long vb), .second, .val (.long vp), .second, .val (.long vi), .second, .val (.ref b1), .val (.long r), .second, .val (.long (9223372036854775807 : Int64)), .second, .val (.long d), .second, .val (.long (d / vp)), .second] [(.int (1 : Int32))]))) (fun u k => XT.iconstV X3.here hx rfl (1 : Int32) (hb hby at_139) (by decide) k) ?_
          refine Go.back (t' := (T3.setTop (mkF m 144 #[.val (.long q0), .second, .val (.long q1), .second, .val (.long q2), .second, .val (.int p0), .val (.long vb), .second, .val (.long vp), .second, .val (.long vi), .second, .val (.ref b1), .val (.long r), .second, .val (.long (9223372036854775807 : Int64)), .second, .val (.long d), .second, .val (.long (d / vp)), .second] [(.int (1 : Int32))]))) (fun u k => XS.goto X3.here hx rfl (pc0 := 140) (pc' := 144) rfl (hb hby at_140) (by decide) (by decide) k) ?_
          obtain ⟨fs, hr, hrun, hended, hW, hsame⟩ := X3.leave (v := some (.int (1 : Int32))) (fun h => by rw [Bd.returns] at h; cases h)
          refine ⟨_, _, retN X3 hx (t := .boolean) Bd.returns (by simp) (hb hby at_144) hr, hrun, hended, _, _, rfl, ?_, ⟨_, rfl⟩, hW, hsame.mono (by decide) (by decide)⟩
          show Q_own_law0 Z q0 q1 q2 p0 h0 n0 _ T3.heap _
          rw [e3]
          exact ⟨rfl, NA3, K2⟩
      · skip
        refine Go.back (t' := (T3.setTop (mkF m 125 #[.val (.long q0), .second, .val (.long q1), .second, .val (.long q2), .second, .val (.int p0), .val (.long vb), .second, .val (.long vp), .second, .val (.long vi), .second, .val (.ref b1), .val (.long r), .second, .val (.long (9223372036854775807 : Int64)), .second, .val (.long d), .second, .val (.long (d / vp)), .second] []))) (fun u k => XS.ifNo X3.here hx rfl (hb hby at_122) rfl (XT.ll_eq_f hc8) k) ?_
        refine Go.back (t' := (T3.setTop (mkF m 127 #[.val (.long q0), .second, .val (.long q1), .second, .val (.long q2), .second, .val (.int p0), .val (.long vb), .second, .val (.long vp), .second, .val (.long vi), .second, .val (.ref b1), .val (.long r), .second, .val (.long (9223372036854775807 : Int64)), .second, .val (.long d), .second, .val (.long (d / vp)), .second] [(.long (d / vp))]))) (fun u k => XT.lload X3.here hx rfl (hb hby at_125) rfl k) ?_
        refine Go.back (t' := (T3.setTop (mkF m 128 #[.val (.long q0), .second, .val (.long q1), .second, .val (.long q2), .second, .val (.int p0), .val (.long vb), .second, .val (.long vp), .second, .val (.long vi), .second, .val (.ref b1), .val (.long r), .second, .val (.long (9223372036854775807 : Int64)), .second, .val (.long d), .second, .val (.long (d / vp)), .second] [(.long (1 : Int64)), (.long (d / vp))]))) (fun u k => XT.lconstV X3.here hx rfl (1 : Int64) (hb hby at_127) (by decide) k) ?_
        refine Go.back (t' := (T3.setTop (mkF m 129 #[.val (.long q0), .second, .val (.long q1), .second, .val (.long q2), .second, .val (.int p0), .val (.long vb), .second, .val (.long vp), .second, .val (.long vi), .second, .val (.ref b1), .val (.long r), .second, .val (.long (9223372036854775807 : Int64)), .second, .val (.long d), .second, .val (.long (d / vp)), .second] [(.long ((d / vp) + (1 : Int64)))]))) (fun u k => XT.ladd X3.here hx rfl (hb hby at_128) rfl k) ?_
        refine Go.back (t' := (T3.setTop (mkF m 131 #[.val (.long q0), .second, .val (.long q1), .second, .val (.long q2), .second, .val (.int p0), .val (.long vb), .second, .val (.long vp), .second, .val (.long vi), .second, .val (.ref b1), .val (.long r), .second, .val (.long (9223372036854775807 : Int64)), .second, .val (.long d), .second, .val (.long ((d / vp) + (1 : Int64))), .second] []))) (fun u k => XT.lstore X3.here hx rfl (hb hby at_129) rfl (l' := #[.val (.long q0), .second, .val (.long q1), .second, .val (.long q2), .second, .val (.int p0), .val (.long vb), .second, .val (.long vp), .second, .val (.long vi), .second, .val (.ref b1), .val (.long r), .second, .val (.long (9223372036854775807 : Int64)), .second, .val (.long d), .second, .val (.long ((d / vp) + (1 : Int64))), .second]) rfl k) ?_
        refine Go.back (t' := (T3.setTop (mkF m 133 #[.val (.long q0), .second, .val (.long q1), .second, .val (.long q2), .second, .val (.int p0), .val (.long vb), .second, .val (.long vp), .second, .val (.long vi), .second, .val (.ref b1), .val (.long r), .second, .val (.long (9223372036854775807 : Int64)), .second, .val (.long d), .second, .val (.long ((d / vp) + (1 : Int64))), .second] [(.long vi)]))) (fun u k => XT.lload X3.here hx rfl (hb hby at_131) rfl k) ?_
        refine Go.back (t' := (T3.setTop (mkF m 135 #[.val (.long q0), .second, .val (.long q1), .second, .val (.long q2), .second, .val (.int p0), .val (.long vb), .second, .val (.long vp), .second, .val (.long vi), .second, .val (.ref b1), .val (.long r), .second, .val (.long (9223372036854775807 : Int64)), .second, .val (.long d), .second, .val (.long ((d / vp) + (1 : Int64))), .second] [(.long ((d / vp) + (1 : Int64))), (.long vi)]))) (fun u k => XT.lload X3.here hx rfl (hb hby at_133) rfl k) ?_
        refine Go.back (t' := (T3.setTop (mkF m 136 #[.val (.long q0), .second, .val (.long q1), .second, .val (.long q2), .second, .val (.int p0), .val (.long vb), .second, .val (.long vp), .second, .val (.long vi), .second, .val (.ref b1), .val (.long r), .second, .val (.long (9223372036854775807 : Int64)), .second, .val (.long d), .second, .val (.long ((d / vp) + (1 : Int64))), .second] [(.int (XT.cmpL vi ((d / vp) + (1 : Int64))))]))) (fun u k => XT.lcmp X3.here hx rfl (hb hby at_135) rfl k) ?_
        by_cases hc10 : vi < ((d / vp) + (1 : Int64))
        · skip
          refine Go.back (t' := (T3.setTop (mkF m 143 #[.val (.long q0), .second, .val (.long q1), .second, .val (.long q2), .second, .val (.int p0), .val (.long vb), .second, .val (.long vp), .second, .val (.long vi), .second, .val (.ref b1), .val (.long r), .second, .val (.long (9223372036854775807 : Int64)), .second, .val (.long d), .second, .val (.long ((d / vp) + (1 : Int64))), .second] []))) (fun u k => XS.ifYes X3.here hx rfl (pc0 := 136) (pc' := 143) rfl (hb hby at_136) rfl (XT.ll_lt_t hc10) (by decide) (by decide) k) ?_
          refine Go.back (t' := (T3.setTop (mkF m 144 #[.val (.long q0), .second, .val (.long q1), .second, .val (.long q2), .second, .val (.int p0), .val (.long vb), .second, .val (.long vp), .second, .val (.long vi), .second, .val (.ref b1), .val (.long r), .second, .val (.long (9223372036854775807 : Int64)), .second, .val (.long d), .second, .val (.long ((d / vp) + (1 : Int64))), .second] [(.int (0 : Int32))]))) (fun u k => XT.iconstV X3.here hx rfl (0 : Int32) (hb hby at_143) (by decide) k) ?_
          exact (own_leaf2 nn_vb nn_vp nn_vi h_r h_d hc5 hc6 hc8 hc10).elim
        · skip
          refine Go.back (t' := (T3.setTop (mkF m 139 #[.val (.long q0), .second, .val (.long q1), .second, .val (.long q2), .second, .val (.int p0), .val (.long vb), .second, .val (.long vp), .second, .val (.long vi), .second, .val (.ref b1), .val (.long r), .second, .val (.long (9223372036854775807 : Int64)), .second, .val (.long d), .second, .val (.long ((d / vp) + (1 : Int64))), .second] []))) (fun u k => XS.ifNo X3.here hx rfl (hb hby at_136) rfl (XT.ll_lt_f hc10) k) ?_
          refine Go.back (t' := (T3.setTop (mkF m 140 #[.val (.long q0), .second, .val (.long q1), .second, .val (.long q2), .second, .val (.int p0), .val (.long vb), .second, .val (.long vp), .second, .val (.long vi), .second, .val (.ref b1), .val (.long r), .second, .val (.long (9223372036854775807 : Int64)), .second, .val (.long d), .second, .val (.long ((d / vp) + (1 : Int64))), .second] [(.int (1 : Int32))]))) (fun u k => XT.iconstV X3.here hx rfl (1 : Int32) (hb hby at_139) (by decide) k) ?_
          refine Go.back (t' := (T3.setTop (mkF m 144 #[.val (.long q0), .second, .val (.long q1), .second, .val (.long q2), .second, .val (.int p0), .val (.long vb), .second, .val (.long vp), .second, .val (.long vi), .second, .val (.ref b1), .val (.long r), .second, .val (.long (9223372036854775807 : Int64)), .second, .val (.long d), .second, .val (.long ((d / vp) + (1 : Int64))), .second] [(.int (1 : Int32))]))) (fun u k => XS.goto X3.here hx rfl (pc0 := 140) (pc' := 144) rfl (hb hby at_140) (by decide) (by decide) k) ?_
          obtain ⟨fs, hr, hrun, hended, hW, hsame⟩ := X3.leave (v := some (.int (1 : Int32))) (fun h => by rw [Bd.returns] at h; cases h)
          refine ⟨_, _, retN X3 hx (t := .boolean) Bd.returns (by simp) (hb hby at_144) hr, hrun, hended, _, _, rfl, ?_, ⟨_, rfl⟩, hW, hsame.mono (by decide) (by decide)⟩
          show Q_own_law0 Z q0 q1 q2 p0 h0 n0 _ T3.heap _
          rw [e3]
          exact ⟨rfl, NA3, K2⟩
  · skip
    refine Go.back (t' := (T3.setTop (mkF m 145 #[.val (.long q0), .second, .val (.long q1), .second, .val (.long q2), .second, .val (.int p0), .val (.long vb), .second, .val (.long vp), .second, .val (.long vi), .second, .val (.ref b1), .val (.long r), .second, .val (.long (9223372036854775807 : Int64)), .second, .val (.long d), .second, .unset, .unset] []))) (fun u k => XS.ifYes X3.here hx rfl (pc0 := 85) (pc' := 145) rfl (hb hby at_85) rfl (XT.ll_ne_t hc5) (by decide) (by decide) k) ?_
    refine Go.back (t' := (T3.setTop (mkF m 147 #[.val (.long q0), .second, .val (.long q1), .second, .val (.long q2), .second, .val (.int p0), .val (.long vb), .second, .val (.long vp), .second, .val (.long vi), .second, .val (.ref b1), .val (.long r), .second, .val (.long (9223372036854775807 : Int64)), .second, .val (.long d), .second, .unset, .unset] [(.long r)]))) (fun u k => XT.lload X3.here hx rfl (hb hby at_145) rfl k) ?_
    refine Go.back (t' := (T3.setTop (mkF m 149 #[.val (.long q0), .second, .val (.long q1), .second, .val (.long q2), .second, .val (.int p0), .val (.long vb), .second, .val (.long vp), .second, .val (.long vi), .second, .val (.ref b1), .val (.long r), .second, .val (.long (9223372036854775807 : Int64)), .second, .val (.long d), .second, .unset, .unset] [(.long vb), (.long r)]))) (fun u k => XT.lload X3.here hx rfl (hb hby at_147) rfl k) ?_
    refine Go.back (t' := (T3.setTop (mkF m 150 #[.val (.long q0), .second, .val (.long q1), .second, .val (.long q2), .second, .val (.int p0), .val (.long vb), .second, .val (.long vp), .second, .val (.long vi), .second, .val (.ref b1), .val (.long r), .second, .val (.long (9223372036854775807 : Int64)), .second, .val (.long d), .second, .unset, .unset] [(.long (r - vb))]))) (fun u k => XT.lsub X3.here hx rfl (hb hby at_149) rfl k) ?_
    refine Go.back (t' := (T3.setTop (mkF m 152 #[.val (.long q0), .second, .val (.long q1), .second, .val (.long q2), .second, .val (.int p0), .val (.long vb), .second, .val (.long vp), .second, .val (.long vi), .second, .val (.ref b1), .val (.long r), .second, .val (.long (9223372036854775807 : Int64)), .second, .val (.long d), .second, .val (.long (r - vb)), .second] []))) (fun u k => XT.lstore X3.here hx rfl (hb hby at_150) rfl (l' := #[.val (.long q0), .second, .val (.long q1), .second, .val (.long q2), .second, .val (.int p0), .val (.long vb), .second, .val (.long vp), .second, .val (.long vi), .second, .val (.ref b1), .val (.long r), .second, .val (.long (9223372036854775807 : Int64)), .second, .val (.long d), .second, .val (.long (r - vb)), .second]) rfl k) ?_
    refine Go.back (t' := (T3.setTop (mkF m 154 #[.val (.long q0), .second, .val (.long q1), .second, .val (.long q2), .second, .val (.int p0), .val (.long vb), .second, .val (.long vp), .second, .val (.long vi), .second, .val (.ref b1), .val (.long r), .second, .val (.long (9223372036854775807 : Int64)), .second, .val (.long d), .second, .val (.long (r - vb)), .second] [(.long (r - vb))]))) (fun u k => XT.lload X3.here hx rfl (hb hby at_152) rfl k) ?_
    refine Go.back (t' := (T3.setTop (mkF m 155 #[.val (.long q0), .second, .val (.long q1), .second, .val (.long q2), .second, .val (.int p0), .val (.long vb), .second, .val (.long vp), .second, .val (.long vi), .second, .val (.ref b1), .val (.long r), .second, .val (.long (9223372036854775807 : Int64)), .second, .val (.long d), .second, .val (.long (r - vb)), .second] [(.long (0 : Int64)), (.long (r - vb))]))) (fun u k => XT.lconstV X3.here hx rfl (0 : Int64) (hb hby at_154) (by decide) k) ?_
    refine Go.back (t' := (T3.setTop (mkF m 156 #[.val (.long q0), .second, .val (.long q1), .second, .val (.long q2), .second, .val (.int p0), .val (.long vb), .second, .val (.long vp), .second, .val (.long vi), .second, .val (.ref b1), .val (.long r), .second, .val (.long (9223372036854775807 : Int64)), .second, .val (.long d), .second, .val (.long (r - vb)), .second] [(.int (XT.cmpL (r - vb) (0 : Int64)))]))) (fun u k => XT.lcmp X3.here hx rfl (hb hby at_155) rfl k) ?_
    by_cases hc11 : (r - vb) < (0 : Int64)
    · skip
      refine Go.back (t' := (T3.setTop (mkF m 159 #[.val (.long q0), .second, .val (.long q1), .second, .val (.long q2), .second, .val (.int p0), .val (.long vb), .second, .val (.long vp), .second, .val (.long vi), .second, .val (.ref b1), .val (.long r), .second, .val (.long (9223372036854775807 : Int64)), .second, .val (.long d), .second, .val (.long (r - vb)), .second] []))) (fun u k => XS.ifNo X3.here hx rfl (hb hby at_156) rfl (XT.ll_ge_f hc11) k) ?_
      refine Go.back (t' := (T3.setTop (mkF m 160 #[.val (.long q0), .second, .val (.long q1), .second, .val (.long q2), .second, .val (.int p0), .val (.long vb), .second, .val (.long vp), .second, .val (.long vi), .second, .val (.ref b1), .val (.long r), .second, .val (.long (9223372036854775807 : Int64)), .second, .val (.long d), .second, .val (.long (r - vb)), .second] [(.int (0 : Int32))]))) (fun u k => XT.iconstV X3.here hx rfl (0 : Int32) (hb hby at_159) (by decide) k) ?_
      exact (own_leaf3 nn_vb nn_vp nn_vi h_r h_d hc5 hc11).elim
    · skip
      refine Go.back (t' := (T3.setTop (mkF m 161 #[.val (.long q0), .second, .val (.long q1), .second, .val (.long q2), .second, .val (.int p0), .val (.long vb), .second, .val (.long vp), .second, .val (.long vi), .second, .val (.ref b1), .val (.long r), .second, .val (.long (9223372036854775807 : Int64)), .second, .val (.long d), .second, .val (.long (r - vb)), .second] []))) (fun u k => XS.ifYes X3.here hx rfl (pc0 := 156) (pc' := 161) rfl (hb hby at_156) rfl (XT.ll_ge_t hc11) (by decide) (by decide) k) ?_
      refine Go.back (t' := (T3.setTop (mkF m 163 #[.val (.long q0), .second, .val (.long q1), .second, .val (.long q2), .second, .val (.int p0), .val (.long vb), .second, .val (.long vp), .second, .val (.long vi), .second, .val (.ref b1), .val (.long r), .second, .val (.long (9223372036854775807 : Int64)), .second, .val (.long d), .second, .val (.long (r - vb)), .second] [(.long vp)]))) (fun u k => XT.lload X3.here hx rfl (hb hby at_161) rfl k) ?_
      refine Go.back (t' := (T3.setTop (mkF m 164 #[.val (.long q0), .second, .val (.long q1), .second, .val (.long q2), .second, .val (.int p0), .val (.long vb), .second, .val (.long vp), .second, .val (.long vi), .second, .val (.ref b1), .val (.long r), .second, .val (.long (9223372036854775807 : Int64)), .second, .val (.long d), .second, .val (.long (r - vb)), .second] [(.long (0 : Int64)), (.long vp)]))) (fun u k => XT.lconstV X3.here hx rfl (0 : Int64) (hb hby at_163) (by decide) k) ?_
      refine Go.back (t' := (T3.setTop (mkF m 165 #[.val (.long q0), .second, .val (.long q1), .second, .val (.long q2), .second, .val (.int p0), .val (.long vb), .second, .val (.long vp), .second, .val (.long vi), .second, .val (.ref b1), .val (.long r), .second, .val (.long (9223372036854775807 : Int64)), .second, .val (.long d), .second, .val (.long (r - vb)), .second] [(.int (XT.cmpL vp (0 : Int64)))]))) (fun u k => XT.lcmp X3.here hx rfl (hb hby at_164) rfl k) ?_
      by_cases hc12 : vp = (0 : Int64)
      · skip
        refine Go.back (t' := (T3.setTop (mkF m 168 #[.val (.long q0), .second, .val (.long q1), .second, .val (.long q2), .second, .val (.int p0), .val (.long vb), .second, .val (.long vp), .second, .val (.long vi), .second, .val (.ref b1), .val (.long r), .second, .val (.long (9223372036854775807 : Int64)), .second, .val (.long d), .second, .val (.long (r - vb)), .second] []))) (fun u k => XS.ifNo X3.here hx rfl (hb hby at_165) rfl (XT.ll_ne_f hc12) k) ?_
        refine Go.back (t' := (T3.setTop (mkF m 170 #[.val (.long q0), .second, .val (.long q1), .second, .val (.long q2), .second, .val (.int p0), .val (.long vb), .second, .val (.long vp), .second, .val (.long vi), .second, .val (.ref b1), .val (.long r), .second, .val (.long (9223372036854775807 : Int64)), .second, .val (.long d), .second, .val (.long (r - vb)), .second] [(.long (r - vb))]))) (fun u k => XT.lload X3.here hx rfl (hb hby at_168) rfl k) ?_
        refine Go.back (t' := (T3.setTop (mkF m 171 #[.val (.long q0), .second, .val (.long q1), .second, .val (.long q2), .second, .val (.int p0), .val (.long vb), .second, .val (.long vp), .second, .val (.long vi), .second, .val (.ref b1), .val (.long r), .second, .val (.long (9223372036854775807 : Int64)), .second, .val (.long d), .second, .val (.long (r - vb)), .second] [(.long (0 : Int64)), (.long (r - vb))]))) (fun u k => XT.lconstV X3.here hx rfl (0 : Int64) (hb hby at_170) (by decide) k) ?_
        refine Go.back (t' := (T3.setTop (mkF m 172 #[.val (.long q0), .second, .val (.long q1), .second, .val (.long q2), .second, .val (.int p0), .val (.long vb), .second, .val (.long vp), .second, .val (.long vi), .second, .val (.ref b1), .val (.long r), .second, .val (.long (9223372036854775807 : Int64)), .second, .val (.long d), .second, .val (.long (r - vb)), .second] [(.int (XT.cmpL (r - vb) (0 : Int64)))]))) (fun u k => XT.lcmp X3.here hx rfl (hb hby at_171) rfl k) ?_
        by_cases hc13 : (r - vb) = (0 : Int64)
        · skip
          refine Go.back (t' := (T3.setTop (mkF m 175 #[.val (.long q0), .second, .val (.long q1), .second, .val (.long q2), .second, .val (.int p0), .val (.long vb), .second, .val (.long vp), .second, .val (.long vi), .second, .val (.ref b1), .val (.long r), .second, .val (.long (9223372036854775807 : Int64)), .second, .val (.long d), .second, .val (.long (r - vb)), .second] []))) (fun u k => XS.ifNo X3.here hx rfl (hb hby at_172) rfl (XT.ll_ne_f hc13) k) ?_
          refine Go.back (t' := (T3.setTop (mkF m 176 #[.val (.long q0), .second, .val (.long q1), .second, .val (.long q2), .second, .val (.int p0), .val (.long vb), .second, .val (.long vp), .second, .val (.long vi), .second, .val (.ref b1), .val (.long r), .second, .val (.long (9223372036854775807 : Int64)), .second, .val (.long d), .second, .val (.long (r - vb)), .second] [(.int (1 : Int32))]))) (fun u k => XT.iconstV X3.here hx rfl (1 : Int32) (hb hby at_175) (by decide) k) ?_
          refine Go.back (t' := (T3.setTop (mkF m 180 #[.val (.long q0), .second, .val (.long q1), .second, .val (.long q2), .second, .val (.int p0), .val (.long vb), .second, .val (.long vp), .second, .val (.long vi), .second, .val (.ref b1), .val (.long r), .second, .val (.long (9223372036854775807 : Int64)), .second, .val (.long d), .second, .val (.long (r - vb)), .second] [(.int (1 : Int32))]))) (fun u k => XS.goto X3.here hx rfl (pc0 := 176) (pc' := 180) rfl (hb hby at_176) (by decide) (by decide) k) ?_
          obtain ⟨fs, hr, hrun, hended, hW, hsame⟩ := X3.leave (v := some (.int (1 : Int32))) (fun h => by rw [Bd.returns] at h; cases h)
          refine ⟨_, _, retN X3 hx (t := .boolean) Bd.returns (by simp) (hb hby at_180) hr, hrun, hended, _, _, rfl, ?_, ⟨_, rfl⟩, hW, hsame.mono (by decide) (by decide)⟩
          show Q_own_law0 Z q0 q1 q2 p0 h0 n0 _ T3.heap _
          rw [e3]
          exact ⟨rfl, NA3, K2⟩
        · skip
          refine Go.back (t' := (T3.setTop (mkF m 179 #[.val (.long q0), .second, .val (.long q1), .second, .val (.long q2), .second, .val (.int p0), .val (.long vb), .second, .val (.long vp), .second, .val (.long vi), .second, .val (.ref b1), .val (.long r), .second, .val (.long (9223372036854775807 : Int64)), .second, .val (.long d), .second, .val (.long (r - vb)), .second] []))) (fun u k => XS.ifYes X3.here hx rfl (pc0 := 172) (pc' := 179) rfl (hb hby at_172) rfl (XT.ll_ne_t hc13) (by decide) (by decide) k) ?_
          refine Go.back (t' := (T3.setTop (mkF m 180 #[.val (.long q0), .second, .val (.long q1), .second, .val (.long q2), .second, .val (.int p0), .val (.long vb), .second, .val (.long vp), .second, .val (.long vi), .second, .val (.ref b1), .val (.long r), .second, .val (.long (9223372036854775807 : Int64)), .second, .val (.long d), .second, .val (.long (r - vb)), .second] [(.int (0 : Int32))]))) (fun u k => XT.iconstV X3.here hx rfl (0 : Int32) (hb hby at_179) (by decide) k) ?_
          exact (own_leaf4 nn_vb nn_vp nn_vi h_r h_d hc5 hc11 hc12 hc13).elim
      · skip
        refine Go.back (t' := (T3.setTop (mkF m 181 #[.val (.long q0), .second, .val (.long q1), .second, .val (.long q2), .second, .val (.int p0), .val (.long vb), .second, .val (.long vp), .second, .val (.long vi), .second, .val (.ref b1), .val (.long r), .second, .val (.long (9223372036854775807 : Int64)), .second, .val (.long d), .second, .val (.long (r - vb)), .second] []))) (fun u k => XS.ifYes X3.here hx rfl (pc0 := 165) (pc' := 181) rfl (hb hby at_165) rfl (XT.ll_ne_t hc12) (by decide) (by decide) k) ?_
        refine Go.back (t' := (T3.setTop (mkF m 183 #[.val (.long q0), .second, .val (.long q1), .second, .val (.long q2), .second, .val (.int p0), .val (.long vb), .second, .val (.long vp), .second, .val (.long vi), .second, .val (.ref b1), .val (.long r), .second, .val (.long (9223372036854775807 : Int64)), .second, .val (.long d), .second, .val (.long (r - vb)), .second] [(.long (r - vb))]))) (fun u k => XT.lload X3.here hx rfl (hb hby at_181) rfl k) ?_
        refine Go.back (t' := (T3.setTop (mkF m 185 #[.val (.long q0), .second, .val (.long q1), .second, .val (.long q2), .second, .val (.int p0), .val (.long vb), .second, .val (.long vp), .second, .val (.long vi), .second, .val (.ref b1), .val (.long r), .second, .val (.long (9223372036854775807 : Int64)), .second, .val (.long d), .second, .val (.long (r - vb)), .second] [(.long vp), (.long (r - vb))]))) (fun u k => XT.lload X3.here hx rfl (hb hby at_183) rfl k) ?_
        refine Go.back (t' := (T3.setTop (mkF m 186 #[.val (.long q0), .second, .val (.long q1), .second, .val (.long q2), .second, .val (.int p0), .val (.long vb), .second, .val (.long vp), .second, .val (.long vi), .second, .val (.ref b1), .val (.long r), .second, .val (.long (9223372036854775807 : Int64)), .second, .val (.long d), .second, .val (.long (r - vb)), .second] [(.long ((r - vb) % vp))]))) (fun u k => own_lremM X3.here hx rfl (hb hby at_185) rfl hc12 k) ?_
        refine Go.back (t' := (T3.setTop (mkF m 187 #[.val (.long q0), .second, .val (.long q1), .second, .val (.long q2), .second, .val (.int p0), .val (.long vb), .second, .val (.long vp), .second, .val (.long vi), .second, .val (.ref b1), .val (.long r), .second, .val (.long (9223372036854775807 : Int64)), .second, .val (.long d), .second, .val (.long (r - vb)), .second] [(.long (0 : Int64)), (.long ((r - vb) % vp))]))) (fun u k => XT.lconstV X3.here hx rfl (0 : Int64) (hb hby at_186) (by decide) k) ?_
        refine Go.back (t' := (T3.setTop (mkF m 188 #[.val (.long q0), .second, .val (.long q1), .second, .val (.long q2), .second, .val (.int p0), .val (.long vb), .second, .val (.long vp), .second, .val (.long vi), .second, .val (.ref b1), .val (.long r), .second, .val (.long (9223372036854775807 : Int64)), .second, .val (.long d), .second, .val (.long (r - vb)), .second] [(.int (XT.cmpL ((r - vb) % vp) (0 : Int64)))]))) (fun u k => XT.lcmp X3.here hx rfl (hb hby at_187) rfl k) ?_
        by_cases hc14 : ((r - vb) % vp) = (0 : Int64)
        · skip
          refine Go.back (t' := (T3.setTop (mkF m 191 #[.val (.long q0), .second, .val (.long q1), .second, .val (.long q2), .second, .val (.int p0), .val (.long vb), .second, .val (.long vp), .second, .val (.long vi), .second, .val (.ref b1), .val (.long r), .second, .val (.long (9223372036854775807 : Int64)), .second, .val (.long d), .second, .val (.long (r - vb)), .second] []))) (fun u k => XS.ifNo X3.here hx rfl (hb hby at_188) rfl (XT.ll_ne_f hc14) k) ?_
          refine Go.back (t' := (T3.setTop (mkF m 193 #[.val (.long q0), .second, .val (.long q1), .second, .val (.long q2), .second, .val (.int p0), .val (.long vb), .second, .val (.long vp), .second, .val (.long vi), .second, .val (.ref b1), .val (.long r), .second, .val (.long (9223372036854775807 : Int64)), .second, .val (.long d), .second, .val (.long (r - vb)), .second] [(.long (r - vb))]))) (fun u k => XT.lload X3.here hx rfl (hb hby at_191) rfl k) ?_
          refine Go.back (t' := (T3.setTop (mkF m 195 #[.val (.long q0), .second, .val (.long q1), .second, .val (.long q2), .second, .val (.int p0), .val (.long vb), .second, .val (.long vp), .second, .val (.long vi), .second, .val (.ref b1), .val (.long r), .second, .val (.long (9223372036854775807 : Int64)), .second, .val (.long d), .second, .val (.long (r - vb)), .second] [(.long vp), (.long (r - vb))]))) (fun u k => XT.lload X3.here hx rfl (hb hby at_193) rfl k) ?_
          refine Go.back (t' := (T3.setTop (mkF m 196 #[.val (.long q0), .second, .val (.long q1), .second, .val (.long q2), .second, .val (.int p0), .val (.long vb), .second, .val (.long vp), .second, .val (.long vi), .second, .val (.ref b1), .val (.long r), .second, .val (.long (9223372036854775807 : Int64)), .second, .val (.long d), .second, .val (.long (r - vb)), .second] [(.long ((r - vb) / vp))]))) (fun u k => XT.ldiv X3.here hx rfl (hb hby at_195) rfl hc12 k) ?_
          refine Go.back (t' := (T3.setTop (mkF m 198 #[.val (.long q0), .second, .val (.long q1), .second, .val (.long q2), .second, .val (.int p0), .val (.long vb), .second, .val (.long vp), .second, .val (.long vi), .second, .val (.ref b1), .val (.long r), .second, .val (.long (9223372036854775807 : Int64)), .second, .val (.long d), .second, .val (.long (r - vb)), .second] [(.long vi), (.long ((r - vb) / vp))]))) (fun u k => XT.lload X3.here hx rfl (hb hby at_196) rfl k) ?_
          refine Go.back (t' := (T3.setTop (mkF m 199 #[.val (.long q0), .second, .val (.long q1), .second, .val (.long q2), .second, .val (.int p0), .val (.long vb), .second, .val (.long vp), .second, .val (.long vi), .second, .val (.ref b1), .val (.long r), .second, .val (.long (9223372036854775807 : Int64)), .second, .val (.long d), .second, .val (.long (r - vb)), .second] [(.int (XT.cmpL ((r - vb) / vp) vi))]))) (fun u k => XT.lcmp X3.here hx rfl (hb hby at_198) rfl k) ?_
          by_cases hc15 : ((r - vb) / vp) = vi
          · skip
            refine Go.back (t' := (T3.setTop (mkF m 202 #[.val (.long q0), .second, .val (.long q1), .second, .val (.long q2), .second, .val (.int p0), .val (.long vb), .second, .val (.long vp), .second, .val (.long vi), .second, .val (.ref b1), .val (.long r), .second, .val (.long (9223372036854775807 : Int64)), .second, .val (.long d), .second, .val (.long (r - vb)), .second] []))) (fun u k => XS.ifNo X3.here hx rfl (hb hby at_199) rfl (XT.ll_ne_f hc15) k) ?_
            refine Go.back (t' := (T3.setTop (mkF m 203 #[.val (.long q0), .second, .val (.long q1), .second, .val (.long q2), .second, .val (.int p0), .val (.long vb), .second, .val (.long vp), .second, .val (.long vi), .second, .val (.ref b1), .val (.long r), .second, .val (.long (9223372036854775807 : Int64)), .second, .val (.long d), .second, .val (.long (r - vb)), .second] [(.int (1 : Int32))]))) (fun u k => XT.iconstV X3.here hx rfl (1 : Int32) (hb hby at_202) (by decide) k) ?_
            refine Go.back (t' := (T3.setTop (mkF m 207 #[.val (.long q0), .second, .val (.long q1), .second, .val (.long q2), .second, .val (.int p0), .val (.long vb), .second, .val (.long vp), .second, .val (.long vi), .second, .val (.ref b1), .val (.long r), .second, .val (.long (9223372036854775807 : Int64)), .second, .val (.long d), .second, .val (.long (r - vb)), .second] [(.int (1 : Int32))]))) (fun u k => XS.goto X3.here hx rfl (pc0 := 203) (pc' := 207) rfl (hb hby at_203) (by decide) (by decide) k) ?_
            obtain ⟨fs, hr, hrun, hended, hW, hsame⟩ := X3.leave (v := some (.int (1 : Int32))) (fun h => by rw [Bd.returns] at h; cases h)
            refine ⟨_, _, retN X3 hx (t := .boolean) Bd.returns (by simp) (hb hby at_207) hr, hrun, hended, _, _, rfl, ?_, ⟨_, rfl⟩, hW, hsame.mono (by decide) (by decide)⟩
            show Q_own_law0 Z q0 q1 q2 p0 h0 n0 _ T3.heap _
            rw [e3]
            exact ⟨rfl, NA3, K2⟩
          · skip
            refine Go.back (t' := (T3.setTop (mkF m 206 #[.val (.long q0), .second, .val (.long q1), .second, .val (.long q2), .second, .val (.int p0), .val (.long vb), .second, .val (.long vp), .second, .val (.long vi), .second, .val (.ref b1), .val (.long r), .second, .val (.long (9223372036854775807 : Int64)), .second, .val (.long d), .second, .val (.long (r - vb)), .second] []))) (fun u k => XS.ifYes X3.here hx rfl (pc0 := 199) (pc' := 206) rfl (hb hby at_199) rfl (XT.ll_ne_t hc15) (by decide) (by decide) k) ?_
            refine Go.back (t' := (T3.setTop (mkF m 207 #[.val (.long q0), .second, .val (.long q1), .second, .val (.long q2), .second, .val (.int p0), .val (.long vb), .second, .val (.long vp), .second, .val (.long vi), .second, .val (.ref b1), .val (.long r), .second, .val (.long (9223372036854775807 : Int64)), .second, .val (.long d), .second, .val (.long (r - vb)), .second] [(.int (0 : Int32))]))) (fun u k => XT.iconstV X3.here hx rfl (0 : Int32) (hb hby at_206) (by decide) k) ?_
            exact (own_leaf5 nn_vb nn_vp nn_vi h_r h_d hc5 hc11 hc12 hc14 hc15).elim
        · skip
          refine Go.back (t' := (T3.setTop (mkF m 206 #[.val (.long q0), .second, .val (.long q1), .second, .val (.long q2), .second, .val (.int p0), .val (.long vb), .second, .val (.long vp), .second, .val (.long vi), .second, .val (.ref b1), .val (.long r), .second, .val (.long (9223372036854775807 : Int64)), .second, .val (.long d), .second, .val (.long (r - vb)), .second] []))) (fun u k => XS.ifYes X3.here hx rfl (pc0 := 188) (pc' := 206) rfl (hb hby at_188) rfl (XT.ll_ne_t hc14) (by decide) (by decide) k) ?_
          refine Go.back (t' := (T3.setTop (mkF m 207 #[.val (.long q0), .second, .val (.long q1), .second, .val (.long q2), .second, .val (.int p0), .val (.long vb), .second, .val (.long vp), .second, .val (.long vi), .second, .val (.ref b1), .val (.long r), .second, .val (.long (9223372036854775807 : Int64)), .second, .val (.long d), .second, .val (.long (r - vb)), .second] [(.int (0 : Int32))]))) (fun u k => XT.iconstV X3.here hx rfl (0 : Int32) (hb hby at_206) (by decide) k) ?_
          exact (own_leaf6 nn_vb nn_vp nn_vi h_r h_d hc5 hc11 hc12 hc14).elim
set_option maxRecDepth 65536 in
set_option maxHeartbeats 40000000 in
theorem own_comes {Post : Tables → Env → Array Value → State → Outcome → State → Prop} (hpost : ∀ tb e args s v u, (limb_1_1.after args s (.returned v) u = true ∧ limb_1_2.after args s (.returned v) u = true ∧ True) → FrameEnd s (.returned v) u (Jvm.fieldLocs frame_1_writes args s ++ Jvm.arrayLocs frame_1_arrays args s ++ Jvm.staticLocs frame_1_statics s) 16 128 → Post tb e args s (.returned v) u) :
    ArmFor flags0 classFile x code maxLocals ret World_1 tables_1 room_1 Calls_1 rest_1 Pre_1 Post := by
  intro l hfl _ _ p e ha hc hk s m args below hf hA hF happ hP
  obtain ⟨hcalls, hrest, hpre⟩ := hP
  obtain ⟨-, -, -, hnamed, -, -, -, hat⟩ := (Spec.applies_iff hf).mp happ
  obtain ⟨hg, hn⟩ := and_e (Cond.before_iff.mp (show (Jvm.Cond.and given_1 narrow_1).before args s = true from hpre))
  obtain ⟨hg1, hg2⟩ := and_e hg
  obtain ⟨hg3, hg4⟩ := and_e hg2
  obtain ⟨hg5, hg6⟩ := and_e hg4
  obtain ⟨hg7, hg8⟩ := and_e hg6
  obtain ⟨w0, w1, w2, w3, rfl⟩ : ∃ w0 w1 w2 w3 : Value, args = #[w0, w1, w2, w3] := by
    have hs : args.size = 4 := by simpa [Cond.value, given_1] using hg1
    obtain ⟨L⟩ := args
    match L, hs with
    | [w0, w1, w2, w3], _ => exact ⟨w0, w1, w2, w3, rfl⟩
  have hw := fun d (hd : d ∈ tables_1) => atoms_spec (ws := Jvm.Cond.code x code maxLocals ret :: tables_1) hat d (List.mem_cons_of_mem _ hd)
  have hfit : Fit s := fun {y c} hc i hi => by
    obtain ⟨ha, rfl⟩ := Array.getElem?_eq_some_iff.mp hc
    have q := List.all_eq_true.mp ((Array.all_eq_true_iff_forall_mem.mp hF) _ (Array.getElem_mem ha)) i (List.mem_range.mpr hi)
    simpa [Array.getElem?_eq_getElem hi] using q
  obtain ⟨i0, ei0⟩ := isL_v hg3
  obtain rfl : w0 = (.long i0) := Option.some.inj ei0
  obtain ⟨i1, ei1⟩ := isL_v hg5
  obtain rfl : w1 = (.long i1) := Option.some.inj ei1
  obtain ⟨i2, ei2⟩ := isL_v hg7
  obtain rfl : w2 = (.long i2) := Option.some.inj ei2
  obtain ⟨i3, ei3⟩ := is_v hg8
  obtain rfl : w3 = (.int i3) := Option.some.inj ei3
  obtain ⟨n, o, h1, h2, h3, _, L, rfl, ⟨rfl, N, -⟩, hq⟩ := own_law0 l s _ hw tables_1 i0 i1 i2 i3  s.heap s.heap.size (Nat.le_refl _)  p e ha hc hk s m _ below hf ((Spec.applies_iff_loose hf).mp happ).1 ⟨rfl, State.Warmed39.refl s, rfl⟩ trivial
  refine ⟨n, _, h1, h2, h3, hpost _ _ _ _ _ _ ⟨Cond.after_iff.mpr rfl, Cond.after_iff.mpr (eq_i res_at (Term.int_eval (1)) rfl), trivial⟩ ⟨hq.1, hq.2.1, (hq.2.2.sift fun y hy => Or.inr (N y hy)).mono (by decide) (by decide)⟩⟩
theorem main_1_1 : Claimed_1_1 := own_comes fun _ _ _ _ _ _ h hF => ⟨h.1, hF⟩
theorem main_1_2 : Claimed_1_2 := own_comes fun _ _ _ _ _ _ h hF => ⟨h.2.1, hF⟩
end Jvm.Pilot.@@N@@
namespace Jvm.Pilot.@@N@@
open Jvm Jvm.ClassFile Sem Op Lib Jvm.Free Jvm.Stand Jvm.Pilot.@@N@@.Jvm.D
/-! MADE BY PROGRAM (witnessworld.py) out of the Statement's table words and the real class files: 10 classes; the members and pool entries that the words name. The judged class is class 1, her method 1. -/
namespace start1
open Jvm.ClassFile
def u (s : String) : CpInfo := .utf8 (stringToUtf16 s)
/-- a pool by its gaps: so many unusable entries, then the entry; so many at the end -/
def gap : Nat → List CpInfo → List CpInfo
  | 0, r => r
  | n + 1, r => .unusable :: gap n r
def poolList (es : List (Nat × CpInfo)) (last : Nat) : List CpInfo := es.foldr (fun e r => gap e.1 (e.2 :: r)) (gap last [])
def pool (es : List (Nat × CpInfo)) (last : Nat) : Array CpInfo := ⟨poolList es last⟩
def fileOf (pool : Array CpInfo) (this : Nat) (attrs : Array Attribute := #[]) (ms : Array MethodInfo := #[]) (fl : Nat := 33) (sup : Nat := 0) (ifs : Array Nat := #[]) (fds : Array FieldInfo := #[]) : ClassFile where
  minorVersion := 0
  majorVersion := 65
  constantPool := pool
  accessFlags := fl
  thisClass := this
  superClass := sup
  interfaces := ifs
  fields := fds
  methods := ms
  attributes := attrs
def plain (name : String) (sup : Option ClassId) : Class where
  name := name
  kind := .ordinary
  loader := none
  accessFlags := 33
  super := sup
  interfaces := #[]
  cf := none
  fields := #[]
  methods := #[]
  instanceTypes := #[]
  staticTypes := #[]
  resolved := #[]
  callSites := []
  init := .initialized
  statics := none
  mirror := none

def pool0 : Array CpInfo := pool [(5, u "<init>"), (0, u "()V"), (1, .class_ 10), (1, u "java/lang/Object")] 113

def k0c0 : Code := { maxStack := 0, maxLocals := 1, code := object_method_1_code, exceptionTable := #[], attributes := #[] }
def k0m0 : Method := { name := "<init>", desc := "()V", sig := { parameters := [], returnType := none }, accessFlags := 1, code := some k0c0 }
/-- java/lang/Object -/
def k0 : Class := { plain "java/lang/Object" none with
  accessFlags := 33
  interfaces := #[]
  cf := some (fileOf pool0 8 #[] #[{ accessFlags := 1, nameIndex := 5, descriptorIndex := 6, attributes := #[] }] 33 0 #[] #[])
  fields := #[]
  methods := #[k0m0]
  instanceTypes := #[]
  staticTypes := #[]
  resolved := Array.replicate 124 none
  statics := none }

def pool1 : Array CpInfo := pool [(2, .class_ 4), (1, u "java/lang/Object"), (0, u "<init>"), (0, u "()V"), (2, .long 9223372036854775807), (1, .class_ 12), (0, u "com/example/waypath/waypath/evaluator/StepLimit"), (0, .methodref 11 14), (0, .nameAndType 5 15), (0, u "(JJ)V"), (0, .methodref 11 17), (0, .nameAndType 18 19), (0, u "stepsFor"), (0, u "(J)J"), (0, .class_ 21), (0, u "com/example/waypath/waypath/evaluator/StepLimitStepsForPinLaw"), (2, u "law"), (0, u "(JJJI)Z")] 3

def k1m0 : Method := { name := "<init>", desc := "()V", sig := { parameters := [], returnType := none }, accessFlags := 2, code := none }
def k1c1 : Code := { maxStack := 6, maxLocals := 22, code := code, exceptionTable := #[], attributes := #[] }
def k1m1 : Method := { name := "law", desc := "(JJJI)Z", sig := { parameters := [.long, .long, .long, .int], returnType := some .boolean }, accessFlags := 9, code := some k1c1 }
/-- com/example/waypath/waypath/evaluator/StepLimitStepsForPinLaw -/
def k1 : Class := { plain "com/example/waypath/waypath/evaluator/StepLimitStepsForPinLaw" (some 0) with
  accessFlags := 49
  interfaces := #[]
  cf := some (fileOf pool1 20 #[] #[{ accessFlags := 2, nameIndex := 5, descriptorIndex := 6, attributes := #[] }, { accessFlags := 9, nameIndex := 24, descriptorIndex := 25, attributes := #[] }] 49 2 #[] #[])
  fields := #[]
  methods := #[k1m0, k1m1]
  instanceTypes := #[]
  staticTypes := #[]
  resolved := Array.replicate 29 none
  statics := none }

def pool2 : Array CpInfo := pool [(1, .methodref 2 3), (0, .class_ 4), (0, .nameAndType 5 6), (0, u "java/lang/Object"), (0, u "<init>"), (0, u "()V"), (0, .class_ 8), (0, u "java/lang/Record")] 13

def k2c0 : Code := { maxStack := 1, maxLocals := 1, code := jdk_30_method_1_code, exceptionTable := #[], attributes := #[] }
def k2m0 : Method := { name := "<init>", desc := "()V", sig := { parameters := [], returnType := none }, accessFlags := 4, code := some k2c0 }
/-- java/lang/Record -/
def k2 : Class := { plain "java/lang/Record" (some 0) with
  accessFlags := 1057
  interfaces := #[]
  cf := some (fileOf pool2 7 #[] #[{ accessFlags := 4, nameIndex := 5, descriptorIndex := 6, attributes := #[] }] 1057 2 #[] #[])
  fields := #[]
  methods := #[k2m0]
  instanceTypes := #[]
  staticTypes := #[]
  resolved := Array.replicate 22 none
  statics := none }

def pool3 : Array CpInfo := pool [(1, .class_ 2), (0, u "com/example/waypath/waypath/evaluator/StepLimit"), (2, u "<init>"), (0, u "(JJ)V"), (0, .methodref 8 9), (0, .class_ 10), (0, .nameAndType 5 11), (0, u "java/lang/Record"), (0, u "()V"), (9, .fieldref 1 22), (0, .nameAndType 23 24), (0, u "steps"), (0, u "J"), (0, .fieldref 1 26), (0, .nameAndType 27 24), (0, u "stepsPerInputItem"), (0, .methodref 1 29), (0, .nameAndType 30 31), (0, u "sum"), (0, u "(JJJ)J"), (2, .long 9223372036854775807), (19, u "DEFAULT"), (0, u "Lcom/example/waypath/waypath/evaluator/StepLimit;"), (6, u "stepsFor"), (0, u "(J)J")] 35

def k3c0 : Code := { maxStack := 6, maxLocals := 5, code := prog_9_method_1_code, exceptionTable := #[], attributes := #[] }
def k3m0 : Method := { name := "<init>", desc := "(JJ)V", sig := { parameters := [.long, .long], returnType := none }, accessFlags := 1, code := some k3c0 }
def k3c1 : Code := { maxStack := 6, maxLocals := 3, code := prog_9_method_3_code, exceptionTable := #[], attributes := #[] }
def k3m1 : Method := { name := "stepsFor", desc := "(J)J", sig := { parameters := [.long], returnType := some .long }, accessFlags := 1, code := some k3c1 }
def k3c2 : Code := { maxStack := 6, maxLocals := 6, code := prog_9_method_5_code, exceptionTable := #[], attributes := #[] }
def k3m2 : Method := { name := "sum", desc := "(JJJ)J", sig := { parameters := [.long, .long, .long], returnType := some .long }, accessFlags := 10, code := some k3c2 }
/-- com/example/waypath/waypath/evaluator/StepLimit -/
def k3 : Class := { plain "com/example/waypath/waypath/evaluator/StepLimit" (some 2) with
  accessFlags := 49
  interfaces := #[]
  cf := some (fileOf pool3 1 #[] #[{ accessFlags := 1, nameIndex := 5, descriptorIndex := 6, attributes := #[] }, { accessFlags := 1, nameIndex := 62, descriptorIndex := 63, attributes := #[] }, { accessFlags := 10, nameIndex := 30, descriptorIndex := 31, attributes := #[] }] 49 8 #[] #[{ accessFlags := 18, nameIndex := 23, descriptorIndex := 24, attributes := #[] }, { accessFlags := 18, nameIndex := 27, descriptorIndex := 24, attributes := #[] }, { accessFlags := 25, nameIndex := 54, descriptorIndex := 55, attributes := #[] }])
  fields := #[{ name := "steps", type := .long, accessFlags := 18, slot := 0, constantValue := 0 }, { name := "stepsPerInputItem", type := .long, accessFlags := 18, slot := 1, constantValue := 0 }, { name := "DEFAULT", type := (.object "com/example/waypath/waypath/evaluator/StepLimit"), accessFlags := 25, slot := 0, constantValue := 0 }]
  methods := #[k3m0, k3m1, k3m2]
  instanceTypes := #[.long, .long]
  staticTypes := #[(.object "com/example/waypath/waypath/evaluator/StepLimit")]
  resolved := Array.replicate 99 none
  statics := none }

def pool4 : Array CpInfo := pool [(1, u "java/lang/Cloneable"), (0, .class_ 1), (0, u "java/lang/Object"), (0, .class_ 3)] 3

/-- java/lang/Cloneable -/
def k4 : Class := { plain "java/lang/Cloneable" (some 0) with
  accessFlags := 1537
  interfaces := #[]
  cf := some (fileOf pool4 2 #[] #[] 1537 4 #[] #[])
  fields := #[]
  methods := #[]
  instanceTypes := #[]
  staticTypes := #[]
  resolved := Array.replicate 8 none
  statics := none }

def pool5 : Array CpInfo := pool [(1, u "java/io/Serializable"), (0, .class_ 1), (0, u "java/lang/Object"), (0, .class_ 3)] 3

/-- java/io/Serializable -/
def k5 : Class := { plain "java/io/Serializable" (some 0) with
  accessFlags := 1537
  interfaces := #[]
  cf := some (fileOf pool5 2 #[] #[] 1537 4 #[] #[])
  fields := #[]
  methods := #[]
  instanceTypes := #[]
  staticTypes := #[]
  resolved := Array.replicate 8 none
  statics := none }

/-- the primitive byte -/
def k6 : Class := { plain "byte" none with kind := .primitive 'B', accessFlags := 0x411 }
/-- [B -/
def k7 : Class := { plain "[B" (some 0) with kind := .array 6 .byte, interfaces := #[4, 5], accessFlags := 1041 }

/-- the primitive int -/
def k8 : Class := { plain "int" none with kind := .primitive 'I', accessFlags := 0x411 }
/-- [I -/
def k9 : Class := { plain "[I" (some 0) with kind := .array 8 .int, interfaces := #[4, 5], accessFlags := 1041 }

def heap : Heap := #[]
def classes : Array Class := #[k0, k1, k2, k3, k4, k5, k6, k7, k8, k9]
def interned : List (Array UInt16 × Addr) := []
def slotsUsed : Nat := 0
def theMethod : MethodId := ⟨1, 1⟩
def args0 : Array Value := #[.long 5, .long 6, .long 7, .int 0]
def aboutOver (below : List Frame) : State where
  vm := { classes := classes, interned := interned.toArray }
  heap := heap
  slotsUsed := slotsUsed
  threads := #[{ frames := .invoking theMethod args0 :: below }]
def below0 : List Frame := [.native { method := ⟨0, 0⟩, args := #[] }]
def about1 : State := aboutOver below0
def p0 : Program := .bare "" "" ""
def e0 : Env := launch0.env 0 0 0
theorem w_frames : about1.frames = Frame.invoking theMethod args0 :: below0 := rfl
set_option maxRecDepth 65536 in
theorem w_args : argsFit about1.vm theMethod args0 = true := by decide +kernel
set_option maxRecDepth 65536 in
theorem w_heap : heapFits about1 = true := by decide +kernel
set_option maxRecDepth 65536 in
theorem w_runnable : about1.curStatus? = some .runnable := by decide +kernel
set_option maxRecDepth 65536 in
theorem w_alone : about1.alone = true := by decide +kernel
set_option maxRecDepth 65536 in
theorem w_named : about1.methodNamed? x = some theMethod := by decide +kernel
set_option maxRecDepth 65536 in
theorem w_hears : about1.hears theMethod below0 = true := by decide +kernel
set_option maxRecDepth 65536 in
theorem w_ripe : about1.ripe theMethod args0 below0 = true := by decide +kernel
theorem w_running : about1.status = .running := rfl
set_option maxRecDepth 65536 in
theorem w_room : about1.hasRoom e0.platform room_1 = true :=
  launch0.hasRoom_least _ room_1 (by decide +kernel) (by decide +kernel) (by decide +kernel) (by decide +kernel) (by decide +kernel) (by decide +kernel)
theorem allAtoms_all (ts : List Jvm.Cond) (a : Array Jvm.Value) (st : Jvm.State) : (allAtoms ts).before a st = ts.all (fun c => c.before a st) := by
  induction ts with
  | nil => rfl
  | cons c t ih =>
    show (Jvm.Cond.and c (allAtoms t)).before a st = _
    rw [Jvm.Cond.before_and, ih, List.all_cons]
def words1 : List Jvm.Cond := Jvm.Cond.code x code maxLocals ret :: tables_1
/-- a 'code' word, met by the world's own term for the bytes: nothing is compared byte by byte -/
theorem code_word {y : MethodName} {bytes : ByteArray} {mx : Nat} {rt : Option FieldType} {a : Array Value} {s : State} {m : MethodId} {meth : Method} {c : Code} (h1 : s.methodNamed? y = some m) (h2 : s.vm.method? m = some meth) (h3 : meth.code = some c) (h4 : c.code = bytes)
    (h5 : (c.maxLocals == mx && c.exceptionTable.isEmpty && decide (c.maxStack ≤ mostOperands) && decide (meth.sig.returnType = rt) && !meth.locks && decide (parseMethodDescriptor y.desc = some meth.sig)) = true) : (Jvm.Cond.code y bytes mx rt).before a s = true := by
  simp only [Bool.and_eq_true, beq_iff_eq, Bool.not_eq_true', decide_eq_true_eq] at h5
  obtain ⟨⟨⟨⟨⟨g1, g2⟩, g3⟩, g4⟩, g5⟩, g6⟩ := h5
  simp [Cond.before, Cond.holds, Cond.value, h1, h2, h3, h4, g1, g2, g3, g4, g5, g6]
def isCode : Jvm.Cond → Bool
  | .code _ _ _ _ => true
  | _ => false
theorem all_split {L : List Jvm.Cond} {P : Jvm.Cond → Bool} (h1 : L.all (fun c => isCode c || P c) = true) (h2 : ∀ c ∈ L.filter isCode, P c = true) : L.all P = true := by
  refine List.all_eq_true.mpr fun c hc => ?_
  have h := List.all_eq_true.mp h1 c hc
  rcases Bool.eq_false_or_eq_true (isCode c) with hi | hi
  · exact h2 c (List.mem_filter.mpr ⟨hc, hi⟩)
  · simpa [hi] using h
set_option maxRecDepth 65536 in
theorem w_c0 : (Jvm.Cond.code x code maxLocals ret).before args0 about1 = true := code_word (m := ⟨1, 1⟩) (meth := k1m1) (c := k1c1) (by decide +kernel) rfl rfl rfl (by decide +kernel)
set_option maxRecDepth 65536 in
theorem w_c1 : (Jvm.Cond.code ({ cls := "com/example/waypath/waypath/evaluator/StepLimit", name := "<init>", desc := "(JJ)V" } : Jvm.MethodName) prog_9_method_1_code (5 : Nat) (Option.none : Option Jvm.ClassFile.FieldType)).before args0 about1 = true := code_word (m := ⟨3, 0⟩) (meth := k3m0) (c := k3c0) (by decide +kernel) rfl rfl rfl (by decide +kernel)
set_option maxRecDepth 65536 in
theorem w_c2 : (Jvm.Cond.code ({ cls := "java/lang/Record", name := "<init>", desc := "()V" } : Jvm.MethodName) jdk_30_method_1_code (1 : Nat) (Option.none : Option Jvm.ClassFile.FieldType)).before args0 about1 = true := code_word (m := ⟨2, 0⟩) (meth := k2m0) (c := k2c0) (by decide +kernel) rfl rfl rfl (by decide +kernel)
set_option maxRecDepth 65536 in
theorem w_c3 : (Jvm.Cond.code ({ cls := "java/lang/Object", name := "<init>", desc := "()V" } : Jvm.MethodName) object_method_1_code (1 : Nat) (Option.none : Option Jvm.ClassFile.FieldType)).before args0 about1 = true := code_word (m := ⟨0, 0⟩) (meth := k0m0) (c := k0c0) (by decide +kernel) rfl rfl rfl (by decide +kernel)
set_option maxRecDepth 65536 in
theorem w_c4 : (Jvm.Cond.code ({ cls := "com/example/waypath/waypath/evaluator/StepLimit", name := "stepsFor", desc := "(J)J" } : Jvm.MethodName) prog_9_method_3_code (3 : Nat) (Option.some Jvm.ClassFile.FieldType.long)).before args0 about1 = true := code_word (m := ⟨3, 1⟩) (meth := k3m1) (c := k3c1) (by decide +kernel) rfl rfl rfl (by decide +kernel)
set_option maxRecDepth 65536 in
theorem w_c5 : (Jvm.Cond.code ({ cls := "com/example/waypath/waypath/evaluator/StepLimit", name := "sum", desc := "(JJJ)J" } : Jvm.MethodName) prog_9_method_5_code (6 : Nat) (Option.some Jvm.ClassFile.FieldType.long)).before args0 about1 = true := code_word (m := ⟨3, 2⟩) (meth := k3m2) (c := k3c2) (by decide +kernel) rfl rfl rfl (by decide +kernel)
def codes1 : List Jvm.Cond := [Jvm.Cond.code x code maxLocals ret, Jvm.Cond.code ({ cls := "com/example/waypath/waypath/evaluator/StepLimit", name := "<init>", desc := "(JJ)V" } : Jvm.MethodName) prog_9_method_1_code (5 : Nat) (Option.none : Option Jvm.ClassFile.FieldType), Jvm.Cond.code ({ cls := "java/lang/Record", name := "<init>", desc := "()V" } : Jvm.MethodName) jdk_30_method_1_code (1 : Nat) (Option.none : Option Jvm.ClassFile.FieldType), Jvm.Cond.code ({ cls := "java/lang/Object", name := "<init>", desc := "()V" } : Jvm.MethodName) object_method_1_code (1 : Nat) (Option.none : Option Jvm.ClassFile.FieldType), Jvm.Cond.code ({ cls := "com/example/waypath/waypath/evaluator/StepLimit", name := "stepsFor", desc := "(J)J" } : Jvm.MethodName) prog_9_method_3_code (3 : Nat) (Option.some Jvm.ClassFile.FieldType.long), Jvm.Cond.code ({ cls := "com/example/waypath/waypath/evaluator/StepLimit", name := "sum", desc := "(JJJ)J" } : Jvm.MethodName) prog_9_method_5_code (6 : Nat) (Option.some Jvm.ClassFile.FieldType.long)]
set_option maxRecDepth 65536 in
theorem codes_eq : words1.filter isCode = codes1 := rfl
theorem w_codes : ∀ c ∈ words1.filter isCode, c.before args0 about1 = true := by
  rw [codes_eq]
  intro c hc
  simp only [codes1, List.mem_cons, List.not_mem_nil, or_false] at hc
  rcases hc with rfl | rfl | rfl | rfl | rfl | rfl
  · exact w_c0
  · exact w_c1
  · exact w_c2
  · exact w_c3
  · exact w_c4
  · exact w_c5
set_option maxRecDepth 65536 in
theorem w_t1 : (words1.take 24).all (fun c => isCode c || c.before args0 about1) = true := by decide +kernel
set_option maxRecDepth 65536 in
theorem w_t2 : (words1.drop 24).all (fun c => isCode c || c.before args0 about1) = true := by decide +kernel
theorem w_tables : (allAtoms (Jvm.Cond.code x code maxLocals ret :: tables_1)).before args0 about1 = true := by
  rw [allAtoms_all]
  show words1.all (fun c => c.before args0 about1) = true
  refine all_split ?_ w_codes
  rw [← List.take_append_drop 24 words1, List.all_append, w_t1, w_t2]
  rfl
set_option maxRecDepth 65536 in
theorem w_case : (Jvm.Cond.and given_1 narrow_1).before args0 about1 = true := by decide +kernel
theorem w_applies : (headSpec (Jvm.Cond.code x code maxLocals ret :: tables_1) room_1).applies x e0.platform about1 = true :=
  (Spec.applies_iff w_frames).mpr ⟨w_running, w_runnable, w_alone, w_named, w_hears, w_ripe, w_room, w_tables⟩
theorem atStart : AtStart classFile x code maxLocals ret World_1 tables_1 room_1 Calls_1 rest_1 Pre_1 launch0 p0 e0 about1 theMethod args0 below0 :=
  ⟨lists_1, trivial, launch0.admits_env _ _ _, launch0.least_env, fairChoices_fair.cas, fairChoices_fair.clock, w_frames, w_args, w_heap, w_applies, trivial, trivial, w_case⟩
end start1
theorem witness_1 : WitnessClaimed_1 := ⟨start1.p0, start1.e0, start1.about1, start1.theMethod, start1.args0, start1.below0, start1.atStart⟩
end Jvm.Pilot.@@N@@
