import JvmDerived
import JvmDerived.Pilot.@@N@@Statement
import JvmDerived.Pilot.@@N@@Code
set_option linter.unusedVariables false
set_option linter.unusedSimpArgs false
namespace Jvm.RoadKit
open Sem ClassFile Op Lib Jvm.Stand Jvm.Free Jvm.LawKit
section New
variable {p : Program} {l : Launch} {e : Env} {R : Room} {s : State} {m : MethodId} {args : Array Value} {below : List Frame} {meth : Method} {c : Code} {T : State} {locs : List Loc} {cells slots : Nat}
theorem retI (X : Stand p l e R s m args below meth c T locs cells slots) (hx : p.tables.exec = Jvm.exec) {pc : Nat} {Ls : Array Slot} {z : Int32} {rest : List Value} (hret : meth.sig.returnType = some .int) (hd : decode c.code pc = .ok (.ireturn, 1)) {fs : List Frame}
    (hl : ∀ (f : JFrame) (acts : List Action), f.method = m → f.locked = none → f.entered = [] → (doReturn e (T.setTop f) acts (some (.int z))).1 = T.setFrames fs) : Steps p.tables e below (T.setTop (mkF m pc Ls (.int z :: rest))) (T.setFrames fs) := by
  have hm' : T.vm.method? m = some meth := X.method'
  have hn : narrow .int (.int z) = .int z := rfl
  show Steps p.tables e below (T.setTop { method := m, pc := pc, locals := Ls, stack := _ :: rest, locked := none }) _
  jvm_step X.here [X.here.top, hx, hd, hm', hret, hn]
  first | (intro acts; rw [hl _ acts rfl rfl rfl]) | rw [hl _ _ rfl rfl rfl]
  exact Steps.refl _
end New
end Jvm.RoadKit
namespace Jvm.Pilot.@@N@@
open Jvm Jvm.ClassFile Sem Op Lib Jvm.Free Jvm.Stand Jvm.LawKit Jvm.RoadKit Bundle Jvm.Pilot.@@N@@.Jvm.D
/-- the rest of a run, in passing style: some state is come to at which F holds -/
def Go (p : Program) (e : Env) (below : List Frame) (F : State → Outcome → Prop) (t : State) : Prop := ∃ u o, Steps p.tables e below t u ∧ F u o
theorem Go.back {p : Program} {e : Env} {below : List Frame} {F : State → Outcome → Prop} {t t' : State} (k : ∀ u, Steps p.tables e below t' u → Steps p.tables e below t u) (h : Go p e below F t') : Go p e below F t := by
  obtain ⟨u, o, h1, h2⟩ := h
  exact ⟨u, o, k u h1, h2⟩
def own_F (s : State) (below : List Frame) (Q : Option Value → Heap → List Loc → Prop) (cells slots : Nat) (u : State) (o : Outcome) : Prop := u.status = .running ∧ Ended u below o ∧ ∃ v L, o = .returned v ∧ Q v u.heap L ∧ FrameEnd s o u L cells slots
theorem own_field {args : Array Value} {s : State} {t : Term} {C n d : String} {x : Addr} {v : Value} (h : t.eval args s none [] s = some (.ref x)) (h2 : (Term.field t C n d).eval args s none [] s = some v) : s.fieldOf? x C n d = some v := by
  simpa [Term.eval, h] using h2
theorem own_bit {x : Int32} (h : x = 0 ∨ x = 1) : narrow .boolean (.int x) = .int x ∧ fits .boolean (.int x) = true := by
  rcases h with rfl | rfl <;> decide
theorem own_pn0 : plainName "java/lang/Record" = true := by first | (simp [plainName, overriddenIn]; done) | decide +kernel
theorem own_d2_0 : decode jdk_30_method_1_code 0 = .ok (.aload_n 0, 1) := by decide +kernel
theorem own_d2_1 : decode jdk_30_method_1_code 1 = .ok (.invokespecial 1, 3) := by decide +kernel
theorem own_d2_4 : decode jdk_30_method_1_code 4 = .ok (.return_, 1) := by decide +kernel
theorem own_ef_own_recInit (m : MethodId) (x0 : Addr) : entryFrame m #[(.ref x0)] 1 = mkF m 0 #[.val (.ref x0)] [] := by first | (simp [entryFrame, mkF, argsToLocals, Value.category]; done) | rfl
def Q_own_recInit (Z : State) (a : Addr) (h0 : Heap) (n0 : Nat) (v : Option Value) (h : Heap) (L : List Loc) : Prop := v = none ∧ Fr n0 L ∧ h = h0
set_option maxRecDepth 65536 in
set_option maxHeartbeats 40000000 in
theorem own_recInit (l : Launch) (Z : State) (a0 : Array Value) (hw : ∀ d ∈ tables_1, d.before a0 Z = true) (ws : List Jvm.Cond) (a : Addr) (h0 : Heap) (n0 : Nat) (Z0 : n0 ≤ h0.size) :
    MetFree l (⟨"java/lang/Record", "<init>", "()V"⟩ : MethodName) (head1 (Jvm.Cond.code (⟨"java/lang/Record", "<init>", "()V"⟩ : MethodName) jdk_30_method_1_code 1 none :: ws) ({ frames := 1, cells := 0, slots := 0, locals := 12 } : Room)) (fun as_ U => as_ = #[(.ref a)] ∧ Z.Warmed39 U.vm ∧ U.heap = h0) (fun _ _ _ _ _ => True) (fun _ U o U' => ∃ v L, o = .returned v ∧ Q_own_recInit Z a h0 n0 v U'.heap L ∧ FrameEnd U o U' L ({ frames := 1, cells := 0, slots := 0, locals := 12 } : Room).cells ({ frames := 1, cells := 0, slots := 0, locals := 12 } : Room).slots) := by
  refine MetFree.of_bodySF (plainFor_of_name own_pn0) hisR ?_
  intro p e s m args below meth c s₁ Bd hml0 hP hK
  obtain ⟨rfl, hZ, hh⟩ := hP
  have hx := Bd.exec
  have hby := Bd.bytes
  have hml : c.maxLocals = 1 := hml0
  have hown : s.vm.findClass "java/lang/Record" = some m.cls := findClass_of_methodNamed Bd.named
  have hnm := (name_of_methodNamed Bd.named Bd.method).1
  have X0 : Stand p l e ({ frames := 1, cells := 0, slots := 0, locals := 12 } : Room) s m #[(.ref a)] below meth c s₁ [] 0 0 := Stand.of_body Bd
  have e0 : s₁.heap = h0 := by rw [← hh, Bd.state]; rfl
  have N0 := Fr.nil n0
  have K0 := Keep.refl h0 []
  show Go p e below (own_F s below (Q_own_recInit Z a h0 n0) ({ frames := 1, cells := 0, slots := 0, locals := 12 } : Room).cells ({ frames := 1, cells := 0, slots := 0, locals := 12 } : Room).slots) (s₁.setTop (entryFrame m #[(.ref a)] 1))
  rw [own_ef_own_recInit m a]
  refine Go.back (t' := (s₁.setTop (mkF m 1 #[.val (.ref a)] [(.ref a)]))) (fun u k => XS.aloadN X0.here hx rfl (hb hby own_d2_0) rfl rfl k) ?_
  obtain ⟨T1, X1, e1, st1⟩ := initO X0 hx hZ hown (hw _ (List.mem_of_getElem? (i := 11) rfl)) (hw _ (List.mem_of_getElem? (i := 12) rfl)) (hw _ (List.mem_of_getElem? (i := 13) rfl)) e0 (g := (mkF m 1 #[.val (.ref a)] [(.ref a)])) rfl (by rw [hml]; rfl) rfl (hb hby own_d2_1) (by decide) (W := 0) (by show 2 * 0 + _ ≤ _; exact Nat.le_of_eq rfl) (by decide)
  refine Go.back (t' := (T1.setTop (mkF m 4 #[.val (.ref a)] []))) st1 ?_
  obtain ⟨fs, hr, hrun, hended, hW, hsame⟩ := X1.leave (v := none) (fun _ => rfl)
  refine ⟨_, _, X1.returnOut hx Bd.returns (hb hby own_d2_4) hr, hrun, hended, _, _, rfl, ?_, ⟨_, rfl⟩, hW, hsame.mono (by decide) (by decide)⟩
  show Q_own_recInit Z a h0 n0 _ T1.heap _
  rw [e1]
  exact ⟨rfl, N0, rfl⟩
theorem own_pd0 : parseMethodDescriptor "()V" = some ⟨[], none⟩ := by decide +kernel
theorem own_pn1 : plainName "com/example/norn/norn/core/Purge$Result" = true := by first | (simp [plainName, overriddenIn]; done) | decide +kernel
theorem own_d1_0 : decode prog_37_method_1_code 0 = .ok (.aload_n 0, 1) := by decide +kernel
theorem own_d1_1 : decode prog_37_method_1_code 1 = .ok (.invokespecial 1, 3) := by decide +kernel
theorem own_d1_4 : decode prog_37_method_1_code 4 = .ok (.aload_n 0, 1) := by decide +kernel
theorem own_d1_5 : decode prog_37_method_1_code 5 = .ok (.lload_n 1, 1) := by decide +kernel
theorem own_d1_6 : decode prog_37_method_1_code 6 = .ok (.putfield 7, 3) := by decide +kernel
theorem own_d1_9 : decode prog_37_method_1_code 9 = .ok (.aload_n 0, 1) := by decide +kernel
theorem own_d1_10 : decode prog_37_method_1_code 10 = .ok (.iload_n 3, 1) := by decide +kernel
theorem own_d1_11 : decode prog_37_method_1_code 11 = .ok (.putfield 13, 3) := by decide +kernel
theorem own_d1_14 : decode prog_37_method_1_code 14 = .ok (.return_, 1) := by decide +kernel
theorem own_ef_own_init (m : MethodId) (x0 : Addr) (x1 : Int64) (x2 : Int32) : entryFrame m #[(.ref x0), (.long x1), (.int x2)] 4 = mkF m 0 #[.val (.ref x0), .val (.long x1), .second, .val (.int x2)] [] := by first | (simp [entryFrame, mkF, argsToLocals, Value.category]; done) | rfl
def Q_own_init (Z : State) (a : Addr) (q1 : Int64) (p1 : Int32) (h0 : Heap) (n0 : Nat) (v : Option Value) (h : Heap) (L : List Loc) : Prop := v = none ∧ Fr n0 L ∧ Keep h0 h [a] ∧ Exa Z h a "com/example/norn/norn/core/Purge$Result" ∧ Fld Z h a "com/example/norn/norn/core/Purge$Result" "removed" "J" (.long q1) ∧ Fld Z h a "com/example/norn/norn/core/Purge$Result" "batches" "I" (.int p1)
set_option maxRecDepth 65536 in
set_option maxHeartbeats 40000000 in
theorem own_init (l : Launch) (Z : State) (a0 : Array Value) (hw : ∀ d ∈ tables_1, d.before a0 Z = true) (ws : List Jvm.Cond) (a : Addr) (q1 : Int64) (p1 : Int32) (h0 : Heap) (n0 : Nat) (Z0 : n0 ≤ h0.size) (E_a : Exa Z h0 a "com/example/norn/norn/core/Purge$Result") (F_a_removed : Fld Z h0 a "com/example/norn/norn/core/Purge$Result" "removed" "J" (.long (0 : Int64))) (F_a_batches : Fld Z h0 a "com/example/norn/norn/core/Purge$Result" "batches" "I" (.int (0 : Int32))) (g_a : n0 ≤ a) :
    MetFree l (⟨"com/example/norn/norn/core/Purge$Result", "<init>", "(JI)V"⟩ : MethodName) (head1 (Jvm.Cond.code (⟨"com/example/norn/norn/core/Purge$Result", "<init>", "(JI)V"⟩ : MethodName) prog_37_method_1_code 4 none :: ws) ({ frames := 2, cells := 0, slots := 0, locals := 24 } : Room)) (fun as_ U => as_ = #[(.ref a), (.long q1), (.int p1)] ∧ Z.Warmed39 U.vm ∧ U.heap = h0) (fun _ _ _ _ _ => True) (fun _ U o U' => ∃ v L, o = .returned v ∧ Q_own_init Z a q1 p1 h0 n0 v U'.heap L ∧ FrameEnd U o U' L ({ frames := 2, cells := 0, slots := 0, locals := 24 } : Room).cells ({ frames := 2, cells := 0, slots := 0, locals := 24 } : Room).slots) := by
  refine MetFree.of_bodySF (plainFor_of_name own_pn1) hisR ?_
  intro p e s m args below meth c s₁ Bd hml0 hP hK
  obtain ⟨rfl, hZ, hh⟩ := hP
  have hx := Bd.exec
  have hby := Bd.bytes
  have hml : c.maxLocals = 4 := hml0
  have hown : s.vm.findClass "com/example/norn/norn/core/Purge$Result" = some m.cls := findClass_of_methodNamed Bd.named
  have hnm := (name_of_methodNamed Bd.named Bd.method).1
  have X0 : Stand p l e ({ frames := 2, cells := 0, slots := 0, locals := 24 } : Room) s m #[(.ref a), (.long q1), (.int p1)] below meth c s₁ [] 0 0 := Stand.of_body Bd
  have e0 : s₁.heap = h0 := by rw [← hh, Bd.state]; rfl
  have N0 := Fr.nil n0
  have K0 := Keep.refl h0 [a]
  show Go p e below (own_F s below (Q_own_init Z a q1 p1 h0 n0) ({ frames := 2, cells := 0, slots := 0, locals := 24 } : Room).cells ({ frames := 2, cells := 0, slots := 0, locals := 24 } : Room).slots) (s₁.setTop (entryFrame m #[(.ref a), (.long q1), (.int p1)] 4))
  rw [own_ef_own_init m a q1 p1]
  refine Go.back (t' := (s₁.setTop (mkF m 1 #[.val (.ref a), .val (.long q1), .second, .val (.int p1)] [(.ref a)]))) (fun u k => XS.aloadN X0.here hx rfl (hb hby own_d1_0) rfl rfl k) ?_
  obtain ⟨_, _, ⟨T1, L1, k1, n1⟩, -, X1, ⟨Lc1, hQ1, l1, y1, z1⟩, st1⟩ := X0.specialBack hx (y := (⟨"java/lang/Record", "<init>", "()V"⟩ : MethodName)) rfl hown (mvT hZ (hw _ (List.mem_of_getElem? (i := 6) rfl))) (mvT hZ (hw _ (List.mem_of_getElem? (i := 7) rfl))) (mvT hZ (hw _ (List.mem_of_getElem? (i := 10) rfl))) (by decide) (backOf (W := 0) (own_recInit l Z a0 hw [] a h0 n0 Z0 ) hZ (hw _ (List.mem_of_getElem? (i := 10) rfl)) (hw _ (List.mem_of_getElem? (i := 9) rfl)) (by decide) (by decide)) (g := (mkF m 1 #[.val (.ref a), .val (.long q1), .second, .val (.int p1)] [(.ref a)])) rfl (by rw [hml]; rfl) (Steps.refl _) (a := a) (argsL := []) (rest := []) (lenOf own_pd0 rfl) rfl (by show 2 * 0 + _ ≤ _; exact Nat.le_of_eq rfl) (hb hby own_d1_1) (fun _ _ => ⟨rfl, e0, (by decide : 0 + 0 ≤ _), (by decide : 0 + 0 ≤ _)⟩)
  dsimp only [Pt.U, Pt.locs, Pt.cells, Pt.slots] at X1 l1 y1 z1 st1 hQ1
  subst l1 y1 z1
  obtain ⟨rfl, N1, e1⟩ := hQ1
  have NA1 := Fr.app N0 N1
  refine Go.back (t' := (T1.setTop (mkF m 4 #[.val (.ref a), .val (.long q1), .second, .val (.int p1)] []))) (fun u k => st1.trans k) ?_
  refine Go.back (t' := (T1.setTop (mkF m 5 #[.val (.ref a), .val (.long q1), .second, .val (.int p1)] [(.ref a)]))) (fun u k => XS.aloadN X1.here hx rfl (hb hby own_d1_4) rfl rfl k) ?_
  refine Go.back (t' := (T1.setTop (mkF m 6 #[.val (.ref a), .val (.long q1), .second, .val (.int p1)] [(.long q1), (.ref a)]))) (fun u k => XT.lloadN X1.here hx rfl (hb hby own_d1_5) rfl k) ?_
  obtain ⟨T2, h2, X2, e2, W2, st2⟩ := putF X1 hx hZ hown (host := "") (Or.inl (hw _ (List.mem_of_getElem? (i := 14) rfl))) Via.refl e1 F_a_removed E_a (Or.inr ⟨(hw _ (List.mem_of_getElem? (i := 15) rfl)), rfl, hnm⟩) (hw _ (List.mem_of_getElem? (i := 1) rfl)) (ty := .long) (by decide) rfl rfl (g := (mkF m 6 #[.val (.ref a), .val (.long q1), .second, .val (.int p1)] [(.long q1), (.ref a)])) rfl rfl (hb hby own_d1_6)
  have Z2 : n0 ≤ h2.size := Nat.le_trans Z0 (Keep.of_wr W2).1
  have K2 := K0.wr W2 (Or.inl (List.mem_of_getElem? (i := 0) rfl))
  have N2 := Fr.snoc X2 NA1 g_a
  have F2 := F_a_removed.same W2
  refine Go.back (t' := (T2.setTop (mkF m 9 #[.val (.ref a), .val (.long q1), .second, .val (.int p1)] []))) st2 ?_
  refine Go.back (t' := (T2.setTop (mkF m 10 #[.val (.ref a), .val (.long q1), .second, .val (.int p1)] [(.ref a)]))) (fun u k => XS.aloadN X2.here hx rfl (hb hby own_d1_9) rfl rfl k) ?_
  refine Go.back (t' := (T2.setTop (mkF m 11 #[.val (.ref a), .val (.long q1), .second, .val (.int p1)] [(.int p1), (.ref a)]))) (fun u k => XS.iloadN X2.here hx rfl (hb hby own_d1_10) rfl k) ?_
  have f4 := (F_a_batches.other W2 (Or.inr (slot_ne (Or.inr (hw _ (List.mem_of_getElem? (i := 17) rfl))) (Or.inr (hw _ (List.mem_of_getElem? (i := 15) rfl))) (by decide) (t := .int) (t' := .long) (by decide) (by decide))))
  have f5 := (E_a.wr W2)
  obtain ⟨T3, h3, X3, e3, W3, st3⟩ := putF X2 hx hZ hown (host := "") (Or.inl (hw _ (List.mem_of_getElem? (i := 16) rfl))) Via.refl e2 f4 f5 (Or.inr ⟨(hw _ (List.mem_of_getElem? (i := 17) rfl)), rfl, hnm⟩) (hw _ (List.mem_of_getElem? (i := 1) rfl)) (ty := .int) (by decide) rfl rfl (g := (mkF m 11 #[.val (.ref a), .val (.long q1), .second, .val (.int p1)] [(.int p1), (.ref a)])) rfl rfl (hb hby own_d1_11)
  have Z3 : n0 ≤ h3.size := Nat.le_trans Z2 (Keep.of_wr W3).1
  have K3 := K2.wr W3 (Or.inl (List.mem_of_getElem? (i := 0) rfl))
  have N3 := Fr.snoc X3 N2 g_a
  have F3 := f4.same W3
  refine Go.back (t' := (T3.setTop (mkF m 14 #[.val (.ref a), .val (.long q1), .second, .val (.int p1)] []))) st3 ?_
  have f6 := (f5.wr W3)
  have f7 := (F2.other W3 (Or.inr (slot_ne (Or.inr (hw _ (List.mem_of_getElem? (i := 15) rfl))) (Or.inr (hw _ (List.mem_of_getElem? (i := 17) rfl))) (by decide) (t := .long) (t' := .int) (by decide) (by decide))))
  obtain ⟨fs, hr, hrun, hended, hW, hsame⟩ := X3.leave (v := none) (fun _ => rfl)
  refine ⟨_, _, X3.returnOut hx Bd.returns (hb hby own_d1_14) hr, hrun, hended, _, _, rfl, ?_, ⟨_, rfl⟩, hW, hsame.mono (by decide) (by decide)⟩
  show Q_own_init Z a q1 p1 h0 n0 _ T3.heap _
  rw [e3]
  exact ⟨rfl, N3, K3, f6, f7, F3⟩
theorem own_d5_0 : decode prog_37_method_6_code 0 = .ok (.aload_n 0, 1) := by decide +kernel
theorem own_d5_1 : decode prog_37_method_6_code 1 = .ok (.getfield 7, 3) := by decide +kernel
theorem own_d5_4 : decode prog_37_method_6_code 4 = .ok (.lreturn, 1) := by decide +kernel
theorem own_ef_own_removed (m : MethodId) (x0 : Addr) : entryFrame m #[(.ref x0)] 1 = mkF m 0 #[.val (.ref x0)] [] := by first | (simp [entryFrame, mkF, argsToLocals, Value.category]; done) | rfl
def Q_own_removed (Z : State) (a : Addr) (w : Int64) (h0 : Heap) (n0 : Nat) (v : Option Value) (h : Heap) (L : List Loc) : Prop := v = some (.long w) ∧ Fr n0 L ∧ h = h0
set_option maxRecDepth 65536 in
set_option maxHeartbeats 40000000 in
theorem own_removed (l : Launch) (Z : State) (a0 : Array Value) (hw : ∀ d ∈ tables_1, d.before a0 Z = true) (ws : List Jvm.Cond) (a : Addr) (w : Int64) (h0 : Heap) (n0 : Nat) (Z0 : n0 ≤ h0.size) (F_a_removed : Fld Z h0 a "com/example/norn/norn/core/Purge$Result" "removed" "J" (.long w)) :
    MetFree l (⟨"com/example/norn/norn/core/Purge$Result", "removed", "()J"⟩ : MethodName) (head1 (Jvm.Cond.code (⟨"com/example/norn/norn/core/Purge$Result", "removed", "()J"⟩ : MethodName) prog_37_method_6_code 1 (some .long) :: ws) ({ frames := 0, cells := 0, slots := 0, locals := 0 } : Room)) (fun as_ U => as_ = #[(.ref a)] ∧ Z.Warmed39 U.vm ∧ U.heap = h0) (fun _ _ _ _ _ => True) (fun _ U o U' => ∃ v L, o = .returned v ∧ Q_own_removed Z a w h0 n0 v U'.heap L ∧ FrameEnd U o U' L ({ frames := 0, cells := 0, slots := 0, locals := 0 } : Room).cells ({ frames := 0, cells := 0, slots := 0, locals := 0 } : Room).slots) := by
  refine MetFree.of_bodySF (plainFor_of_name own_pn1) hisR ?_
  intro p e s m args below meth c s₁ Bd hml0 hP hK
  obtain ⟨rfl, hZ, hh⟩ := hP
  have hx := Bd.exec
  have hby := Bd.bytes
  have hml : c.maxLocals = 1 := hml0
  have hown : s.vm.findClass "com/example/norn/norn/core/Purge$Result" = some m.cls := findClass_of_methodNamed Bd.named
  have hnm := (name_of_methodNamed Bd.named Bd.method).1
  have X0 : Stand p l e ({ frames := 0, cells := 0, slots := 0, locals := 0 } : Room) s m #[(.ref a)] below meth c s₁ [] 0 0 := Stand.of_body Bd
  have e0 : s₁.heap = h0 := by rw [← hh, Bd.state]; rfl
  have N0 := Fr.nil n0
  have K0 := Keep.refl h0 []
  show Go p e below (own_F s below (Q_own_removed Z a w h0 n0) ({ frames := 0, cells := 0, slots := 0, locals := 0 } : Room).cells ({ frames := 0, cells := 0, slots := 0, locals := 0 } : Room).slots) (s₁.setTop (entryFrame m #[(.ref a)] 1))
  rw [own_ef_own_removed m a]
  refine Go.back (t' := (s₁.setTop (mkF m 1 #[.val (.ref a)] [(.ref a)]))) (fun u k => XS.aloadN X0.here hx rfl (hb hby own_d5_0) rfl rfl k) ?_
  obtain ⟨T1, X1, e1, st1⟩ := getF X0 hx hZ hown (host := "") (Or.inl (hw _ (List.mem_of_getElem? (i := 14) rfl))) Via.refl e0 F_a_removed (g := (mkF m 1 #[.val (.ref a)] [(.ref a)])) rfl rfl (hb hby own_d5_1)
  refine Go.back (t' := (T1.setTop (mkF m 4 #[.val (.ref a)] [(.long w)]))) st1 ?_
  obtain ⟨fs, hr, hrun, hended, hW, hsame⟩ := X1.leave (v := some (.long w)) (fun h => by rw [Bd.returns] at h; cases h)
  refine ⟨_, _, retOut X1 hx (t := .long) (i := .lreturn) Bd.returns rfl (Or.inr (Or.inl ⟨rfl, rfl, _, rfl⟩)) (hb hby own_d5_4) hr, hrun, hended, _, _, rfl, ?_, ⟨_, rfl⟩, hW, hsame.mono (by decide) (by decide)⟩
  show Q_own_removed Z a w h0 n0 _ T1.heap _
  rw [e1]
  exact ⟨rfl, N0, rfl⟩
theorem own_d6_0 : decode prog_37_method_7_code 0 = .ok (.aload_n 0, 1) := by decide +kernel
theorem own_d6_1 : decode prog_37_method_7_code 1 = .ok (.getfield 13, 3) := by decide +kernel
theorem own_d6_4 : decode prog_37_method_7_code 4 = .ok (.ireturn, 1) := by decide +kernel
theorem own_ef_own_batches (m : MethodId) (x0 : Addr) : entryFrame m #[(.ref x0)] 1 = mkF m 0 #[.val (.ref x0)] [] := by first | (simp [entryFrame, mkF, argsToLocals, Value.category]; done) | rfl
def Q_own_batches (Z : State) (a : Addr) (w : Int32) (h0 : Heap) (n0 : Nat) (v : Option Value) (h : Heap) (L : List Loc) : Prop := v = some (.int w) ∧ Fr n0 L ∧ h = h0
set_option maxRecDepth 65536 in
set_option maxHeartbeats 40000000 in
theorem own_batches (l : Launch) (Z : State) (a0 : Array Value) (hw : ∀ d ∈ tables_1, d.before a0 Z = true) (ws : List Jvm.Cond) (a : Addr) (w : Int32) (h0 : Heap) (n0 : Nat) (Z0 : n0 ≤ h0.size) (F_a_batches : Fld Z h0 a "com/example/norn/norn/core/Purge$Result" "batches" "I" (.int w)) :
    MetFree l (⟨"com/example/norn/norn/core/Purge$Result", "batches", "()I"⟩ : MethodName) (head1 (Jvm.Cond.code (⟨"com/example/norn/norn/core/Purge$Result", "batches", "()I"⟩ : MethodName) prog_37_method_7_code 1 (some .int) :: ws) ({ frames := 0, cells := 0, slots := 0, locals := 0 } : Room)) (fun as_ U => as_ = #[(.ref a)] ∧ Z.Warmed39 U.vm ∧ U.heap = h0) (fun _ _ _ _ _ => True) (fun _ U o U' => ∃ v L, o = .returned v ∧ Q_own_batches Z a w h0 n0 v U'.heap L ∧ FrameEnd U o U' L ({ frames := 0, cells := 0, slots := 0, locals := 0 } : Room).cells ({ frames := 0, cells := 0, slots := 0, locals := 0 } : Room).slots) := by
  refine MetFree.of_bodySF (plainFor_of_name own_pn1) hisR ?_
  intro p e s m args below meth c s₁ Bd hml0 hP hK
  obtain ⟨rfl, hZ, hh⟩ := hP
  have hx := Bd.exec
  have hby := Bd.bytes
  have hml : c.maxLocals = 1 := hml0
  have hown : s.vm.findClass "com/example/norn/norn/core/Purge$Result" = some m.cls := findClass_of_methodNamed Bd.named
  have hnm := (name_of_methodNamed Bd.named Bd.method).1
  have X0 : Stand p l e ({ frames := 0, cells := 0, slots := 0, locals := 0 } : Room) s m #[(.ref a)] below meth c s₁ [] 0 0 := Stand.of_body Bd
  have e0 : s₁.heap = h0 := by rw [← hh, Bd.state]; rfl
  have N0 := Fr.nil n0
  have K0 := Keep.refl h0 []
  show Go p e below (own_F s below (Q_own_batches Z a w h0 n0) ({ frames := 0, cells := 0, slots := 0, locals := 0 } : Room).cells ({ frames := 0, cells := 0, slots := 0, locals := 0 } : Room).slots) (s₁.setTop (entryFrame m #[(.ref a)] 1))
  rw [own_ef_own_batches m a]
  refine Go.back (t' := (s₁.setTop (mkF m 1 #[.val (.ref a)] [(.ref a)]))) (fun u k => XS.aloadN X0.here hx rfl (hb hby own_d6_0) rfl rfl k) ?_
  obtain ⟨T1, X1, e1, st1⟩ := getF X0 hx hZ hown (host := "") (Or.inl (hw _ (List.mem_of_getElem? (i := 16) rfl))) Via.refl e0 F_a_batches (g := (mkF m 1 #[.val (.ref a)] [(.ref a)])) rfl rfl (hb hby own_d6_1)
  refine Go.back (t' := (T1.setTop (mkF m 4 #[.val (.ref a)] [(.int w)]))) st1 ?_
  obtain ⟨fs, hr, hrun, hended, hW, hsame⟩ := X1.leave (v := some (.int w)) (fun h => by rw [Bd.returns] at h; cases h)
  refine ⟨_, _, retI X1 hx Bd.returns (hb hby own_d6_4) hr, hrun, hended, _, _, rfl, ?_, ⟨_, rfl⟩, hW, hsame.mono (by decide) (by decide)⟩
  show Q_own_batches Z a w h0 n0 _ T1.heap _
  rw [e1]
  exact ⟨rfl, N0, rfl⟩
theorem own_pd1 : parseMethodDescriptor "()J" = some ⟨[], some .long⟩ := by decide +kernel
theorem own_pd2 : parseMethodDescriptor "()I" = some ⟨[], some .int⟩ := by decide +kernel
theorem own_pd3 : parseMethodDescriptor "(JI)V" = some ⟨[.long, .int], none⟩ := by decide +kernel
theorem own_d4_0 : decode prog_37_method_2_code 0 = .ok (.new 8, 3) := by decide +kernel
theorem own_d4_3 : decode prog_37_method_2_code 3 = .ok (.dup, 1) := by decide +kernel
theorem own_d4_4 : decode prog_37_method_2_code 4 = .ok (.aload_n 0, 1) := by decide +kernel
theorem own_d4_5 : decode prog_37_method_2_code 5 = .ok (.getfield 7, 3) := by decide +kernel
theorem own_d4_8 : decode prog_37_method_2_code 8 = .ok (.aload_n 1, 1) := by decide +kernel
theorem own_d4_9 : decode prog_37_method_2_code 9 = .ok (.invokevirtual 17, 3) := by decide +kernel
theorem own_d4_12 : decode prog_37_method_2_code 12 = .ok (.ladd, 1) := by decide +kernel
theorem own_d4_13 : decode prog_37_method_2_code 13 = .ok (.aload_n 0, 1) := by decide +kernel
theorem own_d4_14 : decode prog_37_method_2_code 14 = .ok (.getfield 13, 3) := by decide +kernel
theorem own_d4_17 : decode prog_37_method_2_code 17 = .ok (.aload_n 1, 1) := by decide +kernel
theorem own_d4_18 : decode prog_37_method_2_code 18 = .ok (.invokevirtual 20, 3) := by decide +kernel
theorem own_d4_21 : decode prog_37_method_2_code 21 = .ok (.iadd, 1) := by decide +kernel
theorem own_d4_22 : decode prog_37_method_2_code 22 = .ok (.invokespecial 23, 3) := by decide +kernel
theorem own_d4_25 : decode prog_37_method_2_code 25 = .ok (.areturn, 1) := by decide +kernel
theorem own_ef_own_plus (m : MethodId) (x0 : Addr) (x1 : Addr) : entryFrame m #[(.ref x0), (.ref x1)] 2 = mkF m 0 #[.val (.ref x0), .val (.ref x1)] [] := by first | (simp [entryFrame, mkF, argsToLocals, Value.category]; done) | rfl
def Q_own_plus (Z : State) (a : Addr) (b : Addr) (q1 : Int64) (p1 : Int32) (q2 : Int64) (p2 : Int32) (h0 : Heap) (n0 : Nat) (v : Option Value) (h : Heap) (L : List Loc) : Prop := ∃ r : Addr, v = some (.ref r) ∧ Fr n0 L ∧ Keep h0 h [] ∧ n0 ≤ r ∧ h0.size ≤ r ∧ Exa Z h r "com/example/norn/norn/core/Purge$Result" ∧ Fld Z h r "com/example/norn/norn/core/Purge$Result" "removed" "J" (.long (q1 + q2)) ∧ Fld Z h r "com/example/norn/norn/core/Purge$Result" "batches" "I" (.int (p1 + p2))
set_option maxRecDepth 65536 in
set_option maxHeartbeats 40000000 in
theorem own_plus (l : Launch) (Z : State) (a0 : Array Value) (hw : ∀ d ∈ tables_1, d.before a0 Z = true) (ws : List Jvm.Cond) (a : Addr) (b : Addr) (q1 : Int64) (p1 : Int32) (q2 : Int64) (p2 : Int32) (h0 : Heap) (n0 : Nat) (Z0 : n0 ≤ h0.size) (E_b : Exa Z h0 b "com/example/norn/norn/core/Purge$Result") (F_a_removed : Fld Z h0 a "com/example/norn/norn/core/Purge$Result" "removed" "J" (.long q1)) (F_a_batches : Fld Z h0 a "com/example/norn/norn/core/Purge$Result" "batches" "I" (.int p1)) (F_b_removed : Fld Z h0 b "com/example/norn/norn/core/Purge$Result" "removed" "J" (.long q2)) (F_b_batches : Fld Z h0 b "com/example/norn/norn/core/Purge$Result" "batches" "I" (.int p2)) :
    MetFree l (⟨"com/example/norn/norn/core/Purge$Result", "plus", "(Lcom/example/norn/norn/core/Purge$Result;)Lcom/example/norn/norn/core/Purge$Result;"⟩ : MethodName) (head1 (Jvm.Cond.code (⟨"com/example/norn/norn/core/Purge$Result", "plus", "(Lcom/example/norn/norn/core/Purge$Result;)Lcom/example/norn/norn/core/Purge$Result;"⟩ : MethodName) prog_37_method_2_code 2 (some (.object "com/example/norn/norn/core/Purge$Result")) :: ws) ({ frames := 3, cells := 1, slots := 2, locals := 40 } : Room)) (fun as_ U => as_ = #[(.ref a), (.ref b)] ∧ Z.Warmed39 U.vm ∧ U.heap = h0) (fun _ _ _ _ _ => True) (fun _ U o U' => ∃ v L, o = .returned v ∧ Q_own_plus Z a b q1 p1 q2 p2 h0 n0 v U'.heap L ∧ FrameEnd U o U' L ({ frames := 3, cells := 1, slots := 2, locals := 40 } : Room).cells ({ frames := 3, cells := 1, slots := 2, locals := 40 } : Room).slots) := by
  refine MetFree.of_bodySF (plainFor_of_name own_pn1) hisR ?_
  intro p e s m args below meth c s₁ Bd hml0 hP hK
  obtain ⟨rfl, hZ, hh⟩ := hP
  have hx := Bd.exec
  have hby := Bd.bytes
  have hml : c.maxLocals = 2 := hml0
  have hown : s.vm.findClass "com/example/norn/norn/core/Purge$Result" = some m.cls := findClass_of_methodNamed Bd.named
  have hnm := (name_of_methodNamed Bd.named Bd.method).1
  have X0 : Stand p l e ({ frames := 3, cells := 1, slots := 2, locals := 40 } : Room) s m #[(.ref a), (.ref b)] below meth c s₁ [] 0 0 := Stand.of_body Bd
  have e0 : s₁.heap = h0 := by rw [← hh, Bd.state]; rfl
  have N0 := Fr.nil n0
  have K0 := Keep.refl h0 []
  show Go p e below (own_F s below (Q_own_plus Z a b q1 p1 q2 p2 h0 n0) ({ frames := 3, cells := 1, slots := 2, locals := 40 } : Room).cells ({ frames := 3, cells := 1, slots := 2, locals := 40 } : Room).slots) (s₁.setTop (entryFrame m #[(.ref a), (.ref b)] 2))
  rw [own_ef_own_plus m a b]
  obtain ⟨T1, h1, X1, e1, E1, A1, D1, -, st1⟩ := newO X0 hx hZ hown (hw _ (List.mem_of_getElem? (i := 23) rfl)) (hw _ (List.mem_of_getElem? (i := 1) rfl)) (hw _ (List.mem_of_getElem? (i := 2) rfl)) e0 (g := (mkF m 0 #[.val (.ref a), .val (.ref b)] [])) rfl (hb hby own_d4_0) (by decide) (by decide)
  obtain ⟨b1, g1⟩ : ∃ z, z = h0.size := ⟨_, rfl⟩
  rw [← g1] at A1 D1 st1
  have ne_a_b1 : a ≠ b1 := Nat.ne_of_lt (Nat.lt_of_lt_of_le F_a_removed.lt (Nat.le_of_eq g1.symm))
  have ne_b_b1 : b ≠ b1 := Nat.ne_of_lt (Nat.lt_of_lt_of_le E_b.lt (Nat.le_of_eq g1.symm))
  have gb1 : n0 ≤ b1 := Nat.le_trans Z0 (Nat.le_of_eq g1.symm)
  have sz1 : h0.size ≤ b1 := Nat.le_trans K0.1 (Nat.le_of_eq g1.symm)
  have Z1 : n0 ≤ h1.size := Nat.le_trans Z0 E1.1
  have K1 := K0.ext E1
  refine Go.back (t' := (T1.setTop (mkF m 3 #[.val (.ref a), .val (.ref b)] [(.ref b1)]))) st1 ?_
  refine Go.back (t' := (T1.setTop (mkF m 4 #[.val (.ref a), .val (.ref b)] [(.ref b1), (.ref b1)]))) (fun u k => XS.dup X1.here hx rfl (hb hby own_d4_3) rfl rfl k) ?_
  refine Go.back (t' := (T1.setTop (mkF m 5 #[.val (.ref a), .val (.ref b)] [(.ref a), (.ref b1), (.ref b1)]))) (fun u k => XS.aloadN X1.here hx rfl (hb hby own_d4_4) rfl rfl k) ?_
  have f2 := (F_a_removed.ext E1)
  obtain ⟨T3, X3, e3, st3⟩ := getF X1 hx hZ hown (host := "") (Or.inl (hw _ (List.mem_of_getElem? (i := 14) rfl))) Via.refl e1 f2 (g := (mkF m 5 #[.val (.ref a), .val (.ref b)] [(.ref a), (.ref b1), (.ref b1)])) rfl rfl (hb hby own_d4_5)
  refine Go.back (t' := (T3.setTop (mkF m 8 #[.val (.ref a), .val (.ref b)] [(.long q1), (.ref b1), (.ref b1)]))) st3 ?_
  refine Go.back (t' := (T3.setTop (mkF m 9 #[.val (.ref a), .val (.ref b)] [(.ref b), (.long q1), (.ref b1), (.ref b1)]))) (fun u k => XS.aloadN X3.here hx rfl (hb hby own_d4_8) rfl rfl k) ?_
  have f4 := (F_b_removed.ext E1)
  have f7 := (E_b.ext E1)
  obtain ⟨cq6, kq6, qa6, qb6, qc6⟩ := isOf hZ e3 f7
  obtain ⟨_, _, ⟨T5, L5, k5, n5⟩, -, X5, ⟨Lc5, hQ5, l5, y5, z5⟩, st5⟩ := X3.virtualBack hx (y := (⟨"com/example/norn/norn/core/Purge$Result", "removed", "()J"⟩ : MethodName)) (z := (⟨"com/example/norn/norn/core/Purge$Result", "removed", "()J"⟩ : MethodName)) hown (mvT hZ (hw _ (List.mem_of_getElem? (i := 24) rfl))) (mvT hZ (hw _ (List.mem_of_getElem? (i := 25) rfl))) (notFace_of_selects (args := #[]) (mvT hZ (hw _ (List.mem_of_getElem? (i := 27) rfl)))) (mvT hZ (hw _ (List.mem_of_getElem? (i := 27) rfl))) (mvT hZ (hw _ (List.mem_of_getElem? (i := 26) rfl))) (by decide) (backOf (W := 4) (own_removed l Z a0 hw [] b q2 h1 n0 Z1 f4) hZ (hw _ (List.mem_of_getElem? (i := 28) rfl)) (hw _ (List.mem_of_getElem? (i := 2) rfl)) (by decide) (by decide)) qa6 qc6 (g := (mkF m 9 #[.val (.ref a), .val (.ref b)] [(.ref b), (.long q1), (.ref b1), (.ref b1)])) rfl (by rw [hml]; rfl) (Steps.refl _) (argsL := []) (rest := [(.long q1), (.ref b1), (.ref b1)]) (lenOf own_pd1 rfl) rfl (by show 2 * 0 + _ ≤ _; exact Nat.le_of_eq rfl) (hb hby own_d4_9) (fun _ _ => ⟨rfl, e3, (by decide : 1 + 0 ≤ _), (by decide : 2 + 0 ≤ _)⟩)
  dsimp only [Pt.U, Pt.locs, Pt.cells, Pt.slots] at X5 l5 y5 z5 st5 hQ5
  subst l5 y5 z5
  obtain ⟨rfl, N5, e5⟩ := hQ5
  have NA5 := Fr.app N0 N5
  refine Go.back (t' := (T5.setTop (mkF m 12 #[.val (.ref a), .val (.ref b)] [(.long q2), (.long q1), (.ref b1), (.ref b1)]))) (fun u k => st5.trans k) ?_
  refine Go.back (t' := (T5.setTop (mkF m 13 #[.val (.ref a), .val (.ref b)] [(.long (q1 + q2)), (.ref b1), (.ref b1)]))) (fun u k => XT.ladd X5.here hx rfl (hb hby own_d4_12) rfl k) ?_
  refine Go.back (t' := (T5.setTop (mkF m 14 #[.val (.ref a), .val (.ref b)] [(.ref a), (.long (q1 + q2)), (.ref b1), (.ref b1)]))) (fun u k => XS.aloadN X5.here hx rfl (hb hby own_d4_13) rfl rfl k) ?_
  have f8 := (F_a_batches.ext E1)
  obtain ⟨T9, X9, e9, st9⟩ := getF X5 hx hZ hown (host := "") (Or.inl (hw _ (List.mem_of_getElem? (i := 16) rfl))) Via.refl e5 f8 (g := (mkF m 14 #[.val (.ref a), .val (.ref b)] [(.ref a), (.long (q1 + q2)), (.ref b1), (.ref b1)])) rfl rfl (hb hby own_d4_14)
  refine Go.back (t' := (T9.setTop (mkF m 17 #[.val (.ref a), .val (.ref b)] [(.int p1), (.long (q1 + q2)), (.ref b1), (.ref b1)]))) st9 ?_
  refine Go.back (t' := (T9.setTop (mkF m 18 #[.val (.ref a), .val (.ref b)] [(.ref b), (.int p1), (.long (q1 + q2)), (.ref b1), (.ref b1)]))) (fun u k => XS.aloadN X9.here hx rfl (hb hby own_d4_17) rfl rfl k) ?_
  have f10 := (F_b_batches.ext E1)
  obtain ⟨cq12, kq12, qa12, qb12, qc12⟩ := isOf hZ e9 f7
  obtain ⟨_, _, ⟨T11, L11, k11, n11⟩, -, X11, ⟨Lc11, hQ11, l11, y11, z11⟩, st11⟩ := X9.virtualBack hx (y := (⟨"com/example/norn/norn/core/Purge$Result", "batches", "()I"⟩ : MethodName)) (z := (⟨"com/example/norn/norn/core/Purge$Result", "batches", "()I"⟩ : MethodName)) hown (mvT hZ (hw _ (List.mem_of_getElem? (i := 29) rfl))) (mvT hZ (hw _ (List.mem_of_getElem? (i := 30) rfl))) (notFace_of_selects (args := #[]) (mvT hZ (hw _ (List.mem_of_getElem? (i := 32) rfl)))) (mvT hZ (hw _ (List.mem_of_getElem? (i := 32) rfl))) (mvT hZ (hw _ (List.mem_of_getElem? (i := 31) rfl))) (by decide) (backOf (W := 5) (own_batches l Z a0 hw [] b p2 h1 n0 Z1 f10) hZ (hw _ (List.mem_of_getElem? (i := 33) rfl)) (hw _ (List.mem_of_getElem? (i := 2) rfl)) (by decide) (by decide)) qa12 qc12 (g := (mkF m 18 #[.val (.ref a), .val (.ref b)] [(.ref b), (.int p1), (.long (q1 + q2)), (.ref b1), (.ref b1)])) rfl (by rw [hml]; rfl) (Steps.refl _) (argsL := []) (rest := [(.int p1), (.long (q1 + q2)), (.ref b1), (.ref b1)]) (lenOf own_pd2 rfl) rfl (by show 2 * 0 + _ ≤ _; exact Nat.le_of_eq rfl) (hb hby own_d4_18) (fun _ _ => ⟨rfl, e9, (by decide : 1 + 0 ≤ _), (by decide : 2 + 0 ≤ _)⟩)
  dsimp only [Pt.U, Pt.locs, Pt.cells, Pt.slots] at X11 l11 y11 z11 st11 hQ11
  subst l11 y11 z11
  obtain ⟨rfl, N11, e11⟩ := hQ11
  have NA11 := Fr.app NA5 N11
  refine Go.back (t' := (T11.setTop (mkF m 21 #[.val (.ref a), .val (.ref b)] [(.int p2), (.int p1), (.long (q1 + q2)), (.ref b1), (.ref b1)]))) (fun u k => st11.trans k) ?_
  refine Go.back (t' := (T11.setTop (mkF m 22 #[.val (.ref a), .val (.ref b)] [(.int (p1 + p2)), (.long (q1 + q2)), (.ref b1), (.ref b1)]))) (fun u k => XS.iadd X11.here hx rfl (hb hby own_d4_21) rfl k) ?_
  obtain ⟨_, _, ⟨T13, L13, k13, n13⟩, -, X13, ⟨Lc13, hQ13, l13, y13, z13⟩, st13⟩ := X11.specialBack hx (y := (⟨"com/example/norn/norn/core/Purge$Result", "<init>", "(JI)V"⟩ : MethodName)) rfl hown (mvT hZ (hw _ (List.mem_of_getElem? (i := 34) rfl))) (mvT hZ (hw _ (List.mem_of_getElem? (i := 4) rfl))) (mvT hZ (hw _ (List.mem_of_getElem? (i := 5) rfl))) (by decide) (backOf (W := 1) (own_init l Z a0 hw [] b1 (q1 + q2) (p1 + p2) h1 n0 Z1 A1 (D1 (Or.inr (hw _ (List.mem_of_getElem? (i := 15) rfl))) (ty := .long) (by decide)) (D1 (Or.inr (hw _ (List.mem_of_getElem? (i := 17) rfl))) (ty := .int) (by decide)) gb1) hZ (hw _ (List.mem_of_getElem? (i := 5) rfl)) (hw _ (List.mem_of_getElem? (i := 2) rfl)) (by decide) (by decide)) (g := (mkF m 22 #[.val (.ref a), .val (.ref b)] [(.int (p1 + p2)), (.long (q1 + q2)), (.ref b1), (.ref b1)])) rfl (by rw [hml]; rfl) (Steps.refl _) (a := b1) (argsL := [(.long (q1 + q2)), (.int (p1 + p2))]) (rest := [(.ref b1)]) (lenOf own_pd3 rfl) rfl (by show 2 * 0 + _ ≤ _; exact Nat.le_of_eq rfl) (hb hby own_d4_22) (fun _ _ => ⟨rfl, e11, (by decide : 1 + 0 ≤ _), (by decide : 2 + 0 ≤ _)⟩)
  dsimp only [Pt.U, Pt.locs, Pt.cells, Pt.slots] at X13 l13 y13 z13 st13 hQ13
  subst l13 y13 z13
  obtain ⟨rfl, N13, Kc13, P13_0, P13_1, P13_2⟩ := hQ13
  have NA13 := Fr.app NA11 N13
  have Z13 : n0 ≤ T13.heap.size := Nat.le_trans Z1 Kc13.1
  have K13 := K1.trans Kc13 (allS (Or.inr sz1) all0)
  refine Go.back (t' := (T13.setTop (mkF m 25 #[.val (.ref a), .val (.ref b)] [(.ref b1)]))) (fun u k => st13.trans k) ?_
  obtain ⟨fs, hr, hrun, hended, hW, hsame⟩ := X13.leave (v := some (.ref b1)) (fun h => by rw [Bd.returns] at h; cases h)
  refine ⟨_, _, retOut X13 hx (t := (.object "com/example/norn/norn/core/Purge$Result")) (i := .areturn) Bd.returns rfl (Or.inr (Or.inr (Or.inr (Or.inr ⟨rfl, rfl, rfl⟩)))) (hb hby own_d4_25) hr, hrun, hended, _, _, rfl, ?_, ⟨_, rfl⟩, hW, hsame.mono (by decide) (by decide)⟩
  show Q_own_plus Z a b q1 p1 q2 p2 h0 n0 _ T13.heap _
  exact ⟨b1, rfl, NA13, K13, gb1, sz1, P13_0, P13_1, P13_2⟩
theorem own_pd4 : parseMethodDescriptor "(Lcom/example/norn/norn/core/Purge$Result;)Lcom/example/norn/norn/core/Purge$Result;" = some ⟨[(.object "com/example/norn/norn/core/Purge$Result")], some (.object "com/example/norn/norn/core/Purge$Result")⟩ := by decide +kernel
theorem own_pn2 : plainName "com/example/norn/norn/core/ResultPlusPinLaw" = true := by first | (simp [plainName, overriddenIn]; done) | decide +kernel
theorem own_ef_own_law0 (m : MethodId) (x0 : Int64) (x1 : Int32) (x2 : Int64) (x3 : Int32) : entryFrame m #[(.long x0), (.int x1), (.long x2), (.int x3)] maxLocals = mkF m 0 #[.val (.long x0), .second, .val (.int x1), .val (.long x2), .second, .val (.int x3), .unset, .unset, .unset, .unset, .unset, .unset, .unset, .unset, .unset, .unset] [] := by first | (simp [entryFrame, mkF, argsToLocals, Value.category, maxLocals]; done) | rfl
def Q_own_law0 (Z : State) (q0 : Int64) (p0 : Int32) (q1 : Int64) (p1 : Int32) (h0 : Heap) (n0 : Nat) (v : Option Value) (h : Heap) (L : List Loc) : Prop := v = some (.int 1) ∧ Fr n0 L ∧ Keep h0 h []
set_option maxRecDepth 65536 in
set_option maxHeartbeats 40000000 in
theorem own_law0 (l : Launch) (Z : State) (a0 : Array Value) (hw : ∀ d ∈ tables_1, d.before a0 Z = true) (ws : List Jvm.Cond) (q0 : Int64) (p0 : Int32) (q1 : Int64) (p1 : Int32) (h0 : Heap) (n0 : Nat) (Z0 : n0 ≤ h0.size) :
    MetFree l x (head1 (Jvm.Cond.code x code maxLocals ret :: ws) room_1) (fun as_ U => as_ = #[(.long q0), (.int p0), (.long q1), (.int p1)] ∧ Z.Warmed39 U.vm ∧ U.heap = h0) (fun _ _ _ _ _ => True) (fun _ U o U' => ∃ v L, o = .returned v ∧ Q_own_law0 Z q0 p0 q1 p1 h0 n0 v U'.heap L ∧ FrameEnd U o U' L 16 128) := by
  refine MetFree.of_bodySF (plainFor_of_name own_pn2) hisR ?_
  intro p e s m args below meth c s₁ Bd hml0 hP hK
  obtain ⟨rfl, hZ, hh⟩ := hP
  have hx := Bd.exec
  have hby := Bd.bytes
  have hml : c.maxLocals = 16 := hml0
  have hown : s.vm.findClass "com/example/norn/norn/core/ResultPlusPinLaw" = some m.cls := findClass_of_methodNamed Bd.named
  have hnm := (name_of_methodNamed Bd.named Bd.method).1
  have X0 : Stand p l e room_1 s m #[(.long q0), (.int p0), (.long q1), (.int p1)] below meth c s₁ [] 0 0 := Stand.of_body Bd
  have e0 : s₁.heap = h0 := by rw [← hh, Bd.state]; rfl
  have N0 := Fr.nil n0
  have K0 := Keep.refl h0 []
  show Go p e below (own_F s below (Q_own_law0 Z q0 p0 q1 p1 h0 n0) 16 128) (s₁.setTop (entryFrame m #[(.long q0), (.int p0), (.long q1), (.int p1)] maxLocals))
  rw [own_ef_own_law0 m q0 p0 q1 p1]
  obtain ⟨T1, h1, X1, e1, E1, A1, D1, -, st1⟩ := newO X0 hx hZ hown (hw _ (List.mem_of_getElem? (i := 0) rfl)) (hw _ (List.mem_of_getElem? (i := 1) rfl)) (hw _ (List.mem_of_getElem? (i := 2) rfl)) e0 (g := (mkF m 0 #[.val (.long q0), .second, .val (.int p0), .val (.long q1), .second, .val (.int p1), .unset, .unset, .unset, .unset, .unset, .unset, .unset, .unset, .unset, .unset] [])) rfl (hb hby at_0) (by decide) (by decide)
  obtain ⟨b1, g1⟩ : ∃ z, z = h0.size := ⟨_, rfl⟩
  rw [← g1] at A1 D1 st1
  have gb1 : n0 ≤ b1 := Nat.le_trans Z0 (Nat.le_of_eq g1.symm)
  have sz1 : h0.size ≤ b1 := Nat.le_trans K0.1 (Nat.le_of_eq g1.symm)
  have Z1 : n0 ≤ h1.size := Nat.le_trans Z0 E1.1
  have K1 := K0.ext E1
  refine Go.back (t' := (T1.setTop (mkF m 3 #[.val (.long q0), .second, .val (.int p0), .val (.long q1), .second, .val (.int p1), .unset, .unset, .unset, .unset, .unset, .unset, .unset, .unset, .unset, .unset] [(.ref b1)]))) st1 ?_
  refine Go.back (t' := (T1.setTop (mkF m 4 #[.val (.long q0), .second, .val (.int p0), .val (.long q1), .second, .val (.int p1), .unset, .unset, .unset, .unset, .unset, .unset, .unset, .unset, .unset, .unset] [(.ref b1), (.ref b1)]))) (fun u k => XS.dup X1.here hx rfl (hb hby at_3) rfl rfl k) ?_
  refine Go.back (t' := (T1.setTop (mkF m 5 #[.val (.long q0), .second, .val (.int p0), .val (.long q1), .second, .val (.int p1), .unset, .unset, .unset, .unset, .unset, .unset, .unset, .unset, .unset, .unset] [(.long q0), (.ref b1), (.ref b1)]))) (fun u k => XT.lloadN X1.here hx rfl (hb hby at_4) rfl k) ?_
  refine Go.back (t' := (T1.setTop (mkF m 6 #[.val (.long q0), .second, .val (.int p0), .val (.long q1), .second, .val (.int p1), .unset, .unset, .unset, .unset, .unset, .unset, .unset, .unset, .unset, .unset] [(.int p0), (.long q0), (.ref b1), (.ref b1)]))) (fun u k => XS.iloadN X1.here hx rfl (hb hby at_5) rfl k) ?_
  obtain ⟨_, _, ⟨T2, L2, k2, n2⟩, -, X2, ⟨Lc2, hQ2, l2, y2, z2⟩, st2⟩ := X1.specialBack hx (y := (⟨"com/example/norn/norn/core/Purge$Result", "<init>", "(JI)V"⟩ : MethodName)) rfl hown (mvT hZ (hw _ (List.mem_of_getElem? (i := 3) rfl))) (mvT hZ (hw _ (List.mem_of_getElem? (i := 4) rfl))) (mvT hZ (hw _ (List.mem_of_getElem? (i := 5) rfl))) (by decide) (backOf (W := 1) (own_init l Z a0 hw [] b1 q0 p0 h1 n0 Z1 A1 (D1 (Or.inr (hw _ (List.mem_of_getElem? (i := 15) rfl))) (ty := .long) (by decide)) (D1 (Or.inr (hw _ (List.mem_of_getElem? (i := 17) rfl))) (ty := .int) (by decide)) gb1) hZ (hw _ (List.mem_of_getElem? (i := 5) rfl)) (hw _ (List.mem_of_getElem? (i := 2) rfl)) (by decide) (by decide)) (g := (mkF m 6 #[.val (.long q0), .second, .val (.int p0), .val (.long q1), .second, .val (.int p1), .unset, .unset, .unset, .unset, .unset, .unset, .unset, .unset, .unset, .unset] [(.int p0), (.long q0), (.ref b1), (.ref b1)])) rfl (by rw [hml]; rfl) (Steps.refl _) (a := b1) (argsL := [(.long q0), (.int p0)]) (rest := [(.ref b1)]) (lenOf own_pd3 rfl) rfl (by show 2 * 0 + _ ≤ _; exact Nat.le_of_eq rfl) (hb hby at_6) (fun _ _ => ⟨rfl, e1, (by decide : 1 + 0 ≤ _), (by decide : 2 + 0 ≤ _)⟩)
  dsimp only [Pt.U, Pt.locs, Pt.cells, Pt.slots] at X2 l2 y2 z2 st2 hQ2
  subst l2 y2 z2
  obtain ⟨rfl, N2, Kc2, P2_0, P2_1, P2_2⟩ := hQ2
  have NA2 := Fr.app N0 N2
  have Z2 : n0 ≤ T2.heap.size := Nat.le_trans Z1 Kc2.1
  have K2 := K1.trans Kc2 (allS (Or.inr sz1) all0)
  refine Go.back (t' := (T2.setTop (mkF m 9 #[.val (.long q0), .second, .val (.int p0), .val (.long q1), .second, .val (.int p1), .unset, .unset, .unset, .unset, .unset, .unset, .unset, .unset, .unset, .unset] [(.ref b1)]))) (fun u k => st2.trans k) ?_
  refine Go.back (t' := (T2.setTop (mkF m 11 #[.val (.long q0), .second, .val (.int p0), .val (.long q1), .second, .val (.int p1), .val (.ref b1), .unset, .unset, .unset, .unset, .unset, .unset, .unset, .unset, .unset] []))) (fun u k => XS.astore X2.here hx rfl (hb hby at_9) rfl rfl (l' := #[.val (.long q0), .second, .val (.int p0), .val (.long q1), .second, .val (.int p1), .val (.ref b1), .unset, .unset, .unset, .unset, .unset, .unset, .unset, .unset, .unset]) rfl k) ?_
  obtain ⟨T3, h3, X3, e3, E3, A3, D3, -, st3⟩ := newO X2 hx hZ hown (hw _ (List.mem_of_getElem? (i := 0) rfl)) (hw _ (List.mem_of_getElem? (i := 1) rfl)) (hw _ (List.mem_of_getElem? (i := 2) rfl)) rfl (g := (mkF m 11 #[.val (.long q0), .second, .val (.int p0), .val (.long q1), .second, .val (.int p1), .val (.ref b1), .unset, .unset, .unset, .unset, .unset, .unset, .unset, .unset, .unset] [])) rfl (hb hby at_11) (by decide) (by decide)
  obtain ⟨b3, g3⟩ : ∃ z, z = T2.heap.size := ⟨_, rfl⟩
  rw [← g3] at A3 D3 st3
  have ne_b1_b3 : b1 ≠ b3 := Nat.ne_of_lt (Nat.lt_of_lt_of_le P2_0.lt (Nat.le_of_eq g3.symm))
  have gb3 : n0 ≤ b3 := Nat.le_trans Z2 (Nat.le_of_eq g3.symm)
  have sz3 : h0.size ≤ b3 := Nat.le_trans K2.1 (Nat.le_of_eq g3.symm)
  have Z3 : n0 ≤ h3.size := Nat.le_trans Z2 E3.1
  have K3 := K2.ext E3
  refine Go.back (t' := (T3.setTop (mkF m 14 #[.val (.long q0), .second, .val (.int p0), .val (.long q1), .second, .val (.int p1), .val (.ref b1), .unset, .unset, .unset, .unset, .unset, .unset, .unset, .unset, .unset] [(.ref b3)]))) st3 ?_
  refine Go.back (t' := (T3.setTop (mkF m 15 #[.val (.long q0), .second, .val (.int p0), .val (.long q1), .second, .val (.int p1), .val (.ref b1), .unset, .unset, .unset, .unset, .unset, .unset, .unset, .unset, .unset] [(.ref b3), (.ref b3)]))) (fun u k => XS.dup X3.here hx rfl (hb hby at_14) rfl rfl k) ?_
  refine Go.back (t' := (T3.setTop (mkF m 16 #[.val (.long q0), .second, .val (.int p0), .val (.long q1), .second, .val (.int p1), .val (.ref b1), .unset, .unset, .unset, .unset, .unset, .unset, .unset, .unset, .unset] [(.long q1), (.ref b3), (.ref b3)]))) (fun u k => XT.lloadN X3.here hx rfl (hb hby at_15) rfl k) ?_
  refine Go.back (t' := (T3.setTop (mkF m 18 #[.val (.long q0), .second, .val (.int p0), .val (.long q1), .second, .val (.int p1), .val (.ref b1), .unset, .unset, .unset, .unset, .unset, .unset, .unset, .unset, .unset] [(.int p1), (.long q1), (.ref b3), (.ref b3)]))) (fun u k => XS.iload X3.here hx rfl (hb hby at_16) rfl k) ?_
  obtain ⟨_, _, ⟨T4, L4, k4, n4⟩, -, X4, ⟨Lc4, hQ4, l4, y4, z4⟩, st4⟩ := X3.specialBack hx (y := (⟨"com/example/norn/norn/core/Purge$Result", "<init>", "(JI)V"⟩ : MethodName)) rfl hown (mvT hZ (hw _ (List.mem_of_getElem? (i := 3) rfl))) (mvT hZ (hw _ (List.mem_of_getElem? (i := 4) rfl))) (mvT hZ (hw _ (List.mem_of_getElem? (i := 5) rfl))) (by decide) (backOf (W := 1) (own_init l Z a0 hw [] b3 q1 p1 h3 n0 Z3 A3 (D3 (Or.inr (hw _ (List.mem_of_getElem? (i := 15) rfl))) (ty := .long) (by decide)) (D3 (Or.inr (hw _ (List.mem_of_getElem? (i := 17) rfl))) (ty := .int) (by decide)) gb3) hZ (hw _ (List.mem_of_getElem? (i := 5) rfl)) (hw _ (List.mem_of_getElem? (i := 2) rfl)) (by decide) (by decide)) (g := (mkF m 18 #[.val (.long q0), .second, .val (.int p0), .val (.long q1), .second, .val (.int p1), .val (.ref b1), .unset, .unset, .unset, .unset, .unset, .unset, .unset, .unset, .unset] [(.int p1), (.long q1), (.ref b3), (.ref b3)])) rfl (by rw [hml]; rfl) (Steps.refl _) (a := b3) (argsL := [(.long q1), (.int p1)]) (rest := [(.ref b3)]) (lenOf own_pd3 rfl) rfl (by show 2 * 0 + _ ≤ _; exact Nat.le_of_eq rfl) (hb hby at_18) (fun _ _ => ⟨rfl, e3, (by decide : 2 + 0 ≤ _), (by decide : 4 + 0 ≤ _)⟩)
  dsimp only [Pt.U, Pt.locs, Pt.cells, Pt.slots] at X4 l4 y4 z4 st4 hQ4
  subst l4 y4 z4
  obtain ⟨rfl, N4, Kc4, P4_0, P4_1, P4_2⟩ := hQ4
  have NA4 := Fr.app NA2 N4
  have Z4 : n0 ≤ T4.heap.size := Nat.le_trans Z3 Kc4.1
  have K4 := K3.trans Kc4 (allS (Or.inr sz3) all0)
  refine Go.back (t' := (T4.setTop (mkF m 21 #[.val (.long q0), .second, .val (.int p0), .val (.long q1), .second, .val (.int p1), .val (.ref b1), .unset, .unset, .unset, .unset, .unset, .unset, .unset, .unset, .unset] [(.ref b3)]))) (fun u k => st4.trans k) ?_
  refine Go.back (t' := (T4.setTop (mkF m 23 #[.val (.long q0), .second, .val (.int p0), .val (.long q1), .second, .val (.int p1), .val (.ref b1), .val (.ref b3), .unset, .unset, .unset, .unset, .unset, .unset, .unset, .unset] []))) (fun u k => XS.astore X4.here hx rfl (hb hby at_21) rfl rfl (l' := #[.val (.long q0), .second, .val (.int p0), .val (.long q1), .second, .val (.int p1), .val (.ref b1), .val (.ref b3), .unset, .unset, .unset, .unset, .unset, .unset, .unset, .unset]) rfl k) ?_
  refine Go.back (t' := (T4.setTop (mkF m 25 #[.val (.long q0), .second, .val (.int p0), .val (.long q1), .second, .val (.int p1), .val (.ref b1), .val (.ref b3), .unset, .unset, .unset, .unset, .unset, .unset, .unset, .unset] [(.ref b1)]))) (fun u k => XS.aload X4.here hx rfl (hb hby at_23) rfl rfl k) ?_
  refine Go.back (t' := (T4.setTop (mkF m 27 #[.val (.long q0), .second, .val (.int p0), .val (.long q1), .second, .val (.int p1), .val (.ref b1), .val (.ref b3), .unset, .unset, .unset, .unset, .unset, .unset, .unset, .unset] [(.ref b3), (.ref b1)]))) (fun u k => XS.aload X4.here hx rfl (hb hby at_25) rfl rfl k) ?_
  have f5 := ((P2_1.ext E3).keep Kc4 (ninS ne_b1_b3 nin0))
  have f6 := ((P2_2.ext E3).keep Kc4 (ninS ne_b1_b3 nin0))
  have f9 := ((P2_0.ext E3).keep Kc4)
  obtain ⟨cq8, kq8, qa8, qb8, qc8⟩ := isOf hZ rfl f9
  obtain ⟨_, _, ⟨T7, L7, k7, n7⟩, -, X7, ⟨Lc7, hQ7, l7, y7, z7⟩, st7⟩ := X4.virtualBack hx (y := (⟨"com/example/norn/norn/core/Purge$Result", "plus", "(Lcom/example/norn/norn/core/Purge$Result;)Lcom/example/norn/norn/core/Purge$Result;"⟩ : MethodName)) (z := (⟨"com/example/norn/norn/core/Purge$Result", "plus", "(Lcom/example/norn/norn/core/Purge$Result;)Lcom/example/norn/norn/core/Purge$Result;"⟩ : MethodName)) hown (mvT hZ (hw _ (List.mem_of_getElem? (i := 18) rfl))) (mvT hZ (hw _ (List.mem_of_getElem? (i := 19) rfl))) (notFace_of_selects (args := #[]) (mvT hZ (hw _ (List.mem_of_getElem? (i := 21) rfl)))) (mvT hZ (hw _ (List.mem_of_getElem? (i := 21) rfl))) (mvT hZ (hw _ (List.mem_of_getElem? (i := 20) rfl))) (by decide) (backOf (W := 0) (own_plus l Z a0 hw [] b1 b3 q0 p0 q1 p1 T4.heap n0 Z4 P4_0 f5 f6 P4_1 P4_2) hZ (hw _ (List.mem_of_getElem? (i := 22) rfl)) (hw _ (List.mem_of_getElem? (i := 2) rfl)) (by decide) (by decide)) qa8 qc8 (g := (mkF m 27 #[.val (.long q0), .second, .val (.int p0), .val (.long q1), .second, .val (.int p1), .val (.ref b1), .val (.ref b3), .unset, .unset, .unset, .unset, .unset, .unset, .unset, .unset] [(.ref b3), (.ref b1)])) rfl (by rw [hml]; rfl) (Steps.refl _) (argsL := [(.ref b3)]) (rest := []) (lenOf own_pd4 rfl) rfl (by show 2 * 0 + _ ≤ _; exact Nat.le_of_eq rfl) (hb hby at_27) (fun _ _ => ⟨rfl, rfl, (by decide : 2 + 1 ≤ _), (by decide : 4 + 2 ≤ _)⟩)
  dsimp only [Pt.U, Pt.locs, Pt.cells, Pt.slots] at X7 l7 y7 z7 st7 hQ7
  subst l7 y7 z7
  obtain ⟨r7, rfl, N7, Kc7, gb_r7, szc_r7, P7_0, P7_1, P7_2⟩ := hQ7
  have NA7 := Fr.app NA4 N7
  have Z7 : n0 ≤ T7.heap.size := Nat.le_trans Z4 Kc7.1
  have K7 := K4.trans Kc7 all0
  have sz_r7 : h0.size ≤ r7 := Nat.le_trans K4.1 szc_r7
  have ne_b1_r7 : b1 ≠ r7 := Nat.ne_of_lt (Nat.lt_of_lt_of_le f9.lt szc_r7)
  have ne_b3_r7 : b3 ≠ r7 := Nat.ne_of_lt (Nat.lt_of_lt_of_le P4_0.lt szc_r7)
  refine Go.back (t' := (T7.setTop (mkF m 30 #[.val (.long q0), .second, .val (.int p0), .val (.long q1), .second, .val (.int p1), .val (.ref b1), .val (.ref b3), .unset, .unset, .unset, .unset, .unset, .unset, .unset, .unset] [(.ref r7)]))) (fun u k => st7.trans k) ?_
  refine Go.back (t' := (T7.setTop (mkF m 32 #[.val (.long q0), .second, .val (.int p0), .val (.long q1), .second, .val (.int p1), .val (.ref b1), .val (.ref b3), .val (.ref r7), .unset, .unset, .unset, .unset, .unset, .unset, .unset] []))) (fun u k => XS.astore X7.here hx rfl (hb hby at_30) rfl rfl (l' := #[.val (.long q0), .second, .val (.int p0), .val (.long q1), .second, .val (.int p1), .val (.ref b1), .val (.ref b3), .val (.ref r7), .unset, .unset, .unset, .unset, .unset, .unset, .unset]) rfl k) ?_
  refine Go.back (t' := (T7.setTop (mkF m 34 #[.val (.long q0), .second, .val (.int p0), .val (.long q1), .second, .val (.int p1), .val (.ref b1), .val (.ref b3), .val (.ref r7), .unset, .unset, .unset, .unset, .unset, .unset, .unset] [(.ref b3)]))) (fun u k => XS.aload X7.here hx rfl (hb hby at_32) rfl rfl k) ?_
  refine Go.back (t' := (T7.setTop (mkF m 36 #[.val (.long q0), .second, .val (.int p0), .val (.long q1), .second, .val (.int p1), .val (.ref b1), .val (.ref b3), .val (.ref r7), .unset, .unset, .unset, .unset, .unset, .unset, .unset] [(.ref b1), (.ref b3)]))) (fun u k => XS.aload X7.here hx rfl (hb hby at_34) rfl rfl k) ?_
  have f10 := (f9.keep Kc7)
  have f11 := (P4_1.keep Kc7 nin0)
  have f12 := (P4_2.keep Kc7 nin0)
  have f13 := (f5.keep Kc7 nin0)
  have f14 := (f6.keep Kc7 nin0)
  have f17 := (P4_0.keep Kc7)
  obtain ⟨cq16, kq16, qa16, qb16, qc16⟩ := isOf hZ rfl f17
  obtain ⟨_, _, ⟨T15, L15, k15, n15⟩, -, X15, ⟨Lc15, hQ15, l15, y15, z15⟩, st15⟩ := X7.virtualBack hx (y := (⟨"com/example/norn/norn/core/Purge$Result", "plus", "(Lcom/example/norn/norn/core/Purge$Result;)Lcom/example/norn/norn/core/Purge$Result;"⟩ : MethodName)) (z := (⟨"com/example/norn/norn/core/Purge$Result", "plus", "(Lcom/example/norn/norn/core/Purge$Result;)Lcom/example/norn/norn/core/Purge$Result;"⟩ : MethodName)) hown (mvT hZ (hw _ (List.mem_of_getElem? (i := 18) rfl))) (mvT hZ (hw _ (List.mem_of_getElem? (i := 19) rfl))) (notFace_of_selects (args := #[]) (mvT hZ (hw _ (List.mem_of_getElem? (i := 21) rfl)))) (mvT hZ (hw _ (List.mem_of_getElem? (i := 21) rfl))) (mvT hZ (hw _ (List.mem_of_getElem? (i := 20) rfl))) (by decide) (backOf (W := 0) (own_plus l Z a0 hw [] b3 b1 q1 p1 q0 p0 T7.heap n0 Z7 f10 f11 f12 f13 f14) hZ (hw _ (List.mem_of_getElem? (i := 22) rfl)) (hw _ (List.mem_of_getElem? (i := 2) rfl)) (by decide) (by decide)) qa16 qc16 (g := (mkF m 36 #[.val (.long q0), .second, .val (.int p0), .val (.long q1), .second, .val (.int p1), .val (.ref b1), .val (.ref b3), .val (.ref r7), .unset, .unset, .unset, .unset, .unset, .unset, .unset] [(.ref b1), (.ref b3)])) rfl (by rw [hml]; rfl) (Steps.refl _) (argsL := [(.ref b1)]) (rest := []) (lenOf own_pd4 rfl) rfl (by show 2 * 0 + _ ≤ _; exact Nat.le_of_eq rfl) (hb hby at_36) (fun _ _ => ⟨rfl, rfl, (by decide : 3 + 1 ≤ _), (by decide : 6 + 2 ≤ _)⟩)
  dsimp only [Pt.U, Pt.locs, Pt.cells, Pt.slots] at X15 l15 y15 z15 st15 hQ15
  subst l15 y15 z15
  obtain ⟨r15, rfl, N15, Kc15, gb_r15, szc_r15, P15_0, P15_1, P15_2⟩ := hQ15
  have NA15 := Fr.app NA7 N15
  have Z15 : n0 ≤ T15.heap.size := Nat.le_trans Z7 Kc15.1
  have K15 := K7.trans Kc15 all0
  have sz_r15 : h0.size ≤ r15 := Nat.le_trans K7.1 szc_r15
  have ne_b1_r15 : b1 ≠ r15 := Nat.ne_of_lt (Nat.lt_of_lt_of_le f10.lt szc_r15)
  have ne_b3_r15 : b3 ≠ r15 := Nat.ne_of_lt (Nat.lt_of_lt_of_le f17.lt szc_r15)
  have ne_r7_r15 : r7 ≠ r15 := Nat.ne_of_lt (Nat.lt_of_lt_of_le P7_0.lt szc_r15)
  refine Go.back (t' := (T15.setTop (mkF m 39 #[.val (.long q0), .second, .val (.int p0), .val (.long q1), .second, .val (.int p1), .val (.ref b1), .val (.ref b3), .val (.ref r7), .unset, .unset, .unset, .unset, .unset, .unset, .unset] [(.ref r15)]))) (fun u k => st15.trans k) ?_
  refine Go.back (t' := (T15.setTop (mkF m 41 #[.val (.long q0), .second, .val (.int p0), .val (.long q1), .second, .val (.int p1), .val (.ref b1), .val (.ref b3), .val (.ref r7), .val (.ref r15), .unset, .unset, .unset, .unset, .unset, .unset] []))) (fun u k => XS.astore X15.here hx rfl (hb hby at_39) rfl rfl (l' := #[.val (.long q0), .second, .val (.int p0), .val (.long q1), .second, .val (.int p1), .val (.ref b1), .val (.ref b3), .val (.ref r7), .val (.ref r15), .unset, .unset, .unset, .unset, .unset, .unset]) rfl k) ?_
  refine Go.back (t' := (T15.setTop (mkF m 42 #[.val (.long q0), .second, .val (.int p0), .val (.long q1), .second, .val (.int p1), .val (.ref b1), .val (.ref b3), .val (.ref r7), .val (.ref r15), .unset, .unset, .unset, .unset, .unset, .unset] [(.long q0)]))) (fun u k => XT.lloadN X15.here hx rfl (hb hby at_41) rfl k) ?_
  refine Go.back (t' := (T15.setTop (mkF m 43 #[.val (.long q0), .second, .val (.int p0), .val (.long q1), .second, .val (.int p1), .val (.ref b1), .val (.ref b3), .val (.ref r7), .val (.ref r15), .unset, .unset, .unset, .unset, .unset, .unset] [(.long q1), (.long q0)]))) (fun u k => XT.lloadN X15.here hx rfl (hb hby at_42) rfl k) ?_
  refine Go.back (t' := (T15.setTop (mkF m 44 #[.val (.long q0), .second, .val (.int p0), .val (.long q1), .second, .val (.int p1), .val (.ref b1), .val (.ref b3), .val (.ref r7), .val (.ref r15), .unset, .unset, .unset, .unset, .unset, .unset] [(.long (q0 + q1))]))) (fun u k => XT.ladd X15.here hx rfl (hb hby at_43) rfl k) ?_
  refine Go.back (t' := (T15.setTop (mkF m 46 #[.val (.long q0), .second, .val (.int p0), .val (.long q1), .second, .val (.int p1), .val (.ref b1), .val (.ref b3), .val (.ref r7), .val (.ref r15), .val (.long (q0 + q1)), .second, .unset, .unset, .unset, .unset] []))) (fun u k => XT.lstore X15.here hx rfl (hb hby at_44) rfl (l' := #[.val (.long q0), .second, .val (.int p0), .val (.long q1), .second, .val (.int p1), .val (.ref b1), .val (.ref b3), .val (.ref r7), .val (.ref r15), .val (.long (q0 + q1)), .second, .unset, .unset, .unset, .unset]) rfl k) ?_
  refine Go.back (t' := (T15.setTop (mkF m 47 #[.val (.long q0), .second, .val (.int p0), .val (.long q1), .second, .val (.int p1), .val (.ref b1), .val (.ref b3), .val (.ref r7), .val (.ref r15), .val (.long (q0 + q1)), .second, .unset, .unset, .unset, .unset] [(.int p0)]))) (fun u k => XS.iloadN X15.here hx rfl (hb hby at_46) rfl k) ?_
  refine Go.back (t' := (T15.setTop (mkF m 49 #[.val (.long q0), .second, .val (.int p0), .val (.long q1), .second, .val (.int p1), .val (.ref b1), .val (.ref b3), .val (.ref r7), .val (.ref r15), .val (.long (q0 + q1)), .second, .unset, .unset, .unset, .unset] [(.int p1), (.int p0)]))) (fun u k => XS.iload X15.here hx rfl (hb hby at_47) rfl k) ?_
  refine Go.back (t' := (T15.setTop (mkF m 50 #[.val (.long q0), .second, .val (.int p0), .val (.long q1), .second, .val (.int p1), .val (.ref b1), .val (.ref b3), .val (.ref r7), .val (.ref r15), .val (.long (q0 + q1)), .second, .unset, .unset, .unset, .unset] [(.int (p0 + p1))]))) (fun u k => XS.iadd X15.here hx rfl (hb hby at_49) rfl k) ?_
  refine Go.back (t' := (T15.setTop (mkF m 52 #[.val (.long q0), .second, .val (.int p0), .val (.long q1), .second, .val (.int p1), .val (.ref b1), .val (.ref b3), .val (.ref r7), .val (.ref r15), .val (.long (q0 + q1)), .second, .val (.int (p0 + p1)), .unset, .unset, .unset] []))) (fun u k => XS.istore X15.here hx rfl (hb hby at_50) rfl (l' := #[.val (.long q0), .second, .val (.int p0), .val (.long q1), .second, .val (.int p1), .val (.ref b1), .val (.ref b3), .val (.ref r7), .val (.ref r15), .val (.long (q0 + q1)), .second, .val (.int (p0 + p1)), .unset, .unset, .unset]) rfl k) ?_
  refine Go.back (t' := (T15.setTop (mkF m 54 #[.val (.long q0), .second, .val (.int p0), .val (.long q1), .second, .val (.int p1), .val (.ref b1), .val (.ref b3), .val (.ref r7), .val (.ref r15), .val (.long (q0 + q1)), .second, .val (.int (p0 + p1)), .unset, .unset, .unset] [(.ref r7)]))) (fun u k => XS.aload X15.here hx rfl (hb hby at_52) rfl rfl k) ?_
  have f18 := (P7_1.keep Kc15 nin0)
  have f21 := (P7_0.keep Kc15)
  obtain ⟨cq20, kq20, qa20, qb20, qc20⟩ := isOf hZ rfl f21
  obtain ⟨_, _, ⟨T19, L19, k19, n19⟩, -, X19, ⟨Lc19, hQ19, l19, y19, z19⟩, st19⟩ := X15.virtualBack hx (y := (⟨"com/example/norn/norn/core/Purge$Result", "removed", "()J"⟩ : MethodName)) (z := (⟨"com/example/norn/norn/core/Purge$Result", "removed", "()J"⟩ : MethodName)) hown (mvT hZ (hw _ (List.mem_of_getElem? (i := 35) rfl))) (mvT hZ (hw _ (List.mem_of_getElem? (i := 25) rfl))) (notFace_of_selects (args := #[]) (mvT hZ (hw _ (List.mem_of_getElem? (i := 27) rfl)))) (mvT hZ (hw _ (List.mem_of_getElem? (i := 27) rfl))) (mvT hZ (hw _ (List.mem_of_getElem? (i := 26) rfl))) (by decide) (backOf (W := 0) (own_removed l Z a0 hw [] r7 (q0 + q1) T15.heap n0 Z15 f18) hZ (hw _ (List.mem_of_getElem? (i := 28) rfl)) (hw _ (List.mem_of_getElem? (i := 2) rfl)) (by decide) (by decide)) qa20 qc20 (g := (mkF m 54 #[.val (.long q0), .second, .val (.int p0), .val (.long q1), .second, .val (.int p1), .val (.ref b1), .val (.ref b3), .val (.ref r7), .val (.ref r15), .val (.long (q0 + q1)), .second, .val (.int (p0 + p1)), .unset, .unset, .unset] [(.ref r7)])) rfl (by rw [hml]; rfl) (Steps.refl _) (argsL := []) (rest := []) (lenOf own_pd1 rfl) rfl (by show 2 * 0 + _ ≤ _; exact Nat.le_of_eq rfl) (hb hby at_54) (fun _ _ => ⟨rfl, rfl, (by decide : 4 + 0 ≤ _), (by decide : 8 + 0 ≤ _)⟩)
  dsimp only [Pt.U, Pt.locs, Pt.cells, Pt.slots] at X19 l19 y19 z19 st19 hQ19
  subst l19 y19 z19
  obtain ⟨rfl, N19, e19⟩ := hQ19
  have NA19 := Fr.app NA15 N19
  refine Go.back (t' := (T19.setTop (mkF m 57 #[.val (.long q0), .second, .val (.int p0), .val (.long q1), .second, .val (.int p1), .val (.ref b1), .val (.ref b3), .val (.ref r7), .val (.ref r15), .val (.long (q0 + q1)), .second, .val (.int (p0 + p1)), .unset, .unset, .unset] [(.long (q0 + q1))]))) (fun u k => st19.trans k) ?_
  refine Go.back (t' := (T19.setTop (mkF m 59 #[.val (.long q0), .second, .val (.int p0), .val (.long q1), .second, .val (.int p1), .val (.ref b1), .val (.ref b3), .val (.ref r7), .val (.ref r15), .val (.long (q0 + q1)), .second, .val (.int (p0 + p1)), .unset, .unset, .unset] [(.long (q0 + q1)), (.long (q0 + q1))]))) (fun u k => XT.lload X19.here hx rfl (hb hby at_57) rfl k) ?_
  refine Go.back (t' := (T19.setTop (mkF m 60 #[.val (.long q0), .second, .val (.int p0), .val (.long q1), .second, .val (.int p1), .val (.ref b1), .val (.ref b3), .val (.ref r7), .val (.ref r15), .val (.long (q0 + q1)), .second, .val (.int (p0 + p1)), .unset, .unset, .unset] [(.int (XT.cmpL (q0 + q1) (q0 + q1)))]))) (fun u k => XT.lcmp X19.here hx rfl (hb hby at_59) rfl k) ?_
  refine Go.back (t' := (T19.setTop (mkF m 63 #[.val (.long q0), .second, .val (.int p0), .val (.long q1), .second, .val (.int p1), .val (.ref b1), .val (.ref b3), .val (.ref r7), .val (.ref r15), .val (.long (q0 + q1)), .second, .val (.int (p0 + p1)), .unset, .unset, .unset] []))) (fun u k => XS.ifNo X19.here hx rfl (hb hby at_60) rfl (XT.ll_ne_f rfl) k) ?_
  refine Go.back (t' := (T19.setTop (mkF m 65 #[.val (.long q0), .second, .val (.int p0), .val (.long q1), .second, .val (.int p1), .val (.ref b1), .val (.ref b3), .val (.ref r7), .val (.ref r15), .val (.long (q0 + q1)), .second, .val (.int (p0 + p1)), .unset, .unset, .unset] [(.ref r7)]))) (fun u k => XS.aload X19.here hx rfl (hb hby at_63) rfl rfl k) ?_
  have f22 := (P7_2.keep Kc15 nin0)
  obtain ⟨cq24, kq24, qa24, qb24, qc24⟩ := isOf hZ e19 f21
  obtain ⟨_, _, ⟨T23, L23, k23, n23⟩, -, X23, ⟨Lc23, hQ23, l23, y23, z23⟩, st23⟩ := X19.virtualBack hx (y := (⟨"com/example/norn/norn/core/Purge$Result", "batches", "()I"⟩ : MethodName)) (z := (⟨"com/example/norn/norn/core/Purge$Result", "batches", "()I"⟩ : MethodName)) hown (mvT hZ (hw _ (List.mem_of_getElem? (i := 36) rfl))) (mvT hZ (hw _ (List.mem_of_getElem? (i := 30) rfl))) (notFace_of_selects (args := #[]) (mvT hZ (hw _ (List.mem_of_getElem? (i := 32) rfl)))) (mvT hZ (hw _ (List.mem_of_getElem? (i := 32) rfl))) (mvT hZ (hw _ (List.mem_of_getElem? (i := 31) rfl))) (by decide) (backOf (W := 0) (own_batches l Z a0 hw [] r7 (p0 + p1) T15.heap n0 Z15 f22) hZ (hw _ (List.mem_of_getElem? (i := 33) rfl)) (hw _ (List.mem_of_getElem? (i := 2) rfl)) (by decide) (by decide)) qa24 qc24 (g := (mkF m 65 #[.val (.long q0), .second, .val (.int p0), .val (.long q1), .second, .val (.int p1), .val (.ref b1), .val (.ref b3), .val (.ref r7), .val (.ref r15), .val (.long (q0 + q1)), .second, .val (.int (p0 + p1)), .unset, .unset, .unset] [(.ref r7)])) rfl (by rw [hml]; rfl) (Steps.refl _) (argsL := []) (rest := []) (lenOf own_pd2 rfl) rfl (by show 2 * 0 + _ ≤ _; exact Nat.le_of_eq rfl) (hb hby at_65) (fun _ _ => ⟨rfl, e19, (by decide : 4 + 0 ≤ _), (by decide : 8 + 0 ≤ _)⟩)
  dsimp only [Pt.U, Pt.locs, Pt.cells, Pt.slots] at X23 l23 y23 z23 st23 hQ23
  subst l23 y23 z23
  obtain ⟨rfl, N23, e23⟩ := hQ23
  have NA23 := Fr.app NA19 N23
  refine Go.back (t' := (T23.setTop (mkF m 68 #[.val (.long q0), .second, .val (.int p0), .val (.long q1), .second, .val (.int p1), .val (.ref b1), .val (.ref b3), .val (.ref r7), .val (.ref r15), .val (.long (q0 + q1)), .second, .val (.int (p0 + p1)), .unset, .unset, .unset] [(.int (p0 + p1))]))) (fun u k => st23.trans k) ?_
  refine Go.back (t' := (T23.setTop (mkF m 70 #[.val (.long q0), .second, .val (.int p0), .val (.long q1), .second, .val (.int p1), .val (.ref b1), .val (.ref b3), .val (.ref r7), .val (.ref r15), .val (.long (q0 + q1)), .second, .val (.int (p0 + p1)), .unset, .unset, .unset] [(.int (p0 + p1)), (.int (p0 + p1))]))) (fun u k => XS.iload X23.here hx rfl (hb hby at_68) rfl k) ?_
  refine Go.back (t' := (T23.setTop (mkF m 73 #[.val (.long q0), .second, .val (.int p0), .val (.long q1), .second, .val (.int p1), .val (.ref b1), .val (.ref b3), .val (.ref r7), .val (.ref r15), .val (.long (q0 + q1)), .second, .val (.int (p0 + p1)), .unset, .unset, .unset] []))) (fun u k => XS.icmpNo X23.here hx rfl (hb hby at_70) rfl (XT.ii_ne_f rfl) k) ?_
  refine Go.back (t' := (T23.setTop (mkF m 74 #[.val (.long q0), .second, .val (.int p0), .val (.long q1), .second, .val (.int p1), .val (.ref b1), .val (.ref b3), .val (.ref r7), .val (.ref r15), .val (.long (q0 + q1)), .second, .val (.int (p0 + p1)), .unset, .unset, .unset] [(.int (1 : Int32))]))) (fun u k => XT.iconstV X23.here hx rfl (1 : Int32) (hb hby at_73) (by decide) k) ?_
  refine Go.back (t' := (T23.setTop (mkF m 78 #[.val (.long q0), .second, .val (.int p0), .val (.long q1), .second, .val (.int p1), .val (.ref b1), .val (.ref b3), .val (.ref r7), .val (.ref r15), .val (.long (q0 + q1)), .second, .val (.int (p0 + p1)), .unset, .unset, .unset] [(.int (1 : Int32))]))) (fun u k => XS.goto X23.here hx rfl (pc0 := 74) (pc' := 78) rfl (hb hby at_74) (by decide) (by decide) k) ?_
  refine Go.back (t' := (T23.setTop (mkF m 80 #[.val (.long q0), .second, .val (.int p0), .val (.long q1), .second, .val (.int p1), .val (.ref b1), .val (.ref b3), .val (.ref r7), .val (.ref r15), .val (.long (q0 + q1)), .second, .val (.int (p0 + p1)), .val (.int (1 : Int32)), .unset, .unset] []))) (fun u k => XS.istore X23.here hx rfl (hb hby at_78) rfl (l' := #[.val (.long q0), .second, .val (.int p0), .val (.long q1), .second, .val (.int p1), .val (.ref b1), .val (.ref b3), .val (.ref r7), .val (.ref r15), .val (.long (q0 + q1)), .second, .val (.int (p0 + p1)), .val (.int (1 : Int32)), .unset, .unset]) rfl k) ?_
  refine Go.back (t' := (T23.setTop (mkF m 82 #[.val (.long q0), .second, .val (.int p0), .val (.long q1), .second, .val (.int p1), .val (.ref b1), .val (.ref b3), .val (.ref r7), .val (.ref r15), .val (.long (q0 + q1)), .second, .val (.int (p0 + p1)), .val (.int (1 : Int32)), .unset, .unset] [(.ref r15)]))) (fun u k => XS.aload X23.here hx rfl (hb hby at_80) rfl rfl k) ?_
  obtain ⟨cq26, kq26, qa26, qb26, qc26⟩ := isOf hZ e23 P15_0
  obtain ⟨_, _, ⟨T25, L25, k25, n25⟩, -, X25, ⟨Lc25, hQ25, l25, y25, z25⟩, st25⟩ := X23.virtualBack hx (y := (⟨"com/example/norn/norn/core/Purge$Result", "removed", "()J"⟩ : MethodName)) (z := (⟨"com/example/norn/norn/core/Purge$Result", "removed", "()J"⟩ : MethodName)) hown (mvT hZ (hw _ (List.mem_of_getElem? (i := 35) rfl))) (mvT hZ (hw _ (List.mem_of_getElem? (i := 25) rfl))) (notFace_of_selects (args := #[]) (mvT hZ (hw _ (List.mem_of_getElem? (i := 27) rfl)))) (mvT hZ (hw _ (List.mem_of_getElem? (i := 27) rfl))) (mvT hZ (hw _ (List.mem_of_getElem? (i := 26) rfl))) (by decide) (backOf (W := 0) (own_removed l Z a0 hw [] r15 (q1 + q0) T15.heap n0 Z15 P15_1) hZ (hw _ (List.mem_of_getElem? (i := 28) rfl)) (hw _ (List.mem_of_getElem? (i := 2) rfl)) (by decide) (by decide)) qa26 qc26 (g := (mkF m 82 #[.val (.long q0), .second, .val (.int p0), .val (.long q1), .second, .val (.int p1), .val (.ref b1), .val (.ref b3), .val (.ref r7), .val (.ref r15), .val (.long (q0 + q1)), .second, .val (.int (p0 + p1)), .val (.int (1 : Int32)), .unset, .unset] [(.ref r15)])) rfl (by rw [hml]; rfl) (Steps.refl _) (argsL := []) (rest := []) (lenOf own_pd1 rfl) rfl (by show 2 * 0 + _ ≤ _; exact Nat.le_of_eq rfl) (hb hby at_82) (fun _ _ => ⟨rfl, e23, (by decide : 4 + 0 ≤ _), (by decide : 8 + 0 ≤ _)⟩)
  dsimp only [Pt.U, Pt.locs, Pt.cells, Pt.slots] at X25 l25 y25 z25 st25 hQ25
  subst l25 y25 z25
  obtain ⟨rfl, N25, e25⟩ := hQ25
  have NA25 := Fr.app NA23 N25
  refine Go.back (t' := (T25.setTop (mkF m 85 #[.val (.long q0), .second, .val (.int p0), .val (.long q1), .second, .val (.int p1), .val (.ref b1), .val (.ref b3), .val (.ref r7), .val (.ref r15), .val (.long (q0 + q1)), .second, .val (.int (p0 + p1)), .val (.int (1 : Int32)), .unset, .unset] [(.long (q1 + q0))]))) (fun u k => st25.trans k) ?_
  refine Go.back (t' := (T25.setTop (mkF m 87 #[.val (.long q0), .second, .val (.int p0), .val (.long q1), .second, .val (.int p1), .val (.ref b1), .val (.ref b3), .val (.ref r7), .val (.ref r15), .val (.long (q0 + q1)), .second, .val (.int (p0 + p1)), .val (.int (1 : Int32)), .unset, .unset] [(.long (q0 + q1)), (.long (q1 + q0))]))) (fun u k => XT.lload X25.here hx rfl (hb hby at_85) rfl k) ?_
  refine Go.back (t' := (T25.setTop (mkF m 88 #[.val (.long q0), .second, .val (.int p0), .val (.long q1), .second, .val (.int p1), .val (.ref b1), .val (.ref b3), .val (.ref r7), .val (.ref r15), .val (.long (q0 + q1)), .second, .val (.int (p0 + p1)), .val (.int (1 : Int32)), .unset, .unset] [(.int (XT.cmpL (q1 + q0) (q0 + q1)))]))) (fun u k => XT.lcmp X25.here hx rfl (hb hby at_87) rfl k) ?_
  refine Go.back (t' := (T25.setTop (mkF m 91 #[.val (.long q0), .second, .val (.int p0), .val (.long q1), .second, .val (.int p1), .val (.ref b1), .val (.ref b3), .val (.ref r7), .val (.ref r15), .val (.long (q0 + q1)), .second, .val (.int (p0 + p1)), .val (.int (1 : Int32)), .unset, .unset] []))) (fun u k => XS.ifNo X25.here hx rfl (hb hby at_88) rfl (XT.ll_ne_f (Int64.add_comm _ _)) k) ?_
  refine Go.back (t' := (T25.setTop (mkF m 93 #[.val (.long q0), .second, .val (.int p0), .val (.long q1), .second, .val (.int p1), .val (.ref b1), .val (.ref b3), .val (.ref r7), .val (.ref r15), .val (.long (q0 + q1)), .second, .val (.int (p0 + p1)), .val (.int (1 : Int32)), .unset, .unset] [(.ref r15)]))) (fun u k => XS.aload X25.here hx rfl (hb hby at_91) rfl rfl k) ?_
  obtain ⟨cq28, kq28, qa28, qb28, qc28⟩ := isOf hZ e25 P15_0
  obtain ⟨_, _, ⟨T27, L27, k27, n27⟩, -, X27, ⟨Lc27, hQ27, l27, y27, z27⟩, st27⟩ := X25.virtualBack hx (y := (⟨"com/example/norn/norn/core/Purge$Result", "batches", "()I"⟩ : MethodName)) (z := (⟨"com/example/norn/norn/core/Purge$Result", "batches", "()I"⟩ : MethodName)) hown (mvT hZ (hw _ (List.mem_of_getElem? (i := 36) rfl))) (mvT hZ (hw _ (List.mem_of_getElem? (i := 30) rfl))) (notFace_of_selects (args := #[]) (mvT hZ (hw _ (List.mem_of_getElem? (i := 32) rfl)))) (mvT hZ (hw _ (List.mem_of_getElem? (i := 32) rfl))) (mvT hZ (hw _ (List.mem_of_getElem? (i := 31) rfl))) (by decide) (backOf (W := 0) (own_batches l Z a0 hw [] r15 (p1 + p0) T15.heap n0 Z15 P15_2) hZ (hw _ (List.mem_of_getElem? (i := 33) rfl)) (hw _ (List.mem_of_getElem? (i := 2) rfl)) (by decide) (by decide)) qa28 qc28 (g := (mkF m 93 #[.val (.long q0), .second, .val (.int p0), .val (.long q1), .second, .val (.int p1), .val (.ref b1), .val (.ref b3), .val (.ref r7), .val (.ref r15), .val (.long (q0 + q1)), .second, .val (.int (p0 + p1)), .val (.int (1 : Int32)), .unset, .unset] [(.ref r15)])) rfl (by rw [hml]; rfl) (Steps.refl _) (argsL := []) (rest := []) (lenOf own_pd2 rfl) rfl (by show 2 * 0 + _ ≤ _; exact Nat.le_of_eq rfl) (hb hby at_93) (fun _ _ => ⟨rfl, e25, (by decide : 4 + 0 ≤ _), (by decide : 8 + 0 ≤ _)⟩)
  dsimp only [Pt.U, Pt.locs, Pt.cells, Pt.slots] at X27 l27 y27 z27 st27 hQ27
  subst l27 y27 z27
  obtain ⟨rfl, N27, e27⟩ := hQ27
  have NA27 := Fr.app NA25 N27
  refine Go.back (t' := (T27.setTop (mkF m 96 #[.val (.long q0), .second, .val (.int p0), .val (.long q1), .second, .val (.int p1), .val (.ref b1), .val (.ref b3), .val (.ref r7), .val (.ref r15), .val (.long (q0 + q1)), .second, .val (.int (p0 + p1)), .val (.int (1 : Int32)), .unset, .unset] [(.int (p1 + p0))]))) (fun u k => st27.trans k) ?_
  refine Go.back (t' := (T27.setTop (mkF m 98 #[.val (.long q0), .second, .val (.int p0), .val (.long q1), .second, .val (.int p1), .val (.ref b1), .val (.ref b3), .val (.ref r7), .val (.ref r15), .val (.long (q0 + q1)), .second, .val (.int (p0 + p1)), .val (.int (1 : Int32)), .unset, .unset] [(.int (p0 + p1)), (.int (p1 + p0))]))) (fun u k => XS.iload X27.here hx rfl (hb hby at_96) rfl k) ?_
  refine Go.back (t' := (T27.setTop (mkF m 101 #[.val (.long q0), .second, .val (.int p0), .val (.long q1), .second, .val (.int p1), .val (.ref b1), .val (.ref b3), .val (.ref r7), .val (.ref r15), .val (.long (q0 + q1)), .second, .val (.int (p0 + p1)), .val (.int (1 : Int32)), .unset, .unset] []))) (fun u k => XS.icmpNo X27.here hx rfl (hb hby at_98) rfl (XT.ii_ne_f (Int32.add_comm _ _)) k) ?_
  refine Go.back (t' := (T27.setTop (mkF m 102 #[.val (.long q0), .second, .val (.int p0), .val (.long q1), .second, .val (.int p1), .val (.ref b1), .val (.ref b3), .val (.ref r7), .val (.ref r15), .val (.long (q0 + q1)), .second, .val (.int (p0 + p1)), .val (.int (1 : Int32)), .unset, .unset] [(.int (1 : Int32))]))) (fun u k => XT.iconstV X27.here hx rfl (1 : Int32) (hb hby at_101) (by decide) k) ?_
  refine Go.back (t' := (T27.setTop (mkF m 106 #[.val (.long q0), .second, .val (.int p0), .val (.long q1), .second, .val (.int p1), .val (.ref b1), .val (.ref b3), .val (.ref r7), .val (.ref r15), .val (.long (q0 + q1)), .second, .val (.int (p0 + p1)), .val (.int (1 : Int32)), .unset, .unset] [(.int (1 : Int32))]))) (fun u k => XS.goto X27.here hx rfl (pc0 := 102) (pc' := 106) rfl (hb hby at_102) (by decide) (by decide) k) ?_
  refine Go.back (t' := (T27.setTop (mkF m 108 #[.val (.long q0), .second, .val (.int p0), .val (.long q1), .second, .val (.int p1), .val (.ref b1), .val (.ref b3), .val (.ref r7), .val (.ref r15), .val (.long (q0 + q1)), .second, .val (.int (p0 + p1)), .val (.int (1 : Int32)), .val (.int (1 : Int32)), .unset] []))) (fun u k => XS.istore X27.here hx rfl (hb hby at_106) rfl (l' := #[.val (.long q0), .second, .val (.int p0), .val (.long q1), .second, .val (.int p1), .val (.ref b1), .val (.ref b3), .val (.ref r7), .val (.ref r15), .val (.long (q0 + q1)), .second, .val (.int (p0 + p1)), .val (.int (1 : Int32)), .val (.int (1 : Int32)), .unset]) rfl k) ?_
  refine Go.back (t' := (T27.setTop (mkF m 110 #[.val (.long q0), .second, .val (.int p0), .val (.long q1), .second, .val (.int p1), .val (.ref b1), .val (.ref b3), .val (.ref r7), .val (.ref r15), .val (.long (q0 + q1)), .second, .val (.int (p0 + p1)), .val (.int (1 : Int32)), .val (.int (1 : Int32)), .unset] [(.ref b1)]))) (fun u k => XS.aload X27.here hx rfl (hb hby at_108) rfl rfl k) ?_
  have f29 := (f13.keep Kc15 nin0)
  have f32 := (f10.keep Kc15)
  obtain ⟨cq31, kq31, qa31, qb31, qc31⟩ := isOf hZ e27 f32
  obtain ⟨_, _, ⟨T30, L30, k30, n30⟩, -, X30, ⟨Lc30, hQ30, l30, y30, z30⟩, st30⟩ := X27.virtualBack hx (y := (⟨"com/example/norn/norn/core/Purge$Result", "removed", "()J"⟩ : MethodName)) (z := (⟨"com/example/norn/norn/core/Purge$Result", "removed", "()J"⟩ : MethodName)) hown (mvT hZ (hw _ (List.mem_of_getElem? (i := 35) rfl))) (mvT hZ (hw _ (List.mem_of_getElem? (i := 25) rfl))) (notFace_of_selects (args := #[]) (mvT hZ (hw _ (List.mem_of_getElem? (i := 27) rfl)))) (mvT hZ (hw _ (List.mem_of_getElem? (i := 27) rfl))) (mvT hZ (hw _ (List.mem_of_getElem? (i := 26) rfl))) (by decide) (backOf (W := 0) (own_removed l Z a0 hw [] b1 q0 T15.heap n0 Z15 f29) hZ (hw _ (List.mem_of_getElem? (i := 28) rfl)) (hw _ (List.mem_of_getElem? (i := 2) rfl)) (by decide) (by decide)) qa31 qc31 (g := (mkF m 110 #[.val (.long q0), .second, .val (.int p0), .val (.long q1), .second, .val (.int p1), .val (.ref b1), .val (.ref b3), .val (.ref r7), .val (.ref r15), .val (.long (q0 + q1)), .second, .val (.int (p0 + p1)), .val (.int (1 : Int32)), .val (.int (1 : Int32)), .unset] [(.ref b1)])) rfl (by rw [hml]; rfl) (Steps.refl _) (argsL := []) (rest := []) (lenOf own_pd1 rfl) rfl (by show 2 * 0 + _ ≤ _; exact Nat.le_of_eq rfl) (hb hby at_110) (fun _ _ => ⟨rfl, e27, (by decide : 4 + 0 ≤ _), (by decide : 8 + 0 ≤ _)⟩)
  dsimp only [Pt.U, Pt.locs, Pt.cells, Pt.slots] at X30 l30 y30 z30 st30 hQ30
  subst l30 y30 z30
  obtain ⟨rfl, N30, e30⟩ := hQ30
  have NA30 := Fr.app NA27 N30
  refine Go.back (t' := (T30.setTop (mkF m 113 #[.val (.long q0), .second, .val (.int p0), .val (.long q1), .second, .val (.int p1), .val (.ref b1), .val (.ref b3), .val (.ref r7), .val (.ref r15), .val (.long (q0 + q1)), .second, .val (.int (p0 + p1)), .val (.int (1 : Int32)), .val (.int (1 : Int32)), .unset] [(.long q0)]))) (fun u k => st30.trans k) ?_
  refine Go.back (t' := (T30.setTop (mkF m 114 #[.val (.long q0), .second, .val (.int p0), .val (.long q1), .second, .val (.int p1), .val (.ref b1), .val (.ref b3), .val (.ref r7), .val (.ref r15), .val (.long (q0 + q1)), .second, .val (.int (p0 + p1)), .val (.int (1 : Int32)), .val (.int (1 : Int32)), .unset] [(.long q0), (.long q0)]))) (fun u k => XT.lloadN X30.here hx rfl (hb hby at_113) rfl k) ?_
  refine Go.back (t' := (T30.setTop (mkF m 115 #[.val (.long q0), .second, .val (.int p0), .val (.long q1), .second, .val (.int p1), .val (.ref b1), .val (.ref b3), .val (.ref r7), .val (.ref r15), .val (.long (q0 + q1)), .second, .val (.int (p0 + p1)), .val (.int (1 : Int32)), .val (.int (1 : Int32)), .unset] [(.int (XT.cmpL q0 q0))]))) (fun u k => XT.lcmp X30.here hx rfl (hb hby at_114) rfl k) ?_
  refine Go.back (t' := (T30.setTop (mkF m 118 #[.val (.long q0), .second, .val (.int p0), .val (.long q1), .second, .val (.int p1), .val (.ref b1), .val (.ref b3), .val (.ref r7), .val (.ref r15), .val (.long (q0 + q1)), .second, .val (.int (p0 + p1)), .val (.int (1 : Int32)), .val (.int (1 : Int32)), .unset] []))) (fun u k => XS.ifNo X30.here hx rfl (hb hby at_115) rfl (XT.ll_ne_f rfl) k) ?_
  refine Go.back (t' := (T30.setTop (mkF m 120 #[.val (.long q0), .second, .val (.int p0), .val (.long q1), .second, .val (.int p1), .val (.ref b1), .val (.ref b3), .val (.ref r7), .val (.ref r15), .val (.long (q0 + q1)), .second, .val (.int (p0 + p1)), .val (.int (1 : Int32)), .val (.int (1 : Int32)), .unset] [(.ref b1)]))) (fun u k => XS.aload X30.here hx rfl (hb hby at_118) rfl rfl k) ?_
  have f33 := (f14.keep Kc15 nin0)
  obtain ⟨cq35, kq35, qa35, qb35, qc35⟩ := isOf hZ e30 f32
  obtain ⟨_, _, ⟨T34, L34, k34, n34⟩, -, X34, ⟨Lc34, hQ34, l34, y34, z34⟩, st34⟩ := X30.virtualBack hx (y := (⟨"com/example/norn/norn/core/Purge$Result", "batches", "()I"⟩ : MethodName)) (z := (⟨"com/example/norn/norn/core/Purge$Result", "batches", "()I"⟩ : MethodName)) hown (mvT hZ (hw _ (List.mem_of_getElem? (i := 36) rfl))) (mvT hZ (hw _ (List.mem_of_getElem? (i := 30) rfl))) (notFace_of_selects (args := #[]) (mvT hZ (hw _ (List.mem_of_getElem? (i := 32) rfl)))) (mvT hZ (hw _ (List.mem_of_getElem? (i := 32) rfl))) (mvT hZ (hw _ (List.mem_of_getElem? (i := 31) rfl))) (by decide) (backOf (W := 0) (own_batches l Z a0 hw [] b1 p0 T15.heap n0 Z15 f33) hZ (hw _ (List.mem_of_getElem? (i := 33) rfl)) (hw _ (List.mem_of_getElem? (i := 2) rfl)) (by decide) (by decide)) qa35 qc35 (g := (mkF m 120 #[.val (.long q0), .second, .val (.int p0), .val (.long q1), .second, .val (.int p1), .val (.ref b1), .val (.ref b3), .val (.ref r7), .val (.ref r15), .val (.long (q0 + q1)), .second, .val (.int (p0 + p1)), .val (.int (1 : Int32)), .val (.int (1 : Int32)), .unset] [(.ref b1)])) rfl (by rw [hml]; rfl) (Steps.refl _) (argsL := []) (rest := []) (lenOf own_pd2 rfl) rfl (by show 2 * 0 + _ ≤ _; exact Nat.le_of_eq rfl) (hb hby at_120) (fun _ _ => ⟨rfl, e30, (by decide : 4 + 0 ≤ _), (by decide : 8 + 0 ≤ _)⟩)
  dsimp only [Pt.U, Pt.locs, Pt.cells, Pt.slots] at X34 l34 y34 z34 st34 hQ34
  subst l34 y34 z34
  obtain ⟨rfl, N34, e34⟩ := hQ34
  have NA34 := Fr.app NA30 N34
  refine Go.back (t' := (T34.setTop (mkF m 123 #[.val (.long q0), .second, .val (.int p0), .val (.long q1), .second, .val (.int p1), .val (.ref b1), .val (.ref b3), .val (.ref r7), .val (.ref r15), .val (.long (q0 + q1)), .second, .val (.int (p0 + p1)), .val (.int (1 : Int32)), .val (.int (1 : Int32)), .unset] [(.int p0)]))) (fun u k => st34.trans k) ?_
  refine Go.back (t' := (T34.setTop (mkF m 124 #[.val (.long q0), .second, .val (.int p0), .val (.long q1), .second, .val (.int p1), .val (.ref b1), .val (.ref b3), .val (.ref r7), .val (.ref r15), .val (.long (q0 + q1)), .second, .val (.int (p0 + p1)), .val (.int (1 : Int32)), .val (.int (1 : Int32)), .unset] [(.int p0), (.int p0)]))) (fun u k => XS.iloadN X34.here hx rfl (hb hby at_123) rfl k) ?_
  refine Go.back (t' := (T34.setTop (mkF m 127 #[.val (.long q0), .second, .val (.int p0), .val (.long q1), .second, .val (.int p1), .val (.ref b1), .val (.ref b3), .val (.ref r7), .val (.ref r15), .val (.long (q0 + q1)), .second, .val (.int (p0 + p1)), .val (.int (1 : Int32)), .val (.int (1 : Int32)), .unset] []))) (fun u k => XS.icmpNo X34.here hx rfl (hb hby at_124) rfl (XT.ii_ne_f rfl) k) ?_
  refine Go.back (t' := (T34.setTop (mkF m 129 #[.val (.long q0), .second, .val (.int p0), .val (.long q1), .second, .val (.int p1), .val (.ref b1), .val (.ref b3), .val (.ref r7), .val (.ref r15), .val (.long (q0 + q1)), .second, .val (.int (p0 + p1)), .val (.int (1 : Int32)), .val (.int (1 : Int32)), .unset] [(.ref b3)]))) (fun u k => XS.aload X34.here hx rfl (hb hby at_127) rfl rfl k) ?_
  have f36 := (f11.keep Kc15 nin0)
  have f39 := (f17.keep Kc15)
  obtain ⟨cq38, kq38, qa38, qb38, qc38⟩ := isOf hZ e34 f39
  obtain ⟨_, _, ⟨T37, L37, k37, n37⟩, -, X37, ⟨Lc37, hQ37, l37, y37, z37⟩, st37⟩ := X34.virtualBack hx (y := (⟨"com/example/norn/norn/core/Purge$Result", "removed", "()J"⟩ : MethodName)) (z := (⟨"com/example/norn/norn/core/Purge$Result", "removed", "()J"⟩ : MethodName)) hown (mvT hZ (hw _ (List.mem_of_getElem? (i := 35) rfl))) (mvT hZ (hw _ (List.mem_of_getElem? (i := 25) rfl))) (notFace_of_selects (args := #[]) (mvT hZ (hw _ (List.mem_of_getElem? (i := 27) rfl)))) (mvT hZ (hw _ (List.mem_of_getElem? (i := 27) rfl))) (mvT hZ (hw _ (List.mem_of_getElem? (i := 26) rfl))) (by decide) (backOf (W := 0) (own_removed l Z a0 hw [] b3 q1 T15.heap n0 Z15 f36) hZ (hw _ (List.mem_of_getElem? (i := 28) rfl)) (hw _ (List.mem_of_getElem? (i := 2) rfl)) (by decide) (by decide)) qa38 qc38 (g := (mkF m 129 #[.val (.long q0), .second, .val (.int p0), .val (.long q1), .second, .val (.int p1), .val (.ref b1), .val (.ref b3), .val (.ref r7), .val (.ref r15), .val (.long (q0 + q1)), .second, .val (.int (p0 + p1)), .val (.int (1 : Int32)), .val (.int (1 : Int32)), .unset] [(.ref b3)])) rfl (by rw [hml]; rfl) (Steps.refl _) (argsL := []) (rest := []) (lenOf own_pd1 rfl) rfl (by show 2 * 0 + _ ≤ _; exact Nat.le_of_eq rfl) (hb hby at_129) (fun _ _ => ⟨rfl, e34, (by decide : 4 + 0 ≤ _), (by decide : 8 + 0 ≤ _)⟩)
  dsimp only [Pt.U, Pt.locs, Pt.cells, Pt.slots] at X37 l37 y37 z37 st37 hQ37
  subst l37 y37 z37
  obtain ⟨rfl, N37, e37⟩ := hQ37
  have NA37 := Fr.app NA34 N37
  refine Go.back (t' := (T37.setTop (mkF m 132 #[.val (.long q0), .second, .val (.int p0), .val (.long q1), .second, .val (.int p1), .val (.ref b1), .val (.ref b3), .val (.ref r7), .val (.ref r15), .val (.long (q0 + q1)), .second, .val (.int (p0 + p1)), .val (.int (1 : Int32)), .val (.int (1 : Int32)), .unset] [(.long q1)]))) (fun u k => st37.trans k) ?_
  refine Go.back (t' := (T37.setTop (mkF m 133 #[.val (.long q0), .second, .val (.int p0), .val (.long q1), .second, .val (.int p1), .val (.ref b1), .val (.ref b3), .val (.ref r7), .val (.ref r15), .val (.long (q0 + q1)), .second, .val (.int (p0 + p1)), .val (.int (1 : Int32)), .val (.int (1 : Int32)), .unset] [(.long q1), (.long q1)]))) (fun u k => XT.lloadN X37.here hx rfl (hb hby at_132) rfl k) ?_
  refine Go.back (t' := (T37.setTop (mkF m 134 #[.val (.long q0), .second, .val (.int p0), .val (.long q1), .second, .val (.int p1), .val (.ref b1), .val (.ref b3), .val (.ref r7), .val (.ref r15), .val (.long (q0 + q1)), .second, .val (.int (p0 + p1)), .val (.int (1 : Int32)), .val (.int (1 : Int32)), .unset] [(.int (XT.cmpL q1 q1))]))) (fun u k => XT.lcmp X37.here hx rfl (hb hby at_133) rfl k) ?_
  refine Go.back (t' := (T37.setTop (mkF m 137 #[.val (.long q0), .second, .val (.int p0), .val (.long q1), .second, .val (.int p1), .val (.ref b1), .val (.ref b3), .val (.ref r7), .val (.ref r15), .val (.long (q0 + q1)), .second, .val (.int (p0 + p1)), .val (.int (1 : Int32)), .val (.int (1 : Int32)), .unset] []))) (fun u k => XS.ifNo X37.here hx rfl (hb hby at_134) rfl (XT.ll_ne_f rfl) k) ?_
  refine Go.back (t' := (T37.setTop (mkF m 139 #[.val (.long q0), .second, .val (.int p0), .val (.long q1), .second, .val (.int p1), .val (.ref b1), .val (.ref b3), .val (.ref r7), .val (.ref r15), .val (.long (q0 + q1)), .second, .val (.int (p0 + p1)), .val (.int (1 : Int32)), .val (.int (1 : Int32)), .unset] [(.ref b3)]))) (fun u k => XS.aload X37.here hx rfl (hb hby at_137) rfl rfl k) ?_
  have f40 := (f12.keep Kc15 nin0)
  obtain ⟨cq42, kq42, qa42, qb42, qc42⟩ := isOf hZ e37 f39
  obtain ⟨_, _, ⟨T41, L41, k41, n41⟩, -, X41, ⟨Lc41, hQ41, l41, y41, z41⟩, st41⟩ := X37.virtualBack hx (y := (⟨"com/example/norn/norn/core/Purge$Result", "batches", "()I"⟩ : MethodName)) (z := (⟨"com/example/norn/norn/core/Purge$Result", "batches", "()I"⟩ : MethodName)) hown (mvT hZ (hw _ (List.mem_of_getElem? (i := 36) rfl))) (mvT hZ (hw _ (List.mem_of_getElem? (i := 30) rfl))) (notFace_of_selects (args := #[]) (mvT hZ (hw _ (List.mem_of_getElem? (i := 32) rfl)))) (mvT hZ (hw _ (List.mem_of_getElem? (i := 32) rfl))) (mvT hZ (hw _ (List.mem_of_getElem? (i := 31) rfl))) (by decide) (backOf (W := 0) (own_batches l Z a0 hw [] b3 p1 T15.heap n0 Z15 f40) hZ (hw _ (List.mem_of_getElem? (i := 33) rfl)) (hw _ (List.mem_of_getElem? (i := 2) rfl)) (by decide) (by decide)) qa42 qc42 (g := (mkF m 139 #[.val (.long q0), .second, .val (.int p0), .val (.long q1), .second, .val (.int p1), .val (.ref b1), .val (.ref b3), .val (.ref r7), .val (.ref r15), .val (.long (q0 + q1)), .second, .val (.int (p0 + p1)), .val (.int (1 : Int32)), .val (.int (1 : Int32)), .unset] [(.ref b3)])) rfl (by rw [hml]; rfl) (Steps.refl _) (argsL := []) (rest := []) (lenOf own_pd2 rfl) rfl (by show 2 * 0 + _ ≤ _; exact Nat.le_of_eq rfl) (hb hby at_139) (fun _ _ => ⟨rfl, e37, (by decide : 4 + 0 ≤ _), (by decide : 8 + 0 ≤ _)⟩)
  dsimp only [Pt.U, Pt.locs, Pt.cells, Pt.slots] at X41 l41 y41 z41 st41 hQ41
  subst l41 y41 z41
  obtain ⟨rfl, N41, e41⟩ := hQ41
  have NA41 := Fr.app NA37 N41
  refine Go.back (t' := (T41.setTop (mkF m 142 #[.val (.long q0), .second, .val (.int p0), .val (.long q1), .second, .val (.int p1), .val (.ref b1), .val (.ref b3), .val (.ref r7), .val (.ref r15), .val (.long (q0 + q1)), .second, .val (.int (p0 + p1)), .val (.int (1 : Int32)), .val (.int (1 : Int32)), .unset] [(.int p1)]))) (fun u k => st41.trans k) ?_
  refine Go.back (t' := (T41.setTop (mkF m 144 #[.val (.long q0), .second, .val (.int p0), .val (.long q1), .second, .val (.int p1), .val (.ref b1), .val (.ref b3), .val (.ref r7), .val (.ref r15), .val (.long (q0 + q1)), .second, .val (.int (p0 + p1)), .val (.int (1 : Int32)), .val (.int (1 : Int32)), .unset] [(.int p1), (.int p1)]))) (fun u k => XS.iload X41.here hx rfl (hb hby at_142) rfl k) ?_
  refine Go.back (t' := (T41.setTop (mkF m 147 #[.val (.long q0), .second, .val (.int p0), .val (.long q1), .second, .val (.int p1), .val (.ref b1), .val (.ref b3), .val (.ref r7), .val (.ref r15), .val (.long (q0 + q1)), .second, .val (.int (p0 + p1)), .val (.int (1 : Int32)), .val (.int (1 : Int32)), .unset] []))) (fun u k => XS.icmpNo X41.here hx rfl (hb hby at_144) rfl (XT.ii_ne_f rfl) k) ?_
  refine Go.back (t' := (T41.setTop (mkF m 148 #[.val (.long q0), .second, .val (.int p0), .val (.long q1), .second, .val (.int p1), .val (.ref b1), .val (.ref b3), .val (.ref r7), .val (.ref r15), .val (.long (q0 + q1)), .second, .val (.int (p0 + p1)), .val (.int (1 : Int32)), .val (.int (1 : Int32)), .unset] [(.int (1 : Int32))]))) (fun u k => XT.iconstV X41.here hx rfl (1 : Int32) (hb hby at_147) (by decide) k) ?_
  refine Go.back (t' := (T41.setTop (mkF m 152 #[.val (.long q0), .second, .val (.int p0), .val (.long q1), .second, .val (.int p1), .val (.ref b1), .val (.ref b3), .val (.ref r7), .val (.ref r15), .val (.long (q0 + q1)), .second, .val (.int (p0 + p1)), .val (.int (1 : Int32)), .val (.int (1 : Int32)), .unset] [(.int (1 : Int32))]))) (fun u k => XS.goto X41.here hx rfl (pc0 := 148) (pc' := 152) rfl (hb hby at_148) (by decide) (by decide) k) ?_
  refine Go.back (t' := (T41.setTop (mkF m 154 #[.val (.long q0), .second, .val (.int p0), .val (.long q1), .second, .val (.int p1), .val (.ref b1), .val (.ref b3), .val (.ref r7), .val (.ref r15), .val (.long (q0 + q1)), .second, .val (.int (p0 + p1)), .val (.int (1 : Int32)), .val (.int (1 : Int32)), .val (.int (1 : Int32))] []))) (fun u k => XS.istore X41.here hx rfl (hb hby at_152) rfl (l' := #[.val (.long q0), .second, .val (.int p0), .val (.long q1), .second, .val (.int p1), .val (.ref b1), .val (.ref b3), .val (.ref r7), .val (.ref r15), .val (.long (q0 + q1)), .second, .val (.int (p0 + p1)), .val (.int (1 : Int32)), .val (.int (1 : Int32)), .val (.int (1 : Int32))]) rfl k) ?_
  refine Go.back (t' := (T41.setTop (mkF m 156 #[.val (.long q0), .second, .val (.int p0), .val (.long q1), .second, .val (.int p1), .val (.ref b1), .val (.ref b3), .val (.ref r7), .val (.ref r15), .val (.long (q0 + q1)), .second, .val (.int (p0 + p1)), .val (.int (1 : Int32)), .val (.int (1 : Int32)), .val (.int (1 : Int32))] [(.int (1 : Int32))]))) (fun u k => XS.iload X41.here hx rfl (hb hby at_154) rfl k) ?_
  refine Go.back (t' := (T41.setTop (mkF m 159 #[.val (.long q0), .second, .val (.int p0), .val (.long q1), .second, .val (.int p1), .val (.ref b1), .val (.ref b3), .val (.ref r7), .val (.ref r15), .val (.long (q0 + q1)), .second, .val (.int (p0 + p1)), .val (.int (1 : Int32)), .val (.int (1 : Int32)), .val (.int (1 : Int32))] []))) (fun u k => XS.ifNo X41.here hx rfl (hb hby at_156) rfl (XT.i0_eq_f (by decide)) k) ?_
  refine Go.back (t' := (T41.setTop (mkF m 161 #[.val (.long q0), .second, .val (.int p0), .val (.long q1), .second, .val (.int p1), .val (.ref b1), .val (.ref b3), .val (.ref r7), .val (.ref r15), .val (.long (q0 + q1)), .second, .val (.int (p0 + p1)), .val (.int (1 : Int32)), .val (.int (1 : Int32)), .val (.int (1 : Int32))] [(.int (1 : Int32))]))) (fun u k => XS.iload X41.here hx rfl (hb hby at_159) rfl k) ?_
  refine Go.back (t' := (T41.setTop (mkF m 164 #[.val (.long q0), .second, .val (.int p0), .val (.long q1), .second, .val (.int p1), .val (.ref b1), .val (.ref b3), .val (.ref r7), .val (.ref r15), .val (.long (q0 + q1)), .second, .val (.int (p0 + p1)), .val (.int (1 : Int32)), .val (.int (1 : Int32)), .val (.int (1 : Int32))] []))) (fun u k => XS.ifNo X41.here hx rfl (hb hby at_161) rfl (XT.i0_eq_f (by decide)) k) ?_
  refine Go.back (t' := (T41.setTop (mkF m 166 #[.val (.long q0), .second, .val (.int p0), .val (.long q1), .second, .val (.int p1), .val (.ref b1), .val (.ref b3), .val (.ref r7), .val (.ref r15), .val (.long (q0 + q1)), .second, .val (.int (p0 + p1)), .val (.int (1 : Int32)), .val (.int (1 : Int32)), .val (.int (1 : Int32))] [(.int (1 : Int32))]))) (fun u k => XS.iload X41.here hx rfl (hb hby at_164) rfl k) ?_
  refine Go.back (t' := (T41.setTop (mkF m 169 #[.val (.long q0), .second, .val (.int p0), .val (.long q1), .second, .val (.int p1), .val (.ref b1), .val (.ref b3), .val (.ref r7), .val (.ref r15), .val (.long (q0 + q1)), .second, .val (.int (p0 + p1)), .val (.int (1 : Int32)), .val (.int (1 : Int32)), .val (.int (1 : Int32))] []))) (fun u k => XS.ifNo X41.here hx rfl (hb hby at_166) rfl (XT.i0_eq_f (by decide)) k) ?_
  refine Go.back (t' := (T41.setTop (mkF m 170 #[.val (.long q0), .second, .val (.int p0), .val (.long q1), .second, .val (.int p1), .val (.ref b1), .val (.ref b3), .val (.ref r7), .val (.ref r15), .val (.long (q0 + q1)), .second, .val (.int (p0 + p1)), .val (.int (1 : Int32)), .val (.int (1 : Int32)), .val (.int (1 : Int32))] [(.int (1 : Int32))]))) (fun u k => XT.iconstV X41.here hx rfl (1 : Int32) (hb hby at_169) (by decide) k) ?_
  refine Go.back (t' := (T41.setTop (mkF m 174 #[.val (.long q0), .second, .val (.int p0), .val (.long q1), .second, .val (.int p1), .val (.ref b1), .val (.ref b3), .val (.ref r7), .val (.ref r15), .val (.long (q0 + q1)), .second, .val (.int (p0 + p1)), .val (.int (1 : Int32)), .val (.int (1 : Int32)), .val (.int (1 : Int32))] [(.int (1 : Int32))]))) (fun u k => XS.goto X41.here hx rfl (pc0 := 170) (pc' := 174) rfl (hb hby at_170) (by decide) (by decide) k) ?_
  obtain ⟨fs, hr, hrun, hended, hW, hsame⟩ := X41.leave (v := some (.int (1 : Int32))) (fun h => by rw [Bd.returns] at h; cases h)
  refine ⟨_, _, retN X41 hx (t := .boolean) Bd.returns (by simp) (hb hby at_174) hr, hrun, hended, _, _, rfl, ?_, ⟨_, rfl⟩, hW, hsame.mono (by decide) (by decide)⟩
  show Q_own_law0 Z q0 p0 q1 p1 h0 n0 _ T41.heap _
  rw [e41]
  exact ⟨rfl, NA41, K15⟩
set_option maxRecDepth 65536 in
set_option maxHeartbeats 40000000 in
theorem own_comes {Post : Tables → Env → Array Value → State → Outcome → State → Prop} (hpost : ∀ tb e args s v u, (limb_1_1.after args s (.returned v) u = true ∧ limb_1_2.after args s (.returned v) u = true ∧ True) → FrameEnd s (.returned v) u (Jvm.fieldLocs frame_1_writes args s ++ Jvm.arrayLocs frame_1_arrays args s ++ Jvm.staticLocs frame_1_statics s) 16 128 → Post tb e args s (.returned v) u) :
    ArmFor flags0 classFile x code maxLocals ret World_1 tables_1 room_1 Calls_1 rest_1 Pre_1 Post := by
  intro l hfl _ _ p e ha hc hk s m args below hf hA hF happ hP
  obtain ⟨hcalls, hrest, hpre⟩ := hP
  obtain ⟨-, -, -, hnamed, -, -, -, hat⟩ := (Spec.applies_iff hf).mp happ
  obtain ⟨hg, hn⟩ := and_e (Cond.before_iff.mp (show (Jvm.Cond.and given_1 narrow_1).before args s = true from hpre))
  obtain ⟨hg1, hg2⟩ := and_e hg
  obtain ⟨hg3, hg4⟩ := and_e hg2
  obtain ⟨hg5, hg6⟩ := and_e hg4
  obtain ⟨hg7, hg8⟩ := and_e hg6
  obtain ⟨w0, w1, w2, w3, rfl⟩ : ∃ w0 w1 w2 w3 : Value, args = #[w0, w1, w2, w3] := by
    have hs : args.size = 4 := by simpa [Cond.value, given_1] using hg1
    obtain ⟨L⟩ := args
    match L, hs with
    | [w0, w1, w2, w3], _ => exact ⟨w0, w1, w2, w3, rfl⟩
  have hw := fun d (hd : d ∈ tables_1) => atoms_spec (ws := Jvm.Cond.code x code maxLocals ret :: tables_1) hat d (List.mem_cons_of_mem _ hd)
  have hfit : Fit s := fun {y c} hc i hi => by
    obtain ⟨ha, rfl⟩ := Array.getElem?_eq_some_iff.mp hc
    have q := List.all_eq_true.mp ((Array.all_eq_true_iff_forall_mem.mp hF) _ (Array.getElem_mem ha)) i (List.mem_range.mpr hi)
    simpa [Array.getElem?_eq_getElem hi] using q
  obtain ⟨i0, ei0⟩ := isL_v hg3
  obtain rfl : w0 = (.long i0) := Option.some.inj ei0
  obtain ⟨i1, ei1⟩ := is_v hg5
  obtain rfl : w1 = (.int i1) := Option.some.inj ei1
  obtain ⟨i2, ei2⟩ := isL_v hg7
  obtain rfl : w2 = (.long i2) := Option.some.inj ei2
  obtain ⟨i3, ei3⟩ := is_v hg8
  obtain rfl : w3 = (.int i3) := Option.some.inj ei3
  obtain ⟨n, o, h1, h2, h3, _, L, rfl, ⟨rfl, N, -⟩, hq⟩ := own_law0 l s _ hw tables_1 i0 i1 i2 i3  s.heap s.heap.size (Nat.le_refl _)  p e ha hc hk s m _ below hf ((Spec.applies_iff_loose hf).mp happ).1 ⟨rfl, State.Warmed39.refl s, rfl⟩ trivial
  refine ⟨n, _, h1, h2, h3, hpost _ _ _ _ _ _ ⟨Cond.after_iff.mpr rfl, Cond.after_iff.mpr (eq_i res_at (Term.int_eval (1)) rfl), trivial⟩ ⟨hq.1, hq.2.1, (hq.2.2.sift fun y hy => Or.inr (N y hy)).mono (by decide) (by decide)⟩⟩
theorem main_1_1 : Claimed_1_1 := own_comes fun _ _ _ _ _ _ h hF => ⟨h.1, hF⟩
theorem main_1_2 : Claimed_1_2 := own_comes fun _ _ _ _ _ _ h hF => ⟨h.2.1, hF⟩
end Jvm.Pilot.@@N@@
namespace Jvm.Pilot.@@N@@
open Jvm Jvm.ClassFile Sem Op Lib Jvm.Free Jvm.Stand Jvm.Pilot.@@N@@.Jvm.D
/-! MADE BY PROGRAM (witnessworld.py) out of the Statement's table words and the real class files: 10 classes; the members and pool entries that the words name. The judged class is class 1, her method 1. -/
namespace start1
open Jvm.ClassFile
def u (s : String) : CpInfo := .utf8 (stringToUtf16 s)
/-- a pool by its gaps: so many unusable entries, then the entry; so many at the end -/
def gap : Nat → List CpInfo → List CpInfo
  | 0, r => r
  | n + 1, r => .unusable :: gap n r
def poolList (es : List (Nat × CpInfo)) (last : Nat) : List CpInfo := es.foldr (fun e r => gap e.1 (e.2 :: r)) (gap last [])
def pool (es : List (Nat × CpInfo)) (last : Nat) : Array CpInfo := ⟨poolList es last⟩
def fileOf (pool : Array CpInfo) (this : Nat) (attrs : Array Attribute := #[]) (ms : Array MethodInfo := #[]) (fl : Nat := 33) (sup : Nat := 0) (ifs : Array Nat := #[]) (fds : Array FieldInfo := #[]) : ClassFile where
  minorVersion := 0
  majorVersion := 65
  constantPool := pool
  accessFlags := fl
  thisClass := this
  superClass := sup
  interfaces := ifs
  fields := fds
  methods := ms
  attributes := attrs
def plain (name : String) (sup : Option ClassId) : Class where
  name := name
  kind := .ordinary
  loader := none
  accessFlags := 33
  super := sup
  interfaces := #[]
  cf := none
  fields := #[]
  methods := #[]
  instanceTypes := #[]
  staticTypes := #[]
  resolved := #[]
  callSites := []
  init := .initialized
  statics := none
  mirror := none

def pool0 : Array CpInfo := pool [(5, u "<init>"), (0, u "()V"), (1, .class_ 10), (1, u "java/lang/Object")] 113

def k0c0 : Code := { maxStack := 0, maxLocals := 1, code := object_method_1_code, exceptionTable := #[], attributes := #[] }
def k0m0 : Method := { name := "<init>", desc := "()V", sig := { parameters := [], returnType := none }, accessFlags := 1, code := some k0c0 }
/-- java/lang/Object -/
def k0 : Class := { plain "java/lang/Object" none with
  accessFlags := 33
  interfaces := #[]
  cf := some (fileOf pool0 8 #[] #[{ accessFlags := 1, nameIndex := 5, descriptorIndex := 6, attributes := #[] }] 33 0 #[] #[])
  fields := #[]
  methods := #[k0m0]
  instanceTypes := #[]
  staticTypes := #[]
  resolved := Array.replicate 124 none
  statics := none }

def pool1 : Array CpInfo := pool [(2, .class_ 4), (1, u "java/lang/Object"), (0, u "<init>"), (0, u "()V"), (0, .class_ 8), (0, u "com/example/norn/norn/core/Purge$Result"), (0, .methodref 7 10), (0, .nameAndType 5 11), (0, u "(JI)V"), (0, .methodref 7 13), (0, .nameAndType 14 15), (0, u "plus"), (0, u "(Lcom/example/norn/norn/core/Purge$Result;)Lcom/example/norn/norn/core/Purge$Result;"), (0, .methodref 7 17), (0, .nameAndType 18 19), (0, u "removed"), (0, u "()J"), (0, .methodref 7 21), (0, .nameAndType 22 23), (0, u "batches"), (0, u "()I"), (0, .class_ 25), (0, u "com/example/norn/norn/core/ResultPlusPinLaw"), (2, u "law"), (0, u "(JIJI)Z")] 7

def k1m0 : Method := { name := "<init>", desc := "()V", sig := { parameters := [], returnType := none }, accessFlags := 1, code := none }
def k1c1 : Code := { maxStack := 5, maxLocals := 16, code := code, exceptionTable := #[], attributes := #[] }
def k1m1 : Method := { name := "law", desc := "(JIJI)Z", sig := { parameters := [.long, .int, .long, .int], returnType := some .boolean }, accessFlags := 9, code := some k1c1 }
/-- com/example/norn/norn/core/ResultPlusPinLaw -/
def k1 : Class := { plain "com/example/norn/norn/core/ResultPlusPinLaw" (some 0) with
  accessFlags := 49
  interfaces := #[]
  cf := some (fileOf pool1 24 #[] #[{ accessFlags := 1, nameIndex := 5, descriptorIndex := 6, attributes := #[] }, { accessFlags := 9, nameIndex := 28, descriptorIndex := 29, attributes := #[] }] 49 2 #[] #[])
  fields := #[]
  methods := #[k1m0, k1m1]
  instanceTypes := #[]
  staticTypes := #[]
  resolved := Array.replicate 37 none
  statics := none }

def pool2 : Array CpInfo := pool [(1, .methodref 2 3), (0, .class_ 4), (0, .nameAndType 5 6), (0, u "java/lang/Object"), (0, u "<init>"), (0, u "()V"), (0, .class_ 8), (0, u "java/lang/Record")] 13

def k2c0 : Code := { maxStack := 1, maxLocals := 1, code := jdk_30_method_1_code, exceptionTable := #[], attributes := #[] }
def k2m0 : Method := { name := "<init>", desc := "()V", sig := { parameters := [], returnType := none }, accessFlags := 4, code := some k2c0 }
/-- java/lang/Record -/
def k2 : Class := { plain "java/lang/Record" (some 0) with
  accessFlags := 1057
  interfaces := #[]
  cf := some (fileOf pool2 7 #[] #[{ accessFlags := 4, nameIndex := 5, descriptorIndex := 6, attributes := #[] }] 1057 2 #[] #[])
  fields := #[]
  methods := #[k2m0]
  instanceTypes := #[]
  staticTypes := #[]
  resolved := Array.replicate 22 none
  statics := none }

def pool3 : Array CpInfo := pool [(1, .methodref 2 3), (0, .class_ 4), (0, .nameAndType 5 6), (0, u "java/lang/Record"), (0, u "<init>"), (0, u "()V"), (0, .fieldref 8 9), (0, .class_ 10), (0, .nameAndType 11 12), (0, u "com/example/norn/norn/core/Purge$Result"), (0, u "removed"), (0, u "J"), (0, .fieldref 8 14), (0, .nameAndType 15 16), (0, u "batches"), (0, u "I"), (0, .methodref 8 18), (0, .nameAndType 11 19), (0, u "()J"), (0, .methodref 8 21), (0, .nameAndType 15 22), (0, u "()I"), (0, .methodref 8 24), (0, .nameAndType 5 25), (0, u "(JI)V"), (15, u "plus"), (0, u "(Lcom/example/norn/norn/core/Purge$Result;)Lcom/example/norn/norn/core/Purge$Result;"), (5, .class_ 49), (0, u "com/example/norn/norn/core/Purge")] 20

def k3c0 : Code := { maxStack := 3, maxLocals := 4, code := prog_37_method_1_code, exceptionTable := #[], attributes := #[] }
def k3m0 : Method := { name := "<init>", desc := "(JI)V", sig := { parameters := [.long, .int], returnType := none }, accessFlags := 1, code := some k3c0 }
def k3c1 : Code := { maxStack := 6, maxLocals := 2, code := prog_37_method_2_code, exceptionTable := #[], attributes := #[] }
def k3m1 : Method := { name := "plus", desc := "(Lcom/example/norn/norn/core/Purge$Result;)Lcom/example/norn/norn/core/Purge$Result;", sig := { parameters := [(.object "com/example/norn/norn/core/Purge$Result")], returnType := some (.object "com/example/norn/norn/core/Purge$Result") }, accessFlags := 1, code := some k3c1 }
def k3c2 : Code := { maxStack := 2, maxLocals := 1, code := prog_37_method_6_code, exceptionTable := #[], attributes := #[] }
def k3m2 : Method := { name := "removed", desc := "()J", sig := { parameters := [], returnType := some .long }, accessFlags := 1, code := some k3c2 }
def k3c3 : Code := { maxStack := 1, maxLocals := 1, code := prog_37_method_7_code, exceptionTable := #[], attributes := #[] }
def k3m3 : Method := { name := "batches", desc := "()I", sig := { parameters := [], returnType := some .int }, accessFlags := 1, code := some k3c3 }
/-- com/example/norn/norn/core/Purge$Result -/
def k3 : Class := { plain "com/example/norn/norn/core/Purge$Result" (some 2) with
  accessFlags := 49
  interfaces := #[]
  cf := some (fileOf pool3 8 #[.nestHost 48] #[{ accessFlags := 1, nameIndex := 5, descriptorIndex := 25, attributes := #[] }, { accessFlags := 1, nameIndex := 41, descriptorIndex := 42, attributes := #[] }, { accessFlags := 1, nameIndex := 11, descriptorIndex := 19, attributes := #[] }, { accessFlags := 1, nameIndex := 15, descriptorIndex := 22, attributes := #[] }] 49 2 #[] #[{ accessFlags := 18, nameIndex := 11, descriptorIndex := 12, attributes := #[] }, { accessFlags := 18, nameIndex := 15, descriptorIndex := 16, attributes := #[] }])
  fields := #[{ name := "removed", type := .long, accessFlags := 18, slot := 0, constantValue := 0 }, { name := "batches", type := .int, accessFlags := 18, slot := 1, constantValue := 0 }]
  methods := #[k3m0, k3m1, k3m2, k3m3]
  instanceTypes := #[.long, .int]
  staticTypes := #[]
  resolved := Array.replicate 70 none
  statics := none }

def pool4 : Array CpInfo := pool [(1, u "java/lang/Cloneable"), (0, .class_ 1), (0, u "java/lang/Object"), (0, .class_ 3)] 3

/-- java/lang/Cloneable -/
def k4 : Class := { plain "java/lang/Cloneable" (some 0) with
  accessFlags := 1537
  interfaces := #[]
  cf := some (fileOf pool4 2 #[] #[] 1537 4 #[] #[])
  fields := #[]
  methods := #[]
  instanceTypes := #[]
  staticTypes := #[]
  resolved := Array.replicate 8 none
  statics := none }

def pool5 : Array CpInfo := pool [(1, u "java/io/Serializable"), (0, .class_ 1), (0, u "java/lang/Object"), (0, .class_ 3)] 3

/-- java/io/Serializable -/
def k5 : Class := { plain "java/io/Serializable" (some 0) with
  accessFlags := 1537
  interfaces := #[]
  cf := some (fileOf pool5 2 #[] #[] 1537 4 #[] #[])
  fields := #[]
  methods := #[]
  instanceTypes := #[]
  staticTypes := #[]
  resolved := Array.replicate 8 none
  statics := none }

/-- the primitive byte -/
def k6 : Class := { plain "byte" none with kind := .primitive 'B', accessFlags := 0x411 }
/-- [B -/
def k7 : Class := { plain "[B" (some 0) with kind := .array 6 .byte, interfaces := #[4, 5], accessFlags := 1041 }

/-- the primitive int -/
def k8 : Class := { plain "int" none with kind := .primitive 'I', accessFlags := 0x411 }
/-- [I -/
def k9 : Class := { plain "[I" (some 0) with kind := .array 8 .int, interfaces := #[4, 5], accessFlags := 1041 }

def heap : Heap := #[]
def classes : Array Class := #[k0, k1, k2, k3, k4, k5, k6, k7, k8, k9]
def interned : List (Array UInt16 × Addr) := []
def slotsUsed : Nat := 0
def theMethod : MethodId := ⟨1, 1⟩
def args0 : Array Value := #[.long 5, .int 9, .long 7, .int 3]
def aboutOver (below : List Frame) : State where
  vm := { classes := classes, interned := interned.toArray }
  heap := heap
  slotsUsed := slotsUsed
  threads := #[{ frames := .invoking theMethod args0 :: below }]
def below0 : List Frame := [.native { method := ⟨0, 0⟩, args := #[] }]
def about1 : State := aboutOver below0
def p0 : Program := .bare "" "" ""
def e0 : Env := launch0.env 0 0 0
theorem w_frames : about1.frames = Frame.invoking theMethod args0 :: below0 := rfl
set_option maxRecDepth 65536 in
theorem w_args : argsFit about1.vm theMethod args0 = true := by decide +kernel
set_option maxRecDepth 65536 in
theorem w_heap : heapFits about1 = true := by decide +kernel
set_option maxRecDepth 65536 in
theorem w_runnable : about1.curStatus? = some .runnable := by decide +kernel
set_option maxRecDepth 65536 in
theorem w_alone : about1.alone = true := by decide +kernel
set_option maxRecDepth 65536 in
theorem w_named : about1.methodNamed? x = some theMethod := by decide +kernel
set_option maxRecDepth 65536 in
theorem w_hears : about1.hears theMethod below0 = true := by decide +kernel
set_option maxRecDepth 65536 in
theorem w_ripe : about1.ripe theMethod args0 below0 = true := by decide +kernel
theorem w_running : about1.status = .running := rfl
set_option maxRecDepth 65536 in
theorem w_room : about1.hasRoom e0.platform room_1 = true :=
  launch0.hasRoom_least _ room_1 (by decide +kernel) (by decide +kernel) (by decide +kernel) (by decide +kernel) (by decide +kernel) (by decide +kernel)
theorem allAtoms_all (ts : List Jvm.Cond) (a : Array Jvm.Value) (st : Jvm.State) : (allAtoms ts).before a st = ts.all (fun c => c.before a st) := by
  induction ts with
  | nil => rfl
  | cons c t ih =>
    show (Jvm.Cond.and c (allAtoms t)).before a st = _
    rw [Jvm.Cond.before_and, ih, List.all_cons]
def words1 : List Jvm.Cond := Jvm.Cond.code x code maxLocals ret :: tables_1
/-- a 'code' word, met by the world's own term for the bytes: nothing is compared byte by byte -/
theorem code_word {y : MethodName} {bytes : ByteArray} {mx : Nat} {rt : Option FieldType} {a : Array Value} {s : State} {m : MethodId} {meth : Method} {c : Code} (h1 : s.methodNamed? y = some m) (h2 : s.vm.method? m = some meth) (h3 : meth.code = some c) (h4 : c.code = bytes)
    (h5 : (c.maxLocals == mx && c.exceptionTable.isEmpty && decide (c.maxStack ≤ mostOperands) && decide (meth.sig.returnType = rt) && !meth.locks && decide (parseMethodDescriptor y.desc = some meth.sig)) = true) : (Jvm.Cond.code y bytes mx rt).before a s = true := by
  simp only [Bool.and_eq_true, beq_iff_eq, Bool.not_eq_true', decide_eq_true_eq] at h5
  obtain ⟨⟨⟨⟨⟨g1, g2⟩, g3⟩, g4⟩, g5⟩, g6⟩ := h5
  simp [Cond.before, Cond.holds, Cond.value, h1, h2, h3, h4, g1, g2, g3, g4, g5, g6]
def isCode : Jvm.Cond → Bool
  | .code _ _ _ _ => true
  | _ => false
theorem all_split {L : List Jvm.Cond} {P : Jvm.Cond → Bool} (h1 : L.all (fun c => isCode c || P c) = true) (h2 : ∀ c ∈ L.filter isCode, P c = true) : L.all P = true := by
  refine List.all_eq_true.mpr fun c hc => ?_
  have h := List.all_eq_true.mp h1 c hc
  rcases Bool.eq_false_or_eq_true (isCode c) with hi | hi
  · exact h2 c (List.mem_filter.mpr ⟨hc, hi⟩)
  · simpa [hi] using h
set_option maxRecDepth 65536 in
theorem w_c0 : (Jvm.Cond.code x code maxLocals ret).before args0 about1 = true := code_word (m := ⟨1, 1⟩) (meth := k1m1) (c := k1c1) (by decide +kernel) rfl rfl rfl (by decide +kernel)
set_option maxRecDepth 65536 in
theorem w_c1 : (Jvm.Cond.code ({ cls := "com/example/norn/norn/core/Purge$Result", name := "<init>", desc := "(JI)V" } : Jvm.MethodName) prog_37_method_1_code (4 : Nat) (Option.none : Option Jvm.ClassFile.FieldType)).before args0 about1 = true := code_word (m := ⟨3, 0⟩) (meth := k3m0) (c := k3c0) (by decide +kernel) rfl rfl rfl (by decide +kernel)
set_option maxRecDepth 65536 in
theorem w_c2 : (Jvm.Cond.code ({ cls := "java/lang/Record", name := "<init>", desc := "()V" } : Jvm.MethodName) jdk_30_method_1_code (1 : Nat) (Option.none : Option Jvm.ClassFile.FieldType)).before args0 about1 = true := code_word (m := ⟨2, 0⟩) (meth := k2m0) (c := k2c0) (by decide +kernel) rfl rfl rfl (by decide +kernel)
set_option maxRecDepth 65536 in
theorem w_c3 : (Jvm.Cond.code ({ cls := "java/lang/Object", name := "<init>", desc := "()V" } : Jvm.MethodName) object_method_1_code (1 : Nat) (Option.none : Option Jvm.ClassFile.FieldType)).before args0 about1 = true := code_word (m := ⟨0, 0⟩) (meth := k0m0) (c := k0c0) (by decide +kernel) rfl rfl rfl (by decide +kernel)
set_option maxRecDepth 65536 in
theorem w_c4 : (Jvm.Cond.code ({ cls := "com/example/norn/norn/core/Purge$Result", name := "plus", desc := "(Lcom/example/norn/norn/core/Purge$Result;)Lcom/example/norn/norn/core/Purge$Result;" } : Jvm.MethodName) prog_37_method_2_code (2 : Nat) (Option.some (Jvm.ClassFile.FieldType.object "com/example/norn/norn/core/Purge$Result"))).before args0 about1 = true := code_word (m := ⟨3, 1⟩) (meth := k3m1) (c := k3c1) (by decide +kernel) rfl rfl rfl (by decide +kernel)
set_option maxRecDepth 65536 in
theorem w_c5 : (Jvm.Cond.code ({ cls := "com/example/norn/norn/core/Purge$Result", name := "removed", desc := "()J" } : Jvm.MethodName) prog_37_method_6_code (1 : Nat) (Option.some Jvm.ClassFile.FieldType.long)).before args0 about1 = true := code_word (m := ⟨3, 2⟩) (meth := k3m2) (c := k3c2) (by decide +kernel) rfl rfl rfl (by decide +kernel)
set_option maxRecDepth 65536 in
theorem w_c6 : (Jvm.Cond.code ({ cls := "com/example/norn/norn/core/Purge$Result", name := "batches", desc := "()I" } : Jvm.MethodName) prog_37_method_7_code (1 : Nat) (Option.some Jvm.ClassFile.FieldType.int)).before args0 about1 = true := code_word (m := ⟨3, 3⟩) (meth := k3m3) (c := k3c3) (by decide +kernel) rfl rfl rfl (by decide +kernel)
def codes1 : List Jvm.Cond := [Jvm.Cond.code x code maxLocals ret, Jvm.Cond.code ({ cls := "com/example/norn/norn/core/Purge$Result", name := "<init>", desc := "(JI)V" } : Jvm.MethodName) prog_37_method_1_code (4 : Nat) (Option.none : Option Jvm.ClassFile.FieldType), Jvm.Cond.code ({ cls := "java/lang/Record", name := "<init>", desc := "()V" } : Jvm.MethodName) jdk_30_method_1_code (1 : Nat) (Option.none : Option Jvm.ClassFile.FieldType), Jvm.Cond.code ({ cls := "java/lang/Object", name := "<init>", desc := "()V" } : Jvm.MethodName) object_method_1_code (1 : Nat) (Option.none : Option Jvm.ClassFile.FieldType), Jvm.Cond.code ({ cls := "com/example/norn/norn/core/Purge$Result", name := "plus", desc := "(Lcom/example/norn/norn/core/Purge$Result;)Lcom/example/norn/norn/core/Purge$Result;" } : Jvm.MethodName) prog_37_method_2_code (2 : Nat) (Option.some (Jvm.ClassFile.FieldType.object "com/example/norn/norn/core/Purge$Result")), Jvm.Cond.code ({ cls := "com/example/norn/norn/core/Purge$Result", name := "removed", desc := "()J" } : Jvm.MethodName) prog_37_method_6_code (1 : Nat) (Option.some Jvm.ClassFile.FieldType.long), Jvm.Cond.code ({ cls := "com/example/norn/norn/core/Purge$Result", name := "batches", desc := "()I" } : Jvm.MethodName) prog_37_method_7_code (1 : Nat) (Option.some Jvm.ClassFile.FieldType.int)]
set_option maxRecDepth 65536 in
theorem codes_eq : words1.filter isCode = codes1 := rfl
theorem w_codes : ∀ c ∈ words1.filter isCode, c.before args0 about1 = true := by
  rw [codes_eq]
  intro c hc
  simp only [codes1, List.mem_cons, List.not_mem_nil, or_false] at hc
  rcases hc with rfl | rfl | rfl | rfl | rfl | rfl | rfl
  · exact w_c0
  · exact w_c1
  · exact w_c2
  · exact w_c3
  · exact w_c4
  · exact w_c5
  · exact w_c6
set_option maxRecDepth 65536 in
theorem w_t1 : (words1.take 24).all (fun c => isCode c || c.before args0 about1) = true := by decide +kernel
set_option maxRecDepth 65536 in
theorem w_t2 : (words1.drop 24).all (fun c => isCode c || c.before args0 about1) = true := by decide +kernel
theorem w_tables : (allAtoms (Jvm.Cond.code x code maxLocals ret :: tables_1)).before args0 about1 = true := by
  rw [allAtoms_all]
  show words1.all (fun c => c.before args0 about1) = true
  refine all_split ?_ w_codes
  rw [← List.take_append_drop 24 words1, List.all_append, w_t1, w_t2]
  rfl
set_option maxRecDepth 65536 in
theorem w_case : (Jvm.Cond.and given_1 narrow_1).before args0 about1 = true := by decide +kernel
theorem w_applies : (headSpec (Jvm.Cond.code x code maxLocals ret :: tables_1) room_1).applies x e0.platform about1 = true :=
  (Spec.applies_iff w_frames).mpr ⟨w_running, w_runnable, w_alone, w_named, w_hears, w_ripe, w_room, w_tables⟩
theorem atStart : AtStart classFile x code maxLocals ret World_1 tables_1 room_1 Calls_1 rest_1 Pre_1 launch0 p0 e0 about1 theMethod args0 below0 :=
  ⟨lists_1, trivial, launch0.admits_env _ _ _, launch0.least_env, fairChoices_fair.cas, fairChoices_fair.clock, w_frames, w_args, w_heap, w_applies, trivial, trivial, w_case⟩
end start1
theorem witness_1 : WitnessClaimed_1 := ⟨start1.p0, start1.e0, start1.about1, start1.theMethod, start1.args0, start1.below0, start1.atStart⟩
end Jvm.Pilot.@@N@@
