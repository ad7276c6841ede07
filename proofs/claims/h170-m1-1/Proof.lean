import JvmDerived
import JvmDerived.Pilot.@@N@@Statement
import JvmDerived.Pilot.@@N@@Code
set_option linter.unusedVariables false
set_option linter.unusedSimpArgs false
namespace Jvm.RoadKit
open Sem ClassFile Op Lib Jvm.Stand Jvm.Free Jvm.LawKit
section New
variable {p : Program} {l : Launch} {e : Env} {R : Room} {s : State} {m : MethodId} {args : Array Value} {below : List Frame} {meth : Method} {c : Code} {T : State} {locs : List Loc} {cells slots : Nat}
theorem retI (X : Stand p l e R s m args below meth c T locs cells slots) (hx : p.tables.exec = Jvm.exec) {pc : Nat} {Ls : Array Slot} {z : Int32} {rest : List Value} (hret : meth.sig.returnType = some .int) (hd : decode c.code pc = .ok (.ireturn, 1)) {fs : List Frame}
    (hl : ∀ (f : JFrame) (acts : List Action), f.method = m → f.locked = none → f.entered = [] → (doReturn e (T.setTop f) acts (some (.int z))).1 = T.setFrames fs) : Steps p.tables e below (T.setTop (mkF m pc Ls (.int z :: rest))) (T.setFrames fs) := by
  have hm' : T.vm.method? m = some meth := X.method'
  have hn : narrow .int (.int z) = .int z := rfl
  show Steps p.tables e below (T.setTop { method := m, pc := pc, locals := Ls, stack := _ :: rest, locked := none }) _
  jvm_step X.here [X.here.top, hx, hd, hm', hret, hn]
  first | (intro acts; rw [hl _ acts rfl rfl rfl]) | rw [hl _ _ rfl rfl rfl]
  exact Steps.refl _
end New
end Jvm.RoadKit
namespace Jvm.Pilot.@@N@@
open Jvm Jvm.ClassFile Sem Op Lib Jvm.Free Jvm.Stand Jvm.LawKit Jvm.RoadKit Bundle Jvm.Pilot.@@N@@.Jvm.D
/-- the rest of a run, in passing style: some state is come to at which F holds -/
def Go (p : Program) (e : Env) (below : List Frame) (F : State → Outcome → Prop) (t : State) : Prop := ∃ u o, Steps p.tables e below t u ∧ F u o
theorem Go.back {p : Program} {e : Env} {below : List Frame} {F : State → Outcome → Prop} {t t' : State} (k : ∀ u, Steps p.tables e below t' u → Steps p.tables e below t u) (h : Go p e below F t') : Go p e below F t := by
  obtain ⟨u, o, h1, h2⟩ := h
  exact ⟨u, o, k u h1, h2⟩
def own_F (s : State) (below : List Frame) (Q : Option Value → Heap → List Loc → Prop) (cells slots : Nat) (u : State) (o : Outcome) : Prop := u.status = .running ∧ Ended u below o ∧ ∃ v L, o = .returned v ∧ Q v u.heap L ∧ FrameEnd s o u L cells slots
def own_FW (s : State) (below : List Frame) (Q : Option Value → Heap → List Loc → Prop) (cells slots : Nat) (u : State) (o : Outcome) : Prop := u.status = .running ∧ Ended u below o ∧ ∃ v L, o = .returned v ∧ Q v u.heap L ∧ ReturnedEndW s o u L cells slots
theorem own_field {args : Array Value} {s : State} {t : Term} {C n d : String} {x : Addr} {v : Value} (h : t.eval args s none [] s = some (.ref x)) (h2 : (Term.field t C n d).eval args s none [] s = some v) : s.fieldOf? x C n d = some v := by
  simpa [Term.eval, h] using h2
theorem own_bit {x : Int32} (h : x = 0 ∨ x = 1) : narrow .boolean (.int x) = .int x ∧ fits .boolean (.int x) = true := by
  rcases h with rfl | rfl <;> decide
theorem own_pn0 : plainName "java/util/AbstractCollection" = true := by first | (simp [plainName, overriddenIn]; done) | decide +kernel
theorem own_d3_0 : decode jdk_22_method_1_code 0 = .ok (.aload_n 0, 1) := by decide +kernel
theorem own_d3_1 : decode jdk_22_method_1_code 1 = .ok (.invokespecial 1, 3) := by decide +kernel
theorem own_d3_4 : decode jdk_22_method_1_code 4 = .ok (.return_, 1) := by decide +kernel
theorem own_ef_own_acInit (m : MethodId) (x0 : Addr) : entryFrame m #[(.ref x0)] 1 = mkF m 0 #[.val (.ref x0)] [] := by first | (simp [entryFrame, mkF, argsToLocals, Value.category]; done) | rfl
def Q_own_acInit (Z : State) (a : Addr) (h0 : Heap) (n0 : Nat) (v : Option Value) (h : Heap) (L : List Loc) : Prop := v = none ∧ Fr n0 L ∧ h = h0
set_option maxRecDepth 65536 in
set_option maxHeartbeats 40000000 in
theorem own_acInit (l : Launch) (Z : State) (a0 : Array Value) (hw : ∀ d ∈ tables_1, d.before a0 Z = true) (ws : List Jvm.Cond) (a : Addr) (h0 : Heap) (n0 : Nat) (Z0 : n0 ≤ h0.size) :
    MetFree l (⟨"java/util/AbstractCollection", "<init>", "()V"⟩ : MethodName) (head1 (Jvm.Cond.code (⟨"java/util/AbstractCollection", "<init>", "()V"⟩ : MethodName) jdk_22_method_1_code 1 none :: ws) ({ frames := 1, cells := 0, slots := 0, locals := 12 } : Room)) (fun as_ U => as_ = #[(.ref a)] ∧ Z.Warmed39 U.vm ∧ U.heap = h0) (fun _ _ _ _ _ => True) (fun _ U o U' => ∃ v L, o = .returned v ∧ Q_own_acInit Z a h0 n0 v U'.heap L ∧ FrameEnd U o U' L ({ frames := 1, cells := 0, slots := 0, locals := 12 } : Room).cells ({ frames := 1, cells := 0, slots := 0, locals := 12 } : Room).slots) := by
  refine MetFree.of_bodySF (plainFor_of_name own_pn0) hisR ?_
  intro p e s m args below meth c s₁ Bd hml0 hP hK
  obtain ⟨rfl, hZ, hh⟩ := hP
  have hx := Bd.exec
  have hby := Bd.bytes
  have hml : c.maxLocals = 1 := hml0
  have hown : s.vm.findClass "java/util/AbstractCollection" = some m.cls := findClass_of_methodNamed Bd.named
  have hnm := (name_of_methodNamed Bd.named Bd.method).1
  have X0 : Stand p l e ({ frames := 1, cells := 0, slots := 0, locals := 12 } : Room) s m #[(.ref a)] below meth c s₁ [] 0 0 := Stand.of_body Bd
  have e0 : s₁.heap = h0 := by rw [← hh, Bd.state]; rfl
  have N0 := Fr.nil n0
  have K0 := Keep.refl h0 []
  show Go p e below (own_F s below (Q_own_acInit Z a h0 n0) ({ frames := 1, cells := 0, slots := 0, locals := 12 } : Room).cells ({ frames := 1, cells := 0, slots := 0, locals := 12 } : Room).slots) (s₁.setTop (entryFrame m #[(.ref a)] 1))
  rw [own_ef_own_acInit m a]
  refine Go.back (t' := (s₁.setTop (mkF m 1 #[.val (.ref a)] [(.ref a)]))) (fun u k => XS.aloadN X0.here hx rfl (hb hby own_d3_0) rfl rfl k) ?_
  obtain ⟨T1, X1, e1, st1⟩ := initO X0 hx hZ hown (hw _ (List.mem_of_getElem? (i := 29) rfl)) (hw _ (List.mem_of_getElem? (i := 30) rfl)) (hw _ (List.mem_of_getElem? (i := 31) rfl)) e0 (g := (mkF m 1 #[.val (.ref a)] [(.ref a)])) rfl (by rw [hml]; rfl) rfl (hb hby own_d3_1) (by decide) (W := 0) (by show 2 * 0 + _ ≤ _; exact Nat.le_of_eq rfl) (by decide)
  refine Go.back (t' := (T1.setTop (mkF m 4 #[.val (.ref a)] []))) st1 ?_
  obtain ⟨fs, hr, hrun, hended, hW, hsame⟩ := X1.leave (v := none) (fun _ => rfl)
  refine ⟨_, _, X1.returnOut hx Bd.returns (hb hby own_d3_4) hr, hrun, hended, _, _, rfl, ?_, ⟨_, rfl⟩, hW, hsame.mono (by decide) (by decide)⟩
  show Q_own_acInit Z a h0 n0 _ T1.heap _
  rw [e1]
  exact ⟨rfl, N0, rfl⟩
theorem own_pd0 : parseMethodDescriptor "()V" = some ⟨[], none⟩ := by decide +kernel
theorem own_pn1 : plainName "java/util/AbstractList" = true := by first | (simp [plainName, overriddenIn]; done) | decide +kernel
theorem own_d2_0 : decode jdk_39_method_1_code 0 = .ok (.aload_n 0, 1) := by decide +kernel
theorem own_d2_1 : decode jdk_39_method_1_code 1 = .ok (.invokespecial 1, 3) := by decide +kernel
theorem own_d2_4 : decode jdk_39_method_1_code 4 = .ok (.aload_n 0, 1) := by decide +kernel
theorem own_d2_5 : decode jdk_39_method_1_code 5 = .ok (.iconst 0, 1) := by decide +kernel
theorem own_d2_6 : decode jdk_39_method_1_code 6 = .ok (.putfield 7, 3) := by decide +kernel
theorem own_d2_9 : decode jdk_39_method_1_code 9 = .ok (.return_, 1) := by decide +kernel
theorem own_ef_own_abInit (m : MethodId) (x0 : Addr) : entryFrame m #[(.ref x0)] 1 = mkF m 0 #[.val (.ref x0)] [] := by first | (simp [entryFrame, mkF, argsToLocals, Value.category]; done) | rfl
def Q_own_abInit (Z : State) (a : Addr) (h0 : Heap) (n0 : Nat) (v : Option Value) (h : Heap) (L : List Loc) : Prop := v = none ∧ Fr n0 L ∧ Keep h0 h [a] ∧ Exa Z h a "java/util/ArrayList" ∧ Fld Z h a "java/util/ArrayList" "elementData" "[Ljava/lang/Object;" .null
set_option maxRecDepth 65536 in
set_option maxHeartbeats 40000000 in
theorem own_abInit (l : Launch) (Z : State) (a0 : Array Value) (hw : ∀ d ∈ tables_1, d.before a0 Z = true) (ws : List Jvm.Cond) (a : Addr) (h0 : Heap) (n0 : Nat) (Z0 : n0 ≤ h0.size) (E_a : Exa Z h0 a "java/util/ArrayList") (F_a_modCount : Fld Z h0 a "java/util/AbstractList" "modCount" "I" (.int (0 : Int32))) (F_a_elementData : Fld Z h0 a "java/util/ArrayList" "elementData" "[Ljava/lang/Object;" .null) (g_a : n0 ≤ a) :
    MetFree l (⟨"java/util/AbstractList", "<init>", "()V"⟩ : MethodName) (head1 (Jvm.Cond.code (⟨"java/util/AbstractList", "<init>", "()V"⟩ : MethodName) jdk_39_method_1_code 1 none :: ws) ({ frames := 2, cells := 0, slots := 0, locals := 24 } : Room)) (fun as_ U => as_ = #[(.ref a)] ∧ Z.Warmed39 U.vm ∧ U.heap = h0) (fun _ _ _ _ _ => True) (fun _ U o U' => ∃ v L, o = .returned v ∧ Q_own_abInit Z a h0 n0 v U'.heap L ∧ FrameEnd U o U' L ({ frames := 2, cells := 0, slots := 0, locals := 24 } : Room).cells ({ frames := 2, cells := 0, slots := 0, locals := 24 } : Room).slots) := by
  refine MetFree.of_bodySF (plainFor_of_name own_pn1) hisR ?_
  intro p e s m args below meth c s₁ Bd hml0 hP hK
  obtain ⟨rfl, hZ, hh⟩ := hP
  have hx := Bd.exec
  have hby := Bd.bytes
  have hml : c.maxLocals = 1 := hml0
  have hown : s.vm.findClass "java/util/AbstractList" = some m.cls := findClass_of_methodNamed Bd.named
  have hnm := (name_of_methodNamed Bd.named Bd.method).1
  have X0 : Stand p l e ({ frames := 2, cells := 0, slots := 0, locals := 24 } : Room) s m #[(.ref a)] below meth c s₁ [] 0 0 := Stand.of_body Bd
  have e0 : s₁.heap = h0 := by rw [← hh, Bd.state]; rfl
  have N0 := Fr.nil n0
  have K0 := Keep.refl h0 [a]
  show Go p e below (own_F s below (Q_own_abInit Z a h0 n0) ({ frames := 2, cells := 0, slots := 0, locals := 24 } : Room).cells ({ frames := 2, cells := 0, slots := 0, locals := 24 } : Room).slots) (s₁.setTop (entryFrame m #[(.ref a)] 1))
  rw [own_ef_own_abInit m a]
  refine Go.back (t' := (s₁.setTop (mkF m 1 #[.val (.ref a)] [(.ref a)]))) (fun u k => XS.aloadN X0.here hx rfl (hb hby own_d2_0) rfl rfl k) ?_
  obtain ⟨_, _, ⟨T1, L1, k1, n1⟩, -, X1, ⟨Lc1, hQ1, l1, y1, z1⟩, st1⟩ := X0.specialBack hx (y := (⟨"java/util/AbstractCollection", "<init>", "()V"⟩ : MethodName)) rfl hown (mvT hZ (hw _ (List.mem_of_getElem? (i := 23) rfl))) (mvT hZ (hw _ (List.mem_of_getElem? (i := 24) rfl))) (mvT hZ (hw _ (List.mem_of_getElem? (i := 28) rfl))) (by decide) (backOf (W := 0) (own_acInit l Z a0 hw [] a h0 n0 Z0 ) hZ (hw _ (List.mem_of_getElem? (i := 28) rfl)) (hw _ (List.mem_of_getElem? (i := 27) rfl)) (by decide) (by decide)) (g := (mkF m 1 #[.val (.ref a)] [(.ref a)])) rfl (by rw [hml]; rfl) (Steps.refl _) (a := a) (argsL := []) (rest := []) (lenOf own_pd0 rfl) rfl (by show 2 * 0 + _ ≤ _; exact Nat.le_of_eq rfl) (hb hby own_d2_1) (fun _ _ => ⟨rfl, e0, (by decide : 0 + 0 ≤ _), (by decide : 0 + 0 ≤ _)⟩)
  dsimp only [Pt.U, Pt.locs, Pt.cells, Pt.slots] at X1 l1 y1 z1 st1 hQ1
  subst l1 y1 z1
  obtain ⟨rfl, N1, e1⟩ := hQ1
  have NA1 := Fr.app N0 N1
  refine Go.back (t' := (T1.setTop (mkF m 4 #[.val (.ref a)] []))) (fun u k => st1.trans k) ?_
  refine Go.back (t' := (T1.setTop (mkF m 5 #[.val (.ref a)] [(.ref a)]))) (fun u k => XS.aloadN X1.here hx rfl (hb hby own_d2_4) rfl rfl k) ?_
  refine Go.back (t' := (T1.setTop (mkF m 6 #[.val (.ref a)] [(.int (0 : Int32)), (.ref a)]))) (fun u k => XT.iconstV X1.here hx rfl (0 : Int32) (hb hby own_d2_5) (by decide) k) ?_
  obtain ⟨T2, h2, X2, e2, W2, st2⟩ := putF X1 hx hZ hown (host := "") (Or.inl (hw _ (List.mem_of_getElem? (i := 32) rfl))) Via.refl e1 F_a_modCount E_a (Or.inl (hw _ (List.mem_of_getElem? (i := 33) rfl))) (hw _ (List.mem_of_getElem? (i := 12) rfl)) (ty := .int) (by decide) rfl rfl (g := (mkF m 6 #[.val (.ref a)] [(.int (0 : Int32)), (.ref a)])) rfl rfl (hb hby own_d2_6)
  have Z2 : n0 ≤ h2.size := Nat.le_trans Z0 (Keep.of_wr W2).1
  have K2 := K0.wr W2 (Or.inl (List.mem_of_getElem? (i := 0) rfl))
  have N2 := Fr.snoc X2 NA1 g_a
  have F2 := F_a_modCount.same W2
  refine Go.back (t' := (T2.setTop (mkF m 9 #[.val (.ref a)] []))) st2 ?_
  have f3 := (E_a.wr W2)
  have f4 := (F_a_elementData.other W2 (Or.inr (slot_ne (Or.inl (hw _ (List.mem_of_getElem? (i := 36) rfl))) (Or.inl (hw _ (List.mem_of_getElem? (i := 33) rfl))) (by decide) (t := (.array (.object "java/lang/Object"))) (t' := .int) (by decide) (by decide))))
  obtain ⟨fs, hr, hrun, hended, hW, hsame⟩ := X2.leave (v := none) (fun _ => rfl)
  refine ⟨_, _, X2.returnOut hx Bd.returns (hb hby own_d2_9) hr, hrun, hended, _, _, rfl, ?_, ⟨_, rfl⟩, hW, hsame.mono (by decide) (by decide)⟩
  show Q_own_abInit Z a h0 n0 _ T2.heap _
  rw [e2]
  exact ⟨rfl, N2, K2, f3, f4⟩
theorem own_pn2 : plainName "java/util/ArrayList" = true := by first | (simp [plainName, overriddenIn]; done) | decide +kernel
theorem own_d1_0 : decode jdk_38_method_2_code 0 = .ok (.aload_n 0, 1) := by decide +kernel
theorem own_d1_1 : decode jdk_38_method_2_code 1 = .ok (.invokespecial 1, 3) := by decide +kernel
theorem own_d1_4 : decode jdk_38_method_2_code 4 = .ok (.aload_n 0, 1) := by decide +kernel
theorem own_d1_5 : decode jdk_38_method_2_code 5 = .ok (.getstatic 39, 3) := by decide +kernel
theorem own_d1_8 : decode jdk_38_method_2_code 8 = .ok (.putfield 9, 3) := by decide +kernel
theorem own_d1_11 : decode jdk_38_method_2_code 11 = .ok (.return_, 1) := by decide +kernel
theorem own_ef_own_alInit (m : MethodId) (x0 : Addr) : entryFrame m #[(.ref x0)] 1 = mkF m 0 #[.val (.ref x0)] [] := by first | (simp [entryFrame, mkF, argsToLocals, Value.category]; done) | rfl
def Q_own_alInit (Z : State) (a : Addr) (wD : Addr) (h0 : Heap) (n0 : Nat) (v : Option Value) (h : Heap) (L : List Loc) : Prop := v = none ∧ Fr n0 L ∧ Keep h0 h [a] ∧ Exa Z h a "java/util/ArrayList"
set_option maxRecDepth 65536 in
set_option maxHeartbeats 40000000 in
theorem own_alInit (l : Launch) (Z : State) (a0 : Array Value) (hw : ∀ d ∈ tables_1, d.before a0 Z = true) (ws : List Jvm.Cond) (a : Addr) (wD : Addr) (h0 : Heap) (n0 : Nat) (Z0 : n0 ≤ h0.size) (E_a : Exa Z h0 a "java/util/ArrayList") (F_a_modCount : Fld Z h0 a "java/util/AbstractList" "modCount" "I" (.int (0 : Int32))) (F_a_elementData : Fld Z h0 a "java/util/ArrayList" "elementData" "[Ljava/lang/Object;" .null) (g_a : n0 ≤ a) (Old0 : Old Z n0 h0) (SD : Sta Z Z.heap "java/util/ArrayList" "DEFAULTCAPACITY_EMPTY_ELEMENTDATA" "[Ljava/lang/Object;" (.ref wD)) :
    MetFree l (⟨"java/util/ArrayList", "<init>", "()V"⟩ : MethodName) (head1 (Jvm.Cond.code (⟨"java/util/ArrayList", "<init>", "()V"⟩ : MethodName) jdk_38_method_2_code 1 none :: ws) ({ frames := 3, cells := 0, slots := 0, locals := 36 } : Room)) (fun as_ U => as_ = #[(.ref a)] ∧ Z.Warmed39 U.vm ∧ U.heap = h0) (fun _ _ _ _ _ => True) (fun _ U o U' => ∃ v L, o = .returned v ∧ Q_own_alInit Z a wD h0 n0 v U'.heap L ∧ FrameEnd U o U' L ({ frames := 3, cells := 0, slots := 0, locals := 36 } : Room).cells ({ frames := 3, cells := 0, slots := 0, locals := 36 } : Room).slots) := by
  refine MetFree.of_bodySF (plainFor_of_name own_pn2) hisR ?_
  intro p e s m args below meth c s₁ Bd hml0 hP hK
  obtain ⟨rfl, hZ, hh⟩ := hP
  have hx := Bd.exec
  have hby := Bd.bytes
  have hml : c.maxLocals = 1 := hml0
  have hown : s.vm.findClass "java/util/ArrayList" = some m.cls := findClass_of_methodNamed Bd.named
  have hnm := (name_of_methodNamed Bd.named Bd.method).1
  have X0 : Stand p l e ({ frames := 3, cells := 0, slots := 0, locals := 36 } : Room) s m #[(.ref a)] below meth c s₁ [] 0 0 := Stand.of_body Bd
  have e0 : s₁.heap = h0 := by rw [← hh, Bd.state]; rfl
  have N0 := Fr.nil n0
  have K0 := Keep.refl h0 [a]
  show Go p e below (own_F s below (Q_own_alInit Z a wD h0 n0) ({ frames := 3, cells := 0, slots := 0, locals := 36 } : Room).cells ({ frames := 3, cells := 0, slots := 0, locals := 36 } : Room).slots) (s₁.setTop (entryFrame m #[(.ref a)] 1))
  rw [own_ef_own_alInit m a]
  refine Go.back (t' := (s₁.setTop (mkF m 1 #[.val (.ref a)] [(.ref a)]))) (fun u k => XS.aloadN X0.here hx rfl (hb hby own_d1_0) rfl rfl k) ?_
  obtain ⟨_, _, ⟨T1, L1, k1, n1⟩, -, X1, ⟨Lc1, hQ1, l1, y1, z1⟩, st1⟩ := X0.specialBack hx (y := (⟨"java/util/AbstractList", "<init>", "()V"⟩ : MethodName)) rfl hown (mvT hZ (hw _ (List.mem_of_getElem? (i := 17) rfl))) (mvT hZ (hw _ (List.mem_of_getElem? (i := 18) rfl))) (mvT hZ (hw _ (List.mem_of_getElem? (i := 22) rfl))) (by decide) (backOf (W := 0) (own_abInit l Z a0 hw [] a h0 n0 Z0 E_a F_a_modCount F_a_elementData g_a) hZ (hw _ (List.mem_of_getElem? (i := 22) rfl)) (hw _ (List.mem_of_getElem? (i := 21) rfl)) (by decide) (by decide)) (g := (mkF m 1 #[.val (.ref a)] [(.ref a)])) rfl (by rw [hml]; rfl) (Steps.refl _) (a := a) (argsL := []) (rest := []) (lenOf own_pd0 rfl) rfl (by show 2 * 0 + _ ≤ _; exact Nat.le_of_eq rfl) (hb hby own_d1_1) (fun _ _ => ⟨rfl, e0, (by decide : 0 + 0 ≤ _), (by decide : 0 + 0 ≤ _)⟩)
  dsimp only [Pt.U, Pt.locs, Pt.cells, Pt.slots] at X1 l1 y1 z1 st1 hQ1
  subst l1 y1 z1
  obtain ⟨rfl, N1, Kc1, P1_0, P1_1⟩ := hQ1
  have NA1 := Fr.app N0 N1
  have Z1 : n0 ≤ T1.heap.size := Nat.le_trans Z0 Kc1.1
  have K1 := K0.trans Kc1 (allS (Or.inl (List.mem_of_getElem? (i := 0) rfl)) all0)
  have O1 := Old0.keep Kc1 (allS g_a all0)
  refine Go.back (t' := (T1.setTop (mkF m 4 #[.val (.ref a)] []))) (fun u k => st1.trans k) ?_
  refine Go.back (t' := (T1.setTop (mkF m 5 #[.val (.ref a)] [(.ref a)]))) (fun u k => XS.aloadN X1.here hx rfl (hb hby own_d1_4) rfl rfl k) ?_
  obtain ⟨T2, X2, e2, st2⟩ := getS2 X1 hx hZ hown (host := "") (Or.inl (hw _ (List.mem_of_getElem? (i := 34) rfl))) Via.refl rfl (SD.ext O1.2) (g := (mkF m 5 #[.val (.ref a)] [(.ref a)])) rfl (hb hby own_d1_5)
  refine Go.back (t' := (T2.setTop (mkF m 8 #[.val (.ref a)] [(.ref wD), (.ref a)]))) st2 ?_
  obtain ⟨T3, h3, X3, e3, W3, st3⟩ := putF X2 hx hZ hown (host := "") (Or.inl (hw _ (List.mem_of_getElem? (i := 35) rfl))) Via.refl e2 P1_1 P1_0 (Or.inl (hw _ (List.mem_of_getElem? (i := 36) rfl))) (hw _ (List.mem_of_getElem? (i := 12) rfl)) (ty := (.array (.object "java/lang/Object"))) (by decide) rfl rfl (g := (mkF m 8 #[.val (.ref a)] [(.ref wD), (.ref a)])) rfl rfl (hb hby own_d1_8)
  have Z3 : n0 ≤ h3.size := Nat.le_trans Z1 (Keep.of_wr W3).1
  have K3 := K1.wr W3 (Or.inl (List.mem_of_getElem? (i := 0) rfl))
  have N3 := Fr.snoc X3 NA1 g_a
  have O3 := O1.wr W3 g_a
  have F3 := P1_1.same W3
  refine Go.back (t' := (T3.setTop (mkF m 11 #[.val (.ref a)] []))) st3 ?_
  have f4 := (P1_0.wr W3)
  obtain ⟨fs, hr, hrun, hended, hW, hsame⟩ := X3.leave (v := none) (fun _ => rfl)
  refine ⟨_, _, X3.returnOut hx Bd.returns (hb hby own_d1_11) hr, hrun, hended, _, _, rfl, ?_, ⟨_, rfl⟩, hW, hsame.mono (by decide) (by decide)⟩
  show Q_own_alInit Z a wD h0 n0 _ T3.heap _
  rw [e3]
  exact ⟨rfl, N3, K3, f4⟩
theorem own_pn3 : plainName "com/example/persistutils/persistutils/engine/PostgresTables$Table" = true := by first | (simp [plainName, overriddenIn]; done) | decide +kernel
theorem own_d5_0 : decode prog_51_method_1_code 0 = .ok (.aload_n 0, 1) := by decide +kernel
theorem own_d5_1 : decode prog_51_method_1_code 1 = .ok (.invokespecial 3, 3) := by decide +kernel
theorem own_d5_4 : decode prog_51_method_1_code 4 = .ok (.aload_n 0, 1) := by decide +kernel
theorem own_d5_5 : decode prog_51_method_1_code 5 = .ok (.aload_n 1, 1) := by decide +kernel
theorem own_d5_6 : decode prog_51_method_1_code 6 = .ok (.putfield 9, 3) := by decide +kernel
theorem own_d5_9 : decode prog_51_method_1_code 9 = .ok (.aload_n 0, 1) := by decide +kernel
theorem own_d5_10 : decode prog_51_method_1_code 10 = .ok (.iload_n 2, 1) := by decide +kernel
theorem own_d5_11 : decode prog_51_method_1_code 11 = .ok (.putfield 15, 3) := by decide +kernel
theorem own_d5_14 : decode prog_51_method_1_code 14 = .ok (.aload_n 0, 1) := by decide +kernel
theorem own_d5_15 : decode prog_51_method_1_code 15 = .ok (.lload_n 3, 1) := by decide +kernel
theorem own_d5_16 : decode prog_51_method_1_code 16 = .ok (.putfield 19, 3) := by decide +kernel
theorem own_d5_19 : decode prog_51_method_1_code 19 = .ok (.aload_n 0, 1) := by decide +kernel
theorem own_d5_20 : decode prog_51_method_1_code 20 = .ok (.iload 5, 2) := by decide +kernel
theorem own_d5_22 : decode prog_51_method_1_code 22 = .ok (.putfield 23, 3) := by decide +kernel
theorem own_d5_25 : decode prog_51_method_1_code 25 = .ok (.aload_n 0, 1) := by decide +kernel
theorem own_d5_26 : decode prog_51_method_1_code 26 = .ok (.iload 6, 2) := by decide +kernel
theorem own_d5_28 : decode prog_51_method_1_code 28 = .ok (.putfield 26, 3) := by decide +kernel
theorem own_d5_31 : decode prog_51_method_1_code 31 = .ok (.aload_n 0, 1) := by decide +kernel
theorem own_d5_32 : decode prog_51_method_1_code 32 = .ok (.aload 7, 2) := by decide +kernel
theorem own_d5_34 : decode prog_51_method_1_code 34 = .ok (.putfield 30, 3) := by decide +kernel
theorem own_d5_37 : decode prog_51_method_1_code 37 = .ok (.aload_n 0, 1) := by decide +kernel
theorem own_d5_38 : decode prog_51_method_1_code 38 = .ok (.lload 8, 2) := by decide +kernel
theorem own_d5_40 : decode prog_51_method_1_code 40 = .ok (.putfield 34, 3) := by decide +kernel
theorem own_d5_43 : decode prog_51_method_1_code 43 = .ok (.aload_n 0, 1) := by decide +kernel
theorem own_d5_44 : decode prog_51_method_1_code 44 = .ok (.iload 10, 2) := by decide +kernel
theorem own_d5_46 : decode prog_51_method_1_code 46 = .ok (.putfield 37, 3) := by decide +kernel
theorem own_d5_49 : decode prog_51_method_1_code 49 = .ok (.aload_n 0, 1) := by decide +kernel
theorem own_d5_50 : decode prog_51_method_1_code 50 = .ok (.aload 11, 2) := by decide +kernel
theorem own_d5_52 : decode prog_51_method_1_code 52 = .ok (.putfield 40, 3) := by decide +kernel
theorem own_d5_55 : decode prog_51_method_1_code 55 = .ok (.aload_n 0, 1) := by decide +kernel
theorem own_d5_56 : decode prog_51_method_1_code 56 = .ok (.aload 12, 2) := by decide +kernel
theorem own_d5_58 : decode prog_51_method_1_code 58 = .ok (.putfield 43, 3) := by decide +kernel
theorem own_d5_61 : decode prog_51_method_1_code 61 = .ok (.aload_n 0, 1) := by decide +kernel
theorem own_d5_62 : decode prog_51_method_1_code 62 = .ok (.iload 13, 2) := by decide +kernel
theorem own_d5_64 : decode prog_51_method_1_code 64 = .ok (.putfield 46, 3) := by decide +kernel
theorem own_d5_67 : decode prog_51_method_1_code 67 = .ok (.aload_n 0, 1) := by decide +kernel
theorem own_d5_68 : decode prog_51_method_1_code 68 = .ok (.iload 14, 2) := by decide +kernel
theorem own_d5_70 : decode prog_51_method_1_code 70 = .ok (.putfield 49, 3) := by decide +kernel
theorem own_d5_73 : decode prog_51_method_1_code 73 = .ok (.return_, 1) := by decide +kernel
theorem own_ef_own_tbInit (m : MethodId) (x0 : Addr) (x1 : Addr) (x2 : Int32) (x3 : Int64) (x4 : Int32) (x5 : Int32) (x6 : Addr) (x7 : Int64) (x8 : Int32) (x9 : Addr) (x10 : Addr) (x11 : Int32) (x12 : Int32) : entryFrame m #[(.ref x0), (.ref x1), (.int x2), (.long x3), (.int x4), (.int x5), (.ref x6), (.long x7), (.int x8), (.ref x9), (.ref x10), (.int x11), (.int x12)] 15 = mkF m 0 #[.val (.ref x0), .val (.ref x1), .val (.int x2), .val (.long x3), .second, .val (.int x4), .val (.int x5), .val (.ref x6), .val (.long x7), .second, .val (.int x8), .val (.ref x9), .val (.ref x10), .val (.int x11), .val (.int x12)] [] := by first | (simp [entryFrame, mkF, argsToLocals, Value.category]; done) | rfl
def Q_own_tbInit (Z : State) (a : Addr) (sn : Addr) (zA : Int32) (qA : Int64) (zB : Int32) (pA : Int32) (lA : Addr) (qB : Int64) (zC : Int32) (lB : Addr) (lC : Addr) (pB : Int32) (zD : Int32) (h0 : Heap) (n0 : Nat) (v : Option Value) (h : Heap) (L : List Loc) : Prop := v = none ∧ Fr n0 L ∧ Keep h0 h [a] ∧ Exa Z h a "com/example/persistutils/persistutils/engine/PostgresTables$Table" ∧ Fld Z h a "com/example/persistutils/persistutils/engine/PostgresTables$Table" "triggerEvents" "I" (.int pA)
set_option maxRecDepth 65536 in
set_option maxHeartbeats 40000000 in
theorem own_tbInit (l : Launch) (Z : State) (a0 : Array Value) (hw : ∀ d ∈ tables_1, d.before a0 Z = true) (ws : List Jvm.Cond) (a : Addr) (sn : Addr) (zA : Int32) (qA : Int64) (zB : Int32) (pA : Int32) (lA : Addr) (qB : Int64) (zC : Int32) (lB : Addr) (lC : Addr) (pB : Int32) (zD : Int32) (h0 : Heap) (n0 : Nat) (Z0 : n0 ≤ h0.size) (E_a : Exa Z h0 a "com/example/persistutils/persistutils/engine/PostgresTables$Table") (F_a_name : Fld Z h0 a "com/example/persistutils/persistutils/engine/PostgresTables$Table" "name" "Ljava/lang/String;" .null) (F_a_ofAnExtension : Fld Z h0 a "com/example/persistutils/persistutils/engine/PostgresTables$Table" "ofAnExtension" "Z" (.int (0 : Int32))) (F_a_oid : Fld Z h0 a "com/example/persistutils/persistutils/engine/PostgresTables$Table" "oid" "J" (.long (0 : Int64))) (F_a_truncatable : Fld Z h0 a "com/example/persistutils/persistutils/engine/PostgresTables$Table" "truncatable" "Z" (.int (0 : Int32))) (F_a_triggerEvents : Fld Z h0 a "com/example/persistutils/persistutils/engine/PostgresTables$Table" "triggerEvents" "I" (.int (0 : Int32))) (F_a_referencing : Fld Z h0 a "com/example/persistutils/persistutils/engine/PostgresTables$Table" "referencing" "Ljava/util/List;" .null) (F_a_size : Fld Z h0 a "com/example/persistutils/persistutils/engine/PostgresTables$Table" "size" "J" (.long (0 : Int64))) (F_a_ruledOnDelete : Fld Z h0 a "com/example/persistutils/persistutils/engine/PostgresTables$Table" "ruledOnDelete" "Z" (.int (0 : Int32))) (F_a_partitionsElsewhere : Fld Z h0 a "com/example/persistutils/persistutils/engine/PostgresTables$Table" "partitionsElsewhere" "Ljava/util/List;" .null) (F_a_referencingUnindexed : Fld Z h0 a "com/example/persistutils/persistutils/engine/PostgresTables$Table" "referencingUnindexed" "Ljava/util/List;" .null) (F_a_indexes : Fld Z h0 a "com/example/persistutils/persistutils/engine/PostgresTables$Table" "indexes" "I" (.int (0 : Int32))) (F_a_toasted : Fld Z h0 a "com/example/persistutils/persistutils/engine/PostgresTables$Table" "toasted" "Z" (.int (0 : Int32))) (g_a : n0 ≤ a) (bit_zA : zA = 0 ∨ zA = 1) (bit_zB : zB = 0 ∨ zB = 1) (bit_zC : zC = 0 ∨ zC = 1) (bit_zD : zD = 0 ∨ zD = 1) :
    MetFree l (⟨"com/example/persistutils/persistutils/engine/PostgresTables$Table", "<init>", "(Ljava/lang/String;ZJZILjava/util/List;JZLjava/util/List;Ljava/util/List;IZ)V"⟩ : MethodName) (head1 (Jvm.Cond.code (⟨"com/example/persistutils/persistutils/engine/PostgresTables$Table", "<init>", "(Ljava/lang/String;ZJZILjava/util/List;JZLjava/util/List;Ljava/util/List;IZ)V"⟩ : MethodName) prog_51_method_1_code 15 none :: ws) ({ frames := 1, cells := 0, slots := 0, locals := 12 } : Room)) (fun as_ U => as_ = #[(.ref a), (.ref sn), (.int zA), (.long qA), (.int zB), (.int pA), (.ref lA), (.long qB), (.int zC), (.ref lB), (.ref lC), (.int pB), (.int zD)] ∧ Z.Warmed39 U.vm ∧ U.heap = h0) (fun _ _ _ _ _ => True) (fun _ U o U' => ∃ v L, o = .returned v ∧ Q_own_tbInit Z a sn zA qA zB pA lA qB zC lB lC pB zD h0 n0 v U'.heap L ∧ FrameEnd U o U' L ({ frames := 1, cells := 0, slots := 0, locals := 12 } : Room).cells ({ frames := 1, cells := 0, slots := 0, locals := 12 } : Room).slots) := by
  refine MetFree.of_bodySF (plainFor_of_name own_pn3) hisR ?_
  intro p e s m args below meth c s₁ Bd hml0 hP hK
  obtain ⟨rfl, hZ, hh⟩ := hP
  have hx := Bd.exec
  have hby := Bd.bytes
  have hml : c.maxLocals = 15 := hml0
  have hown : s.vm.findClass "com/example/persistutils/persistutils/engine/PostgresTables$Table" = some m.cls := findClass_of_methodNamed Bd.named
  have hnm := (name_of_methodNamed Bd.named Bd.method).1
  have X0 : Stand p l e ({ frames := 1, cells := 0, slots := 0, locals := 12 } : Room) s m #[(.ref a), (.ref sn), (.int zA), (.long qA), (.int zB), (.int pA), (.ref lA), (.long qB), (.int zC), (.ref lB), (.ref lC), (.int pB), (.int zD)] below meth c s₁ [] 0 0 := Stand.of_body Bd
  have e0 : s₁.heap = h0 := by rw [← hh, Bd.state]; rfl
  have N0 := Fr.nil n0
  have K0 := Keep.refl h0 [a]
  show Go p e below (own_F s below (Q_own_tbInit Z a sn zA qA zB pA lA qB zC lB lC pB zD h0 n0) ({ frames := 1, cells := 0, slots := 0, locals := 12 } : Room).cells ({ frames := 1, cells := 0, slots := 0, locals := 12 } : Room).slots) (s₁.setTop (entryFrame m #[(.ref a), (.ref sn), (.int zA), (.long qA), (.int zB), (.int pA), (.ref lA), (.long qB), (.int zC), (.ref lB), (.ref lC), (.int pB), (.int zD)] 15))
  rw [own_ef_own_tbInit m a sn zA qA zB pA lA qB zC lB lC pB zD]
  refine Go.back (t' := (s₁.setTop (mkF m 1 #[.val (.ref a), .val (.ref sn), .val (.int zA), .val (.long qA), .second, .val (.int zB), .val (.int pA), .val (.ref lA), .val (.long qB), .second, .val (.int zC), .val (.ref lB), .val (.ref lC), .val (.int pB), .val (.int zD)] [(.ref a)]))) (fun u k => XS.aloadN X0.here hx rfl (hb hby own_d5_0) rfl rfl k) ?_
  obtain ⟨T1, X1, e1, st1⟩ := initO X0 hx hZ hown (hw _ (List.mem_of_getElem? (i := 40) rfl)) (hw _ (List.mem_of_getElem? (i := 30) rfl)) (hw _ (List.mem_of_getElem? (i := 31) rfl)) e0 (g := (mkF m 1 #[.val (.ref a), .val (.ref sn), .val (.int zA), .val (.long qA), .second, .val (.int zB), .val (.int pA), .val (.ref lA), .val (.long qB), .second, .val (.int zC), .val (.ref lB), .val (.ref lC), .val (.int pB), .val (.int zD)] [(.ref a)])) rfl (by rw [hml]; rfl) rfl (hb hby own_d5_1) (by decide) (W := 0) (by show 2 * 0 + _ ≤ _; exact Nat.le_of_eq rfl) (by decide)
  refine Go.back (t' := (T1.setTop (mkF m 4 #[.val (.ref a), .val (.ref sn), .val (.int zA), .val (.long qA), .second, .val (.int zB), .val (.int pA), .val (.ref lA), .val (.long qB), .second, .val (.int zC), .val (.ref lB), .val (.ref lC), .val (.int pB), .val (.int zD)] []))) st1 ?_
  refine Go.back (t' := (T1.setTop (mkF m 5 #[.val (.ref a), .val (.ref sn), .val (.int zA), .val (.long qA), .second, .val (.int zB), .val (.int pA), .val (.ref lA), .val (.long qB), .second, .val (.int zC), .val (.ref lB), .val (.ref lC), .val (.int pB), .val (.int zD)] [(.ref a)]))) (fun u k => XS.aloadN X1.here hx rfl (hb hby own_d5_4) rfl rfl k) ?_
  refine Go.back (t' := (T1.setTop (mkF m 6 #[.val (.ref a), .val (.ref sn), .val (.int zA), .val (.long qA), .second, .val (.int zB), .val (.int pA), .val (.ref lA), .val (.long qB), .second, .val (.int zC), .val (.ref lB), .val (.ref lC), .val (.int pB), .val (.int zD)] [(.ref sn), (.ref a)]))) (fun u k => XS.aloadN X1.here hx rfl (hb hby own_d5_5) rfl rfl k) ?_
  obtain ⟨T2, h2, X2, e2, W2, st2⟩ := putF X1 hx hZ hown (host := "") (Or.inl (hw _ (List.mem_of_getElem? (i := 41) rfl))) Via.refl e1 F_a_name E_a (Or.inr ⟨(hw _ (List.mem_of_getElem? (i := 42) rfl)), rfl, hnm⟩) (hw _ (List.mem_of_getElem? (i := 1) rfl)) (ty := (.object "java/lang/String")) (by decide) rfl rfl (g := (mkF m 6 #[.val (.ref a), .val (.ref sn), .val (.int zA), .val (.long qA), .second, .val (.int zB), .val (.int pA), .val (.ref lA), .val (.long qB), .second, .val (.int zC), .val (.ref lB), .val (.ref lC), .val (.int pB), .val (.int zD)] [(.ref sn), (.ref a)])) rfl rfl (hb hby own_d5_6)
  have Z2 : n0 ≤ h2.size := Nat.le_trans Z0 (Keep.of_wr W2).1
  have K2 := K0.wr W2 (Or.inl (List.mem_of_getElem? (i := 0) rfl))
  have N2 := Fr.snoc X2 N0 g_a
  have F2 := F_a_name.same W2
  refine Go.back (t' := (T2.setTop (mkF m 9 #[.val (.ref a), .val (.ref sn), .val (.int zA), .val (.long qA), .second, .val (.int zB), .val (.int pA), .val (.ref lA), .val (.long qB), .second, .val (.int zC), .val (.ref lB), .val (.ref lC), .val (.int pB), .val (.int zD)] []))) st2 ?_
  refine Go.back (t' := (T2.setTop (mkF m 10 #[.val (.ref a), .val (.ref sn), .val (.int zA), .val (.long qA), .second, .val (.int zB), .val (.int pA), .val (.ref lA), .val (.long qB), .second, .val (.int zC), .val (.ref lB), .val (.ref lC), .val (.int pB), .val (.int zD)] [(.ref a)]))) (fun u k => XS.aloadN X2.here hx rfl (hb hby own_d5_9) rfl rfl k) ?_
  refine Go.back (t' := (T2.setTop (mkF m 11 #[.val (.ref a), .val (.ref sn), .val (.int zA), .val (.long qA), .second, .val (.int zB), .val (.int pA), .val (.ref lA), .val (.long qB), .second, .val (.int zC), .val (.ref lB), .val (.ref lC), .val (.int pB), .val (.int zD)] [(.int zA), (.ref a)]))) (fun u k => XS.iloadN X2.here hx rfl (hb hby own_d5_10) rfl k) ?_
  have f4 := (F_a_ofAnExtension.other W2 (Or.inr (slot_ne (Or.inr (hw _ (List.mem_of_getElem? (i := 44) rfl))) (Or.inr (hw _ (List.mem_of_getElem? (i := 42) rfl))) (by decide) (t := .boolean) (t' := (.object "java/lang/String")) (by decide) (by decide))))
  have f5 := (E_a.wr W2)
  obtain ⟨T3, h3, X3, e3, W3, st3⟩ := putFN X2 hx hZ hown (hw _ (List.mem_of_getElem? (i := 43) rfl)) Via.refl e2 f4 f5 (Or.inr ⟨(hw _ (List.mem_of_getElem? (i := 44) rfl)), rfl, hnm⟩) (hw _ (List.mem_of_getElem? (i := 1) rfl)) (ty := .boolean) (v' := (.int zA)) (by decide) (own_bit bit_zA).1 (own_bit bit_zA).2 (g := (mkF m 11 #[.val (.ref a), .val (.ref sn), .val (.int zA), .val (.long qA), .second, .val (.int zB), .val (.int pA), .val (.ref lA), .val (.long qB), .second, .val (.int zC), .val (.ref lB), .val (.ref lC), .val (.int pB), .val (.int zD)] [(.int zA), (.ref a)])) rfl rfl (hb hby own_d5_11)
  have Z3 : n0 ≤ h3.size := Nat.le_trans Z2 (Keep.of_wr W3).1
  have K3 := K2.wr W3 (Or.inl (List.mem_of_getElem? (i := 0) rfl))
  have N3 := Fr.snoc X3 N2 g_a
  have F3 := f4.same W3
  refine Go.back (t' := (T3.setTop (mkF m 14 #[.val (.ref a), .val (.ref sn), .val (.int zA), .val (.long qA), .second, .val (.int zB), .val (.int pA), .val (.ref lA), .val (.long qB), .second, .val (.int zC), .val (.ref lB), .val (.ref lC), .val (.int pB), .val (.int zD)] []))) st3 ?_
  refine Go.back (t' := (T3.setTop (mkF m 15 #[.val (.ref a), .val (.ref sn), .val (.int zA), .val (.long qA), .second, .val (.int zB), .val (.int pA), .val (.ref lA), .val (.long qB), .second, .val (.int zC), .val (.ref lB), .val (.ref lC), .val (.int pB), .val (.int zD)] [(.ref a)]))) (fun u k => XS.aloadN X3.here hx rfl (hb hby own_d5_14) rfl rfl k) ?_
  refine Go.back (t' := (T3.setTop (mkF m 16 #[.val (.ref a), .val (.ref sn), .val (.int zA), .val (.long qA), .second, .val (.int zB), .val (.int pA), .val (.ref lA), .val (.long qB), .second, .val (.int zC), .val (.ref lB), .val (.ref lC), .val (.int pB), .val (.int zD)] [(.long qA), (.ref a)]))) (fun u k => XT.lloadN X3.here hx rfl (hb hby own_d5_15) rfl k) ?_
  have f7 := ((F_a_oid.other W2 (Or.inr (slot_ne (Or.inr (hw _ (List.mem_of_getElem? (i := 46) rfl))) (Or.inr (hw _ (List.mem_of_getElem? (i := 42) rfl))) (by decide) (t := .long) (t' := (.object "java/lang/String")) (by decide) (by decide)))).other W3 (Or.inr (slot_ne (Or.inr (hw _ (List.mem_of_getElem? (i := 46) rfl))) (Or.inr (hw _ (List.mem_of_getElem? (i := 44) rfl))) (by decide) (t := .long) (t' := .boolean) (by decide) (by decide))))
  have f8 := (f5.wr W3)
  obtain ⟨T6, h6, X6, e6, W6, st6⟩ := putF X3 hx hZ hown (host := "") (Or.inl (hw _ (List.mem_of_getElem? (i := 45) rfl))) Via.refl e3 f7 f8 (Or.inr ⟨(hw _ (List.mem_of_getElem? (i := 46) rfl)), rfl, hnm⟩) (hw _ (List.mem_of_getElem? (i := 1) rfl)) (ty := .long) (by decide) rfl rfl (g := (mkF m 16 #[.val (.ref a), .val (.ref sn), .val (.int zA), .val (.long qA), .second, .val (.int zB), .val (.int pA), .val (.ref lA), .val (.long qB), .second, .val (.int zC), .val (.ref lB), .val (.ref lC), .val (.int pB), .val (.int zD)] [(.long qA), (.ref a)])) rfl rfl (hb hby own_d5_16)
  have Z6 : n0 ≤ h6.size := Nat.le_trans Z3 (Keep.of_wr W6).1
  have K6 := K3.wr W6 (Or.inl (List.mem_of_getElem? (i := 0) rfl))
  have N6 := Fr.snoc X6 N3 g_a
  have F6 := f7.same W6
  refine Go.back (t' := (T6.setTop (mkF m 19 #[.val (.ref a), .val (.ref sn), .val (.int zA), .val (.long qA), .second, .val (.int zB), .val (.int pA), .val (.ref lA), .val (.long qB), .second, .val (.int zC), .val (.ref lB), .val (.ref lC), .val (.int pB), .val (.int zD)] []))) st6 ?_
  refine Go.back (t' := (T6.setTop (mkF m 20 #[.val (.ref a), .val (.ref sn), .val (.int zA), .val (.long qA), .second, .val (.int zB), .val (.int pA), .val (.ref lA), .val (.long qB), .second, .val (.int zC), .val (.ref lB), .val (.ref lC), .val (.int pB), .val (.int zD)] [(.ref a)]))) (fun u k => XS.aloadN X6.here hx rfl (hb hby own_d5_19) rfl rfl k) ?_
  refine Go.back (t' := (T6.setTop (mkF m 22 #[.val (.ref a), .val (.ref sn), .val (.int zA), .val (.long qA), .second, .val (.int zB), .val (.int pA), .val (.ref lA), .val (.long qB), .second, .val (.int zC), .val (.ref lB), .val (.ref lC), .val (.int pB), .val (.int zD)] [(.int zB), (.ref a)]))) (fun u k => XS.iload X6.here hx rfl (hb hby own_d5_20) rfl k) ?_
  have f10 := (((F_a_truncatable.other W2 (Or.inr (slot_ne (Or.inr (hw _ (List.mem_of_getElem? (i := 48) rfl))) (Or.inr (hw _ (List.mem_of_getElem? (i := 42) rfl))) (by decide) (t := .boolean) (t' := (.object "java/lang/String")) (by decide) (by decide)))).other W3 (Or.inr (slot_ne (Or.inr (hw _ (List.mem_of_getElem? (i := 48) rfl))) (Or.inr (hw _ (List.mem_of_getElem? (i := 44) rfl))) (by decide) (t := .boolean) (t' := .boolean) (by decide) (by decide)))).other W6 (Or.inr (slot_ne (Or.inr (hw _ (List.mem_of_getElem? (i := 48) rfl))) (Or.inr (hw _ (List.mem_of_getElem? (i := 46) rfl))) (by decide) (t := .boolean) (t' := .long) (by decide) (by decide))))
  have f11 := (f8.wr W6)
  obtain ⟨T9, h9, X9, e9, W9, st9⟩ := putFN X6 hx hZ hown (hw _ (List.mem_of_getElem? (i := 47) rfl)) Via.refl e6 f10 f11 (Or.inr ⟨(hw _ (List.mem_of_getElem? (i := 48) rfl)), rfl, hnm⟩) (hw _ (List.mem_of_getElem? (i := 1) rfl)) (ty := .boolean) (v' := (.int zB)) (by decide) (own_bit bit_zB).1 (own_bit bit_zB).2 (g := (mkF m 22 #[.val (.ref a), .val (.ref sn), .val (.int zA), .val (.long qA), .second, .val (.int zB), .val (.int pA), .val (.ref lA), .val (.long qB), .second, .val (.int zC), .val (.ref lB), .val (.ref lC), .val (.int pB), .val (.int zD)] [(.int zB), (.ref a)])) rfl rfl (hb hby own_d5_22)
  have Z9 : n0 ≤ h9.size := Nat.le_trans Z6 (Keep.of_wr W9).1
  have K9 := K6.wr W9 (Or.inl (List.mem_of_getElem? (i := 0) rfl))
  have N9 := Fr.snoc X9 N6 g_a
  have F9 := f10.same W9
  refine Go.back (t' := (T9.setTop (mkF m 25 #[.val (.ref a), .val (.ref sn), .val (.int zA), .val (.long qA), .second, .val (.int zB), .val (.int pA), .val (.ref lA), .val (.long qB), .second, .val (.int zC), .val (.ref lB), .val (.ref lC), .val (.int pB), .val (.int zD)] []))) st9 ?_
  refine Go.back (t' := (T9.setTop (mkF m 26 #[.val (.ref a), .val (.ref sn), .val (.int zA), .val (.long qA), .second, .val (.int zB), .val (.int pA), .val (.ref lA), .val (.long qB), .second, .val (.int zC), .val (.ref lB), .val (.ref lC), .val (.int pB), .val (.int zD)] [(.ref a)]))) (fun u k => XS.aloadN X9.here hx rfl (hb hby own_d5_25) rfl rfl k) ?_
  refine Go.back (t' := (T9.setTop (mkF m 28 #[.val (.ref a), .val (.ref sn), .val (.int zA), .val (.long qA), .second, .val (.int zB), .val (.int pA), .val (.ref lA), .val (.long qB), .second, .val (.int zC), .val (.ref lB), .val (.ref lC), .val (.int pB), .val (.int zD)] [(.int pA), (.ref a)]))) (fun u k => XS.iload X9.here hx rfl (hb hby own_d5_26) rfl k) ?_
  have f13 := ((((F_a_triggerEvents.other W2 (Or.inr (slot_ne (Or.inr (hw _ (List.mem_of_getElem? (i := 50) rfl))) (Or.inr (hw _ (List.mem_of_getElem? (i := 42) rfl))) (by decide) (t := .int) (t' := (.object "java/lang/String")) (by decide) (by decide)))).other W3 (Or.inr (slot_ne (Or.inr (hw _ (List.mem_of_getElem? (i := 50) rfl))) (Or.inr (hw _ (List.mem_of_getElem? (i := 44) rfl))) (by decide) (t := .int) (t' := .boolean) (by decide) (by decide)))).other W6 (Or.inr (slot_ne (Or.inr (hw _ (List.mem_of_getElem? (i := 50) rfl))) (Or.inr (hw _ (List.mem_of_getElem? (i := 46) rfl))) (by decide) (t := .int) (t' := .long) (by decide) (by decide)))).other W9 (Or.inr (slot_ne (Or.inr (hw _ (List.mem_of_getElem? (i := 50) rfl))) (Or.inr (hw _ (List.mem_of_getElem? (i := 48) rfl))) (by decide) (t := .int) (t' := .boolean) (by decide) (by decide))))
  have f14 := (f11.wr W9)
  obtain ⟨T12, h12, X12, e12, W12, st12⟩ := putF X9 hx hZ hown (host := "") (Or.inl (hw _ (List.mem_of_getElem? (i := 49) rfl))) Via.refl e9 f13 f14 (Or.inr ⟨(hw _ (List.mem_of_getElem? (i := 50) rfl)), rfl, hnm⟩) (hw _ (List.mem_of_getElem? (i := 1) rfl)) (ty := .int) (by decide) rfl rfl (g := (mkF m 28 #[.val (.ref a), .val (.ref sn), .val (.int zA), .val (.long qA), .second, .val (.int zB), .val (.int pA), .val (.ref lA), .val (.long qB), .second, .val (.int zC), .val (.ref lB), .val (.ref lC), .val (.int pB), .val (.int zD)] [(.int pA), (.ref a)])) rfl rfl (hb hby own_d5_28)
  have Z12 : n0 ≤ h12.size := Nat.le_trans Z9 (Keep.of_wr W12).1
  have K12 := K9.wr W12 (Or.inl (List.mem_of_getElem? (i := 0) rfl))
  have N12 := Fr.snoc X12 N9 g_a
  have F12 := f13.same W12
  refine Go.back (t' := (T12.setTop (mkF m 31 #[.val (.ref a), .val (.ref sn), .val (.int zA), .val (.long qA), .second, .val (.int zB), .val (.int pA), .val (.ref lA), .val (.long qB), .second, .val (.int zC), .val (.ref lB), .val (.ref lC), .val (.int pB), .val (.int zD)] []))) st12 ?_
  refine Go.back (t' := (T12.setTop (mkF m 32 #[.val (.ref a), .val (.ref sn), .val (.int zA), .val (.long qA), .second, .val (.int zB), .val (.int pA), .val (.ref lA), .val (.long qB), .second, .val (.int zC), .val (.ref lB), .val (.ref lC), .val (.int pB), .val (.int zD)] [(.ref a)]))) (fun u k => XS.aloadN X12.here hx rfl (hb hby own_d5_31) rfl rfl k) ?_
  refine Go.back (t' := (T12.setTop (mkF m 34 #[.val (.ref a), .val (.ref sn), .val (.int zA), .val (.long qA), .second, .val (.int zB), .val (.int pA), .val (.ref lA), .val (.long qB), .second, .val (.int zC), .val (.ref lB), .val (.ref lC), .val (.int pB), .val (.int zD)] [(.ref lA), (.ref a)]))) (fun u k => XS.aload X12.here hx rfl (hb hby own_d5_32) rfl rfl k) ?_
  have f16 := (((((F_a_referencing.other W2 (Or.inr (slot_ne (Or.inr (hw _ (List.mem_of_getElem? (i := 52) rfl))) (Or.inr (hw _ (List.mem_of_getElem? (i := 42) rfl))) (by decide) (t := (.object "java/util/List")) (t' := (.object "java/lang/String")) (by decide) (by decide)))).other W3 (Or.inr (slot_ne (Or.inr (hw _ (List.mem_of_getElem? (i := 52) rfl))) (Or.inr (hw _ (List.mem_of_getElem? (i := 44) rfl))) (by decide) (t := (.object "java/util/List")) (t' := .boolean) (by decide) (by decide)))).other W6 (Or.inr (slot_ne (Or.inr (hw _ (List.mem_of_getElem? (i := 52) rfl))) (Or.inr (hw _ (List.mem_of_getElem? (i := 46) rfl))) (by decide) (t := (.object "java/util/List")) (t' := .long) (by decide) (by decide)))).other W9 (Or.inr (slot_ne (Or.inr (hw _ (List.mem_of_getElem? (i := 52) rfl))) (Or.inr (hw _ (List.mem_of_getElem? (i := 48) rfl))) (by decide) (t := (.object "java/util/List")) (t' := .boolean) (by decide) (by decide)))).other W12 (Or.inr (slot_ne (Or.inr (hw _ (List.mem_of_getElem? (i := 52) rfl))) (Or.inr (hw _ (List.mem_of_getElem? (i := 50) rfl))) (by decide) (t := (.object "java/util/List")) (t' := .int) (by decide) (by decide))))
  have f17 := (f14.wr W12)
  obtain ⟨T15, h15, X15, e15, W15, st15⟩ := putF X12 hx hZ hown (host := "") (Or.inl (hw _ (List.mem_of_getElem? (i := 51) rfl))) Via.refl e12 f16 f17 (Or.inr ⟨(hw _ (List.mem_of_getElem? (i := 52) rfl)), rfl, hnm⟩) (hw _ (List.mem_of_getElem? (i := 1) rfl)) (ty := (.object "java/util/List")) (by decide) rfl rfl (g := (mkF m 34 #[.val (.ref a), .val (.ref sn), .val (.int zA), .val (.long qA), .second, .val (.int zB), .val (.int pA), .val (.ref lA), .val (.long qB), .second, .val (.int zC), .val (.ref lB), .val (.ref lC), .val (.int pB), .val (.int zD)] [(.ref lA), (.ref a)])) rfl rfl (hb hby own_d5_34)
  have Z15 : n0 ≤ h15.size := Nat.le_trans Z12 (Keep.of_wr W15).1
  have K15 := K12.wr W15 (Or.inl (List.mem_of_getElem? (i := 0) rfl))
  have N15 := Fr.snoc X15 N12 g_a
  have F15 := f16.same W15
  refine Go.back (t' := (T15.setTop (mkF m 37 #[.val (.ref a), .val (.ref sn), .val (.int zA), .val (.long qA), .second, .val (.int zB), .val (.int pA), .val (.ref lA), .val (.long qB), .second, .val (.int zC), .val (.ref lB), .val (.ref lC), .val (.int pB), .val (.int zD)] []))) st15 ?_
  refine Go.back (t' := (T15.setTop (mkF m 38 #[.val (.ref a), .val (.ref sn), .val (.int zA), .val (.long qA), .second, .val (.int zB), .val (.int pA), .val (.ref lA), .val (.long qB), .second, .val (.int zC), .val (.ref lB), .val (.ref lC), .val (.int pB), .val (.int zD)] [(.ref a)]))) (fun u k => XS.aloadN X15.here hx rfl (hb hby own_d5_37) rfl rfl k) ?_
  refine Go.back (t' := (T15.setTop (mkF m 40 #[.val (.ref a), .val (.ref sn), .val (.int zA), .val (.long qA), .second, .val (.int zB), .val (.int pA), .val (.ref lA), .val (.long qB), .second, .val (.int zC), .val (.ref lB), .val (.ref lC), .val (.int pB), .val (.int zD)] [(.long qB), (.ref a)]))) (fun u k => XT.lload X15.here hx rfl (hb hby own_d5_38) rfl k) ?_
  have f19 := ((((((F_a_size.other W2 (Or.inr (slot_ne (Or.inr (hw _ (List.mem_of_getElem? (i := 54) rfl))) (Or.inr (hw _ (List.mem_of_getElem? (i := 42) rfl))) (by decide) (t := .long) (t' := (.object "java/lang/String")) (by decide) (by decide)))).other W3 (Or.inr (slot_ne (Or.inr (hw _ (List.mem_of_getElem? (i := 54) rfl))) (Or.inr (hw _ (List.mem_of_getElem? (i := 44) rfl))) (by decide) (t := .long) (t' := .boolean) (by decide) (by decide)))).other W6 (Or.inr (slot_ne (Or.inr (hw _ (List.mem_of_getElem? (i := 54) rfl))) (Or.inr (hw _ (List.mem_of_getElem? (i := 46) rfl))) (by decide) (t := .long) (t' := .long) (by decide) (by decide)))).other W9 (Or.inr (slot_ne (Or.inr (hw _ (List.mem_of_getElem? (i := 54) rfl))) (Or.inr (hw _ (List.mem_of_getElem? (i := 48) rfl))) (by decide) (t := .long) (t' := .boolean) (by decide) (by decide)))).other W12 (Or.inr (slot_ne (Or.inr (hw _ (List.mem_of_getElem? (i := 54) rfl))) (Or.inr (hw _ (List.mem_of_getElem? (i := 50) rfl))) (by decide) (t := .long) (t' := .int) (by decide) (by decide)))).other W15 (Or.inr (slot_ne (Or.inr (hw _ (List.mem_of_getElem? (i := 54) rfl))) (Or.inr (hw _ (List.mem_of_getElem? (i := 52) rfl))) (by decide) (t := .long) (t' := (.object "java/util/List")) (by decide) (by decide))))
  have f20 := (f17.wr W15)
  obtain ⟨T18, h18, X18, e18, W18, st18⟩ := putF X15 hx hZ hown (host := "") (Or.inl (hw _ (List.mem_of_getElem? (i := 53) rfl))) Via.refl e15 f19 f20 (Or.inr ⟨(hw _ (List.mem_of_getElem? (i := 54) rfl)), rfl, hnm⟩) (hw _ (List.mem_of_getElem? (i := 1) rfl)) (ty := .long) (by decide) rfl rfl (g := (mkF m 40 #[.val (.ref a), .val (.ref sn), .val (.int zA), .val (.long qA), .second, .val (.int zB), .val (.int pA), .val (.ref lA), .val (.long qB), .second, .val (.int zC), .val (.ref lB), .val (.ref lC), .val (.int pB), .val (.int zD)] [(.long qB), (.ref a)])) rfl rfl (hb hby own_d5_40)
  have Z18 : n0 ≤ h18.size := Nat.le_trans Z15 (Keep.of_wr W18).1
  have K18 := K15.wr W18 (Or.inl (List.mem_of_getElem? (i := 0) rfl))
  have N18 := Fr.snoc X18 N15 g_a
  have F18 := f19.same W18
  refine Go.back (t' := (T18.setTop (mkF m 43 #[.val (.ref a), .val (.ref sn), .val (.int zA), .val (.long qA), .second, .val (.int zB), .val (.int pA), .val (.ref lA), .val (.long qB), .second, .val (.int zC), .val (.ref lB), .val (.ref lC), .val (.int pB), .val (.int zD)] []))) st18 ?_
  refine Go.back (t' := (T18.setTop (mkF m 44 #[.val (.ref a), .val (.ref sn), .val (.int zA), .val (.long qA), .second, .val (.int zB), .val (.int pA), .val (.ref lA), .val (.long qB), .second, .val (.int zC), .val (.ref lB), .val (.ref lC), .val (.int pB), .val (.int zD)] [(.ref a)]))) (fun u k => XS.aloadN X18.here hx rfl (hb hby own_d5_43) rfl rfl k) ?_
  refine Go.back (t' := (T18.setTop (mkF m 46 #[.val (.ref a), .val (.ref sn), .val (.int zA), .val (.long qA), .second, .val (.int zB), .val (.int pA), .val (.ref lA), .val (.long qB), .second, .val (.int zC), .val (.ref lB), .val (.ref lC), .val (.int pB), .val (.int zD)] [(.int zC), (.ref a)]))) (fun u k => XS.iload X18.here hx rfl (hb hby own_d5_44) rfl k) ?_
  have f22 := (((((((F_a_ruledOnDelete.other W2 (Or.inr (slot_ne (Or.inr (hw _ (List.mem_of_getElem? (i := 56) rfl))) (Or.inr (hw _ (List.mem_of_getElem? (i := 42) rfl))) (by decide) (t := .boolean) (t' := (.object "java/lang/String")) (by decide) (by decide)))).other W3 (Or.inr (slot_ne (Or.inr (hw _ (List.mem_of_getElem? (i := 56) rfl))) (Or.inr (hw _ (List.mem_of_getElem? (i := 44) rfl))) (by decide) (t := .boolean) (t' := .boolean) (by decide) (by decide)))).other W6 (Or.inr (slot_ne (Or.inr (hw _ (List.mem_of_getElem? (i := 56) rfl))) (Or.inr (hw _ (List.mem_of_getElem? (i := 46) rfl))) (by decide) (t := .boolean) (t' := .long) (by decide) (by decide)))).other W9 (Or.inr (slot_ne (Or.inr (hw _ (List.mem_of_getElem? (i := 56) rfl))) (Or.inr (hw _ (List.mem_of_getElem? (i := 48) rfl))) (by decide) (t := .boolean) (t' := .boolean) (by decide) (by decide)))).other W12 (Or.inr (slot_ne (Or.inr (hw _ (List.mem_of_getElem? (i := 56) rfl))) (Or.inr (hw _ (List.mem_of_getElem? (i := 50) rfl))) (by decide) (t := .boolean) (t' := .int) (by decide) (by decide)))).other W15 (Or.inr (slot_ne (Or.inr (hw _ (List.mem_of_getElem? (i := 56) rfl))) (Or.inr (hw _ (List.mem_of_getElem? (i := 52) rfl))) (by decide) (t := .boolean) (t' := (.object "java/util/List")) (by decide) (by decide)))).other W18 (Or.inr (slot_ne (Or.inr (hw _ (List.mem_of_getElem? (i := 56) rfl))) (Or.inr (hw _ (List.mem_of_getElem? (i := 54) rfl))) (by decide) (t := .boolean) (t' := .long) (by decide) (by decide))))
  have f23 := (f20.wr W18)
  obtain ⟨T21, h21, X21, e21, W21, st21⟩ := putFN X18 hx hZ hown (hw _ (List.mem_of_getElem? (i := 55) rfl)) Via.refl e18 f22 f23 (Or.inr ⟨(hw _ (List.mem_of_getElem? (i := 56) rfl)), rfl, hnm⟩) (hw _ (List.mem_of_getElem? (i := 1) rfl)) (ty := .boolean) (v' := (.int zC)) (by decide) (own_bit bit_zC).1 (own_bit bit_zC).2 (g := (mkF m 46 #[.val (.ref a), .val (.ref sn), .val (.int zA), .val (.long qA), .second, .val (.int zB), .val (.int pA), .val (.ref lA), .val (.long qB), .second, .val (.int zC), .val (.ref lB), .val (.ref lC), .val (.int pB), .val (.int zD)] [(.int zC), (.ref a)])) rfl rfl (hb hby own_d5_46)
  have Z21 : n0 ≤ h21.size := Nat.le_trans Z18 (Keep.of_wr W21).1
  have K21 := K18.wr W21 (Or.inl (List.mem_of_getElem? (i := 0) rfl))
  have N21 := Fr.snoc X21 N18 g_a
  have F21 := f22.same W21
  refine Go.back (t' := (T21.setTop (mkF m 49 #[.val (.ref a), .val (.ref sn), .val (.int zA), .val (.long qA), .second, .val (.int zB), .val (.int pA), .val (.ref lA), .val (.long qB), .second, .val (.int zC), .val (.ref lB), .val (.ref lC), .val (.int pB), .val (.int zD)] []))) st21 ?_
  refine Go.back (t' := (T21.setTop (mkF m 50 #[.val (.ref a), .val (.ref sn), .val (.int zA), .val (.long qA), .second, .val (.int zB), .val (.int pA), .val (.ref lA), .val (.long qB), .second, .val (.int zC), .val (.ref lB), .val (.ref lC), .val (.int pB), .val (.int zD)] [(.ref a)]))) (fun u k => XS.aloadN X21.here hx rfl (hb hby own_d5_49) rfl rfl k) ?_
  refine Go.back (t' := (T21.setTop (mkF m 52 #[.val (.ref a), .val (.ref sn), .val (.int zA), .val (.long qA), .second, .val (.int zB), .val (.int pA), .val (.ref lA), .val (.long qB), .second, .val (.int zC), .val (.ref lB), .val (.ref lC), .val (.int pB), .val (.int zD)] [(.ref lB), (.ref a)]))) (fun u k => XS.aload X21.here hx rfl (hb hby own_d5_50) rfl rfl k) ?_
  have f25 := ((((((((F_a_partitionsElsewhere.other W2 (Or.inr (slot_ne (Or.inr (hw _ (List.mem_of_getElem? (i := 58) rfl))) (Or.inr (hw _ (List.mem_of_getElem? (i := 42) rfl))) (by decide) (t := (.object "java/util/List")) (t' := (.object "java/lang/String")) (by decide) (by decide)))).other W3 (Or.inr (slot_ne (Or.inr (hw _ (List.mem_of_getElem? (i := 58) rfl))) (Or.inr (hw _ (List.mem_of_getElem? (i := 44) rfl))) (by decide) (t := (.object "java/util/List")) (t' := .boolean) (by decide) (by decide)))).other W6 (Or.inr (slot_ne (Or.inr (hw _ (List.mem_of_getElem? (i := 58) rfl))) (Or.inr (hw _ (List.mem_of_getElem? (i := 46) rfl))) (by decide) (t := (.object "java/util/List")) (t' := .long) (by decide) (by decide)))).other W9 (Or.inr (slot_ne (Or.inr (hw _ (List.mem_of_getElem? (i := 58) rfl))) (Or.inr (hw _ (List.mem_of_getElem? (i := 48) rfl))) (by decide) (t := (.object "java/util/List")) (t' := .boolean) (by decide) (by decide)))).other W12 (Or.inr (slot_ne (Or.inr (hw _ (List.mem_of_getElem? (i := 58) rfl))) (Or.inr (hw _ (List.mem_of_getElem? (i := 50) rfl))) (by decide) (t := (.object "java/util/List")) (t' := .int) (by decide) (by decide)))).other W15 (Or.inr (slot_ne (Or.inr (hw _ (List.mem_of_getElem? (i := 58) rfl))) (Or.inr (hw _ (List.mem_of_getElem? (i := 52) rfl))) (by decide) (t := (.object "java/util/List")) (t' := (.object "java/util/List")) (by decide) (by decide)))).other W18 (Or.inr (slot_ne (Or.inr (hw _ (List.mem_of_getElem? (i := 58) rfl))) (Or.inr (hw _ (List.mem_of_getElem? (i := 54) rfl))) (by decide) (t := (.object "java/util/List")) (t' := .long) (by decide) (by decide)))).other W21 (Or.inr (slot_ne (Or.inr (hw _ (List.mem_of_getElem? (i := 58) rfl))) (Or.inr (hw _ (List.mem_of_getElem? (i := 56) rfl))) (by decide) (t := (.object "java/util/List")) (t' := .boolean) (by decide) (by decide))))
  have f26 := (f23.wr W21)
  obtain ⟨T24, h24, X24, e24, W24, st24⟩ := putF X21 hx hZ hown (host := "") (Or.inl (hw _ (List.mem_of_getElem? (i := 57) rfl))) Via.refl e21 f25 f26 (Or.inr ⟨(hw _ (List.mem_of_getElem? (i := 58) rfl)), rfl, hnm⟩) (hw _ (List.mem_of_getElem? (i := 1) rfl)) (ty := (.object "java/util/List")) (by decide) rfl rfl (g := (mkF m 52 #[.val (.ref a), .val (.ref sn), .val (.int zA), .val (.long qA), .second, .val (.int zB), .val (.int pA), .val (.ref lA), .val (.long qB), .second, .val (.int zC), .val (.ref lB), .val (.ref lC), .val (.int pB), .val (.int zD)] [(.ref lB), (.ref a)])) rfl rfl (hb hby own_d5_52)
  have Z24 : n0 ≤ h24.size := Nat.le_trans Z21 (Keep.of_wr W24).1
  have K24 := K21.wr W24 (Or.inl (List.mem_of_getElem? (i := 0) rfl))
  have N24 := Fr.snoc X24 N21 g_a
  have F24 := f25.same W24
  refine Go.back (t' := (T24.setTop (mkF m 55 #[.val (.ref a), .val (.ref sn), .val (.int zA), .val (.long qA), .second, .val (.int zB), .val (.int pA), .val (.ref lA), .val (.long qB), .second, .val (.int zC), .val (.ref lB), .val (.ref lC), .val (.int pB), .val (.int zD)] []))) st24 ?_
  refine Go.back (t' := (T24.setTop (mkF m 56 #[.val (.ref a), .val (.ref sn), .val (.int zA), .val (.long qA), .second, .val (.int zB), .val (.int pA), .val (.ref lA), .val (.long qB), .second, .val (.int zC), .val (.ref lB), .val (.ref lC), .val (.int pB), .val (.int zD)] [(.ref a)]))) (fun u k => XS.aloadN X24.here hx rfl (hb hby own_d5_55) rfl rfl k) ?_
  refine Go.back (t' := (T24.setTop (mkF m 58 #[.val (.ref a), .val (.ref sn), .val (.int zA), .val (.long qA), .second, .val (.int zB), .val (.int pA), .val (.ref lA), .val (.long qB), .second, .val (.int zC), .val (.ref lB), .val (.ref lC), .val (.int pB), .val (.int zD)] [(.ref lC), (.ref a)]))) (fun u k => XS.aload X24.here hx rfl (hb hby own_d5_56) rfl rfl k) ?_
  have f28 := (((((((((F_a_referencingUnindexed.other W2 (Or.inr (slot_ne (Or.inr (hw _ (List.mem_of_getElem? (i := 60) rfl))) (Or.inr (hw _ (List.mem_of_getElem? (i := 42) rfl))) (by decide) (t := (.object "java/util/List")) (t' := (.object "java/lang/String")) (by decide) (by decide)))).other W3 (Or.inr (slot_ne (Or.inr (hw _ (List.mem_of_getElem? (i := 60) rfl))) (Or.inr (hw _ (List.mem_of_getElem? (i := 44) rfl))) (by decide) (t := (.object "java/util/List")) (t' := .boolean) (by decide) (by decide)))).other W6 (Or.inr (slot_ne (Or.inr (hw _ (List.mem_of_getElem? (i := 60) rfl))) (Or.inr (hw _ (List.mem_of_getElem? (i := 46) rfl))) (by decide) (t := (.object "java/util/List")) (t' := .long) (by decide) (by decide)))).other W9 (Or.inr (slot_ne (Or.inr (hw _ (List.mem_of_getElem? (i := 60) rfl))) (Or.inr (hw _ (List.mem_of_getElem? (i := 48) rfl))) (by decide) (t := (.object "java/util/List")) (t' := .boolean) (by decide) (by decide)))).other W12 (Or.inr (slot_ne (Or.inr (hw _ (List.mem_of_getElem? (i := 60) rfl))) (Or.inr (hw _ (List.mem_of_getElem? (i := 50) rfl))) (by decide) (t := (.object "java/util/List")) (t' := .int) (by decide) (by decide)))).other W15 (Or.inr (slot_ne (Or.inr (hw _ (List.mem_of_getElem? (i := 60) rfl))) (Or.inr (hw _ (List.mem_of_getElem? (i := 52) rfl))) (by decide) (t := (.object "java/util/List")) (t' := (.object "java/util/List")) (by decide) (by decide)))).other W18 (Or.inr (slot_ne (Or.inr (hw _ (List.mem_of_getElem? (i := 60) rfl))) (Or.inr (hw _ (List.mem_of_getElem? (i := 54) rfl))) (by decide) (t := (.object "java/util/List")) (t' := .long) (by decide) (by decide)))).other W21 (Or.inr (slot_ne (Or.inr (hw _ (List.mem_of_getElem? (i := 60) rfl))) (Or.inr (hw _ (List.mem_of_getElem? (i := 56) rfl))) (by decide) (t := (.object "java/util/List")) (t' := .boolean) (by decide) (by decide)))).other W24 (Or.inr (slot_ne (Or.inr (hw _ (List.mem_of_getElem? (i := 60) rfl))) (Or.inr (hw _ (List.mem_of_getElem? (i := 58) rfl))) (by decide) (t := (.object "java/util/List")) (t' := (.object "java/util/List")) (by decide) (by decide))))
  have f29 := (f26.wr W24)
  obtain ⟨T27, h27, X27, e27, W27, st27⟩ := putF X24 hx hZ hown (host := "") (Or.inl (hw _ (List.mem_of_getElem? (i := 59) rfl))) Via.refl e24 f28 f29 (Or.inr ⟨(hw _ (List.mem_of_getElem? (i := 60) rfl)), rfl, hnm⟩) (hw _ (List.mem_of_getElem? (i := 1) rfl)) (ty := (.object "java/util/List")) (by decide) rfl rfl (g := (mkF m 58 #[.val (.ref a), .val (.ref sn), .val (.int zA), .val (.long qA), .second, .val (.int zB), .val (.int pA), .val (.ref lA), .val (.long qB), .second, .val (.int zC), .val (.ref lB), .val (.ref lC), .val (.int pB), .val (.int zD)] [(.ref lC), (.ref a)])) rfl rfl (hb hby own_d5_58)
  have Z27 : n0 ≤ h27.size := Nat.le_trans Z24 (Keep.of_wr W27).1
  have K27 := K24.wr W27 (Or.inl (List.mem_of_getElem? (i := 0) rfl))
  have N27 := Fr.snoc X27 N24 g_a
  have F27 := f28.same W27
  refine Go.back (t' := (T27.setTop (mkF m 61 #[.val (.ref a), .val (.ref sn), .val (.int zA), .val (.long qA), .second, .val (.int zB), .val (.int pA), .val (.ref lA), .val (.long qB), .second, .val (.int zC), .val (.ref lB), .val (.ref lC), .val (.int pB), .val (.int zD)] []))) st27 ?_
  refine Go.back (t' := (T27.setTop (mkF m 62 #[.val (.ref a), .val (.ref sn), .val (.int zA), .val (.long qA), .second, .val (.int zB), .val (.int pA), .val (.ref lA), .val (.long qB), .second, .val (.int zC), .val (.ref lB), .val (.ref lC), .val (.int pB), .val (.int zD)] [(.ref a)]))) (fun u k => XS.aloadN X27.here hx rfl (hb hby own_d5_61) rfl rfl k) ?_
  refine Go.back (t' := (T27.setTop (mkF m 64 #[.val (.ref a), .val (.ref sn), .val (.int zA), .val (.long qA), .second, .val (.int zB), .val (.int pA), .val (.ref lA), .val (.long qB), .second, .val (.int zC), .val (.ref lB), .val (.ref lC), .val (.int pB), .val (.int zD)] [(.int pB), (.ref a)]))) (fun u k => XS.iload X27.here hx rfl (hb hby own_d5_62) rfl k) ?_
  have f31 := ((((((((((F_a_indexes.other W2 (Or.inr (slot_ne (Or.inr (hw _ (List.mem_of_getElem? (i := 62) rfl))) (Or.inr (hw _ (List.mem_of_getElem? (i := 42) rfl))) (by decide) (t := .int) (t' := (.object "java/lang/String")) (by decide) (by decide)))).other W3 (Or.inr (slot_ne (Or.inr (hw _ (List.mem_of_getElem? (i := 62) rfl))) (Or.inr (hw _ (List.mem_of_getElem? (i := 44) rfl))) (by decide) (t := .int) (t' := .boolean) (by decide) (by decide)))).other W6 (Or.inr (slot_ne (Or.inr (hw _ (List.mem_of_getElem? (i := 62) rfl))) (Or.inr (hw _ (List.mem_of_getElem? (i := 46) rfl))) (by decide) (t := .int) (t' := .long) (by decide) (by decide)))).other W9 (Or.inr (slot_ne (Or.inr (hw _ (List.mem_of_getElem? (i := 62) rfl))) (Or.inr (hw _ (List.mem_of_getElem? (i := 48) rfl))) (by decide) (t := .int) (t' := .boolean) (by decide) (by decide)))).other W12 (Or.inr (slot_ne (Or.inr (hw _ (List.mem_of_getElem? (i := 62) rfl))) (Or.inr (hw _ (List.mem_of_getElem? (i := 50) rfl))) (by decide) (t := .int) (t' := .int) (by decide) (by decide)))).other W15 (Or.inr (slot_ne (Or.inr (hw _ (List.mem_of_getElem? (i := 62) rfl))) (Or.inr (hw _ (List.mem_of_getElem? (i := 52) rfl))) (by decide) (t := .int) (t' := (.object "java/util/List")) (by decide) (by decide)))).other W18 (Or.inr (slot_ne (Or.inr (hw _ (List.mem_of_getElem? (i := 62) rfl))) (Or.inr (hw _ (List.mem_of_getElem? (i := 54) rfl))) (by decide) (t := .int) (t' := .long) (by decide) (by decide)))).other W21 (Or.inr (slot_ne (Or.inr (hw _ (List.mem_of_getElem? (i := 62) rfl))) (Or.inr (hw _ (List.mem_of_getElem? (i := 56) rfl))) (by decide) (t := .int) (t' := .boolean) (by decide) (by decide)))).other W24 (Or.inr (slot_ne (Or.inr (hw _ (List.mem_of_getElem? (i := 62) rfl))) (Or.inr (hw _ (List.mem_of_getElem? (i := 58) rfl))) (by decide) (t := .int) (t' := (.object "java/util/List")) (by decide) (by decide)))).other W27 (Or.inr (slot_ne (Or.inr (hw _ (List.mem_of_getElem? (i := 62) rfl))) (Or.inr (hw _ (List.mem_of_getElem? (i := 60) rfl))) (by decide) (t := .int) (t' := (.object "java/util/List")) (by decide) (by decide))))
  have f32 := (f29.wr W27)
  obtain ⟨T30, h30, X30, e30, W30, st30⟩ := putF X27 hx hZ hown (host := "") (Or.inl (hw _ (List.mem_of_getElem? (i := 61) rfl))) Via.refl e27 f31 f32 (Or.inr ⟨(hw _ (List.mem_of_getElem? (i := 62) rfl)), rfl, hnm⟩) (hw _ (List.mem_of_getElem? (i := 1) rfl)) (ty := .int) (by decide) rfl rfl (g := (mkF m 64 #[.val (.ref a), .val (.ref sn), .val (.int zA), .val (.long qA), .second, .val (.int zB), .val (.int pA), .val (.ref lA), .val (.long qB), .second, .val (.int zC), .val (.ref lB), .val (.ref lC), .val (.int pB), .val (.int zD)] [(.int pB), (.ref a)])) rfl rfl (hb hby own_d5_64)
  have Z30 : n0 ≤ h30.size := Nat.le_trans Z27 (Keep.of_wr W30).1
  have K30 := K27.wr W30 (Or.inl (List.mem_of_getElem? (i := 0) rfl))
  have N30 := Fr.snoc X30 N27 g_a
  have F30 := f31.same W30
  refine Go.back (t' := (T30.setTop (mkF m 67 #[.val (.ref a), .val (.ref sn), .val (.int zA), .val (.long qA), .second, .val (.int zB), .val (.int pA), .val (.ref lA), .val (.long qB), .second, .val (.int zC), .val (.ref lB), .val (.ref lC), .val (.int pB), .val (.int zD)] []))) st30 ?_
  refine Go.back (t' := (T30.setTop (mkF m 68 #[.val (.ref a), .val (.ref sn), .val (.int zA), .val (.long qA), .second, .val (.int zB), .val (.int pA), .val (.ref lA), .val (.long qB), .second, .val (.int zC), .val (.ref lB), .val (.ref lC), .val (.int pB), .val (.int zD)] [(.ref a)]))) (fun u k => XS.aloadN X30.here hx rfl (hb hby own_d5_67) rfl rfl k) ?_
  refine Go.back (t' := (T30.setTop (mkF m 70 #[.val (.ref a), .val (.ref sn), .val (.int zA), .val (.long qA), .second, .val (.int zB), .val (.int pA), .val (.ref lA), .val (.long qB), .second, .val (.int zC), .val (.ref lB), .val (.ref lC), .val (.int pB), .val (.int zD)] [(.int zD), (.ref a)]))) (fun u k => XS.iload X30.here hx rfl (hb hby own_d5_68) rfl k) ?_
  have f34 := (((((((((((F_a_toasted.other W2 (Or.inr (slot_ne (Or.inr (hw _ (List.mem_of_getElem? (i := 64) rfl))) (Or.inr (hw _ (List.mem_of_getElem? (i := 42) rfl))) (by decide) (t := .boolean) (t' := (.object "java/lang/String")) (by decide) (by decide)))).other W3 (Or.inr (slot_ne (Or.inr (hw _ (List.mem_of_getElem? (i := 64) rfl))) (Or.inr (hw _ (List.mem_of_getElem? (i := 44) rfl))) (by decide) (t := .boolean) (t' := .boolean) (by decide) (by decide)))).other W6 (Or.inr (slot_ne (Or.inr (hw _ (List.mem_of_getElem? (i := 64) rfl))) (Or.inr (hw _ (List.mem_of_getElem? (i := 46) rfl))) (by decide) (t := .boolean) (t' := .long) (by decide) (by decide)))).other W9 (Or.inr (slot_ne (Or.inr (hw _ (List.mem_of_getElem? (i := 64) rfl))) (Or.inr (hw _ (List.mem_of_getElem? (i := 48) rfl))) (by decide) (t := .boolean) (t' := .boolean) (by decide) (by decide)))).other W12 (Or.inr (slot_ne (Or.inr (hw _ (List.mem_of_getElem? (i := 64) rfl))) (Or.inr (hw _ (List.mem_of_getElem? (i := 50) rfl))) (by decide) (t := .boolean) (t' := .int) (by decide) (by decide)))).other W15 (Or.inr (slot_ne (Or.inr (hw _ (List.mem_of_getElem? (i := 64) rfl))) (Or.inr (hw _ (List.mem_of_getElem? (i := 52) rfl))) (by decide) (t := .boolean) (t' := (.object "java/util/List")) (by decide) (by decide)))).other W18 (Or.inr (slot_ne (Or.inr (hw _ (List.mem_of_getElem? (i := 64) rfl))) (Or.inr (hw _ (List.mem_of_getElem? (i := 54) rfl))) (by decide) (t := .boolean) (t' := .long) (by decide) (by decide)))).other W21 (Or.inr (slot_ne (Or.inr (hw _ (List.mem_of_getElem? (i := 64) rfl))) (Or.inr (hw _ (List.mem_of_getElem? (i := 56) rfl))) (by decide) (t := .boolean) (t' := .boolean) (by decide) (by decide)))).other W24 (Or.inr (slot_ne (Or.inr (hw _ (List.mem_of_getElem? (i := 64) rfl))) (Or.inr (hw _ (List.mem_of_getElem? (i := 58) rfl))) (by decide) (t := .boolean) (t' := (.object "java/util/List")) (by decide) (by decide)))).other W27 (Or.inr (slot_ne (Or.inr (hw _ (List.mem_of_getElem? (i := 64) rfl))) (Or.inr (hw _ (List.mem_of_getElem? (i := 60) rfl))) (by decide) (t := .boolean) (t' := (.object "java/util/List")) (by decide) (by decide)))).other W30 (Or.inr (slot_ne (Or.inr (hw _ (List.mem_of_getElem? (i := 64) rfl))) (Or.inr (hw _ (List.mem_of_getElem? (i := 62) rfl))) (by decide) (t := .boolean) (t' := .int) (by decide) (by decide))))
  have f35 := (f32.wr W30)
  obtain ⟨T33, h33, X33, e33, W33, st33⟩ := putFN X30 hx hZ hown (hw _ (List.mem_of_getElem? (i := 63) rfl)) Via.refl e30 f34 f35 (Or.inr ⟨(hw _ (List.mem_of_getElem? (i := 64) rfl)), rfl, hnm⟩) (hw _ (List.mem_of_getElem? (i := 1) rfl)) (ty := .boolean) (v' := (.int zD)) (by decide) (own_bit bit_zD).1 (own_bit bit_zD).2 (g := (mkF m 70 #[.val (.ref a), .val (.ref sn), .val (.int zA), .val (.long qA), .second, .val (.int zB), .val (.int pA), .val (.ref lA), .val (.long qB), .second, .val (.int zC), .val (.ref lB), .val (.ref lC), .val (.int pB), .val (.int zD)] [(.int zD), (.ref a)])) rfl rfl (hb hby own_d5_70)
  have Z33 : n0 ≤ h33.size := Nat.le_trans Z30 (Keep.of_wr W33).1
  have K33 := K30.wr W33 (Or.inl (List.mem_of_getElem? (i := 0) rfl))
  have N33 := Fr.snoc X33 N30 g_a
  have F33 := f34.same W33
  refine Go.back (t' := (T33.setTop (mkF m 73 #[.val (.ref a), .val (.ref sn), .val (.int zA), .val (.long qA), .second, .val (.int zB), .val (.int pA), .val (.ref lA), .val (.long qB), .second, .val (.int zC), .val (.ref lB), .val (.ref lC), .val (.int pB), .val (.int zD)] []))) st33 ?_
  have f36 := (f35.wr W33)
  have f37 := (((((((F12.other W15 (Or.inr (slot_ne (Or.inr (hw _ (List.mem_of_getElem? (i := 50) rfl))) (Or.inr (hw _ (List.mem_of_getElem? (i := 52) rfl))) (by decide) (t := .int) (t' := (.object "java/util/List")) (by decide) (by decide)))).other W18 (Or.inr (slot_ne (Or.inr (hw _ (List.mem_of_getElem? (i := 50) rfl))) (Or.inr (hw _ (List.mem_of_getElem? (i := 54) rfl))) (by decide) (t := .int) (t' := .long) (by decide) (by decide)))).other W21 (Or.inr (slot_ne (Or.inr (hw _ (List.mem_of_getElem? (i := 50) rfl))) (Or.inr (hw _ (List.mem_of_getElem? (i := 56) rfl))) (by decide) (t := .int) (t' := .boolean) (by decide) (by decide)))).other W24 (Or.inr (slot_ne (Or.inr (hw _ (List.mem_of_getElem? (i := 50) rfl))) (Or.inr (hw _ (List.mem_of_getElem? (i := 58) rfl))) (by decide) (t := .int) (t' := (.object "java/util/List")) (by decide) (by decide)))).other W27 (Or.inr (slot_ne (Or.inr (hw _ (List.mem_of_getElem? (i := 50) rfl))) (Or.inr (hw _ (List.mem_of_getElem? (i := 60) rfl))) (by decide) (t := .int) (t' := (.object "java/util/List")) (by decide) (by decide)))).other W30 (Or.inr (slot_ne (Or.inr (hw _ (List.mem_of_getElem? (i := 50) rfl))) (Or.inr (hw _ (List.mem_of_getElem? (i := 62) rfl))) (by decide) (t := .int) (t' := .int) (by decide) (by decide)))).other W33 (Or.inr (slot_ne (Or.inr (hw _ (List.mem_of_getElem? (i := 50) rfl))) (Or.inr (hw _ (List.mem_of_getElem? (i := 64) rfl))) (by decide) (t := .int) (t' := .boolean) (by decide) (by decide))))
  obtain ⟨fs, hr, hrun, hended, hW, hsame⟩ := X33.leave (v := none) (fun _ => rfl)
  refine ⟨_, _, X33.returnOut hx Bd.returns (hb hby own_d5_73) hr, hrun, hended, _, _, rfl, ?_, ⟨_, rfl⟩, hW, hsame.mono (by decide) (by decide)⟩
  show Q_own_tbInit Z a sn zA qA zB pA lA qB zC lB lC pB zD h0 n0 _ T33.heap _
  rw [e33]
  exact ⟨rfl, N33, K33, f36, f37⟩
def F_del (w : Int32) : Int32 := if (w &&& (8 : Int32)) = (0 : Int32) then (0 : Int32) else (1 : Int32)
theorem own_d6_0 : decode prog_51_method_5_code 0 = .ok (.aload_n 0, 1) := by decide +kernel
theorem own_d6_1 : decode prog_51_method_5_code 1 = .ok (.getfield 26, 3) := by decide +kernel
theorem own_d6_4 : decode prog_51_method_5_code 4 = .ok (.bipush 8, 2) := by decide +kernel
theorem own_d6_6 : decode prog_51_method_5_code 6 = .ok (.iand, 1) := by decide +kernel
theorem own_d6_7 : decode prog_51_method_5_code 7 = .ok (.ifCond .eq 7, 3) := by decide +kernel
theorem own_d6_10 : decode prog_51_method_5_code 10 = .ok (.iconst 1, 1) := by decide +kernel
theorem own_d6_11 : decode prog_51_method_5_code 11 = .ok (.goto 4, 3) := by decide +kernel
theorem own_d6_14 : decode prog_51_method_5_code 14 = .ok (.iconst 0, 1) := by decide +kernel
theorem own_d6_15 : decode prog_51_method_5_code 15 = .ok (.ireturn, 1) := by decide +kernel
theorem own_ef_own_del (m : MethodId) (x0 : Addr) : entryFrame m #[(.ref x0)] 1 = mkF m 0 #[.val (.ref x0)] [] := by first | (simp [entryFrame, mkF, argsToLocals, Value.category]; done) | rfl
def Q_own_del (Z : State) (a : Addr) (w : Int32) (h0 : Heap) (n0 : Nat) (v : Option Value) (h : Heap) (L : List Loc) : Prop := v = some (.int (F_del w)) ∧ Fr n0 L ∧ h = h0
set_option maxRecDepth 65536 in
set_option maxHeartbeats 40000000 in
theorem own_del (l : Launch) (Z : State) (a0 : Array Value) (hw : ∀ d ∈ tables_1, d.before a0 Z = true) (ws : List Jvm.Cond) (a : Addr) (w : Int32) (h0 : Heap) (n0 : Nat) (Z0 : n0 ≤ h0.size) (F_a_triggerEvents : Fld Z h0 a "com/example/persistutils/persistutils/engine/PostgresTables$Table" "triggerEvents" "I" (.int w)) :
    MetFree l (⟨"com/example/persistutils/persistutils/engine/PostgresTables$Table", "triggeredOnDelete", "()Z"⟩ : MethodName) (head1 (Jvm.Cond.code (⟨"com/example/persistutils/persistutils/engine/PostgresTables$Table", "triggeredOnDelete", "()Z"⟩ : MethodName) prog_51_method_5_code 1 (some .boolean) :: ws) ({ frames := 0, cells := 0, slots := 0, locals := 0 } : Room)) (fun as_ U => as_ = #[(.ref a)] ∧ Z.Warmed39 U.vm ∧ U.heap = h0) (fun _ _ _ _ _ => True) (fun _ U o U' => ∃ v L, o = .returned v ∧ Q_own_del Z a w h0 n0 v U'.heap L ∧ FrameEnd U o U' L ({ frames := 0, cells := 0, slots := 0, locals := 0 } : Room).cells ({ frames := 0, cells := 0, slots := 0, locals := 0 } : Room).slots) := by
  refine MetFree.of_bodySF (plainFor_of_name own_pn3) hisR ?_
  intro p e s m args below meth c s₁ Bd hml0 hP hK
  obtain ⟨rfl, hZ, hh⟩ := hP
  have hx := Bd.exec
  have hby := Bd.bytes
  have hml : c.maxLocals = 1 := hml0
  have hown : s.vm.findClass "com/example/persistutils/persistutils/engine/PostgresTables$Table" = some m.cls := findClass_of_methodNamed Bd.named
  have hnm := (name_of_methodNamed Bd.named Bd.method).1
  have X0 : Stand p l e ({ frames := 0, cells := 0, slots := 0, locals := 0 } : Room) s m #[(.ref a)] below meth c s₁ [] 0 0 := Stand.of_body Bd
  have e0 : s₁.heap = h0 := by rw [← hh, Bd.state]; rfl
  have N0 := Fr.nil n0
  have K0 := Keep.refl h0 []
  show Go p e below (own_F s below (Q_own_del Z a w h0 n0) ({ frames := 0, cells := 0, slots := 0, locals := 0 } : Room).cells ({ frames := 0, cells := 0, slots := 0, locals := 0 } : Room).slots) (s₁.setTop (entryFrame m #[(.ref a)] 1))
  rw [own_ef_own_del m a]
  refine Go.back (t' := (s₁.setTop (mkF m 1 #[.val (.ref a)] [(.ref a)]))) (fun u k => XS.aloadN X0.here hx rfl (hb hby own_d6_0) rfl rfl k) ?_
  obtain ⟨T1, X1, e1, st1⟩ := getF X0 hx hZ hown (host := "") (Or.inl (hw _ (List.mem_of_getElem? (i := 49) rfl))) Via.refl e0 F_a_triggerEvents (g := (mkF m 1 #[.val (.ref a)] [(.ref a)])) rfl rfl (hb hby own_d6_1)
  refine Go.back (t' := (T1.setTop (mkF m 4 #[.val (.ref a)] [(.int w)]))) st1 ?_
  refine Go.back (t' := (T1.setTop (mkF m 6 #[.val (.ref a)] [(.int (8 : Int32)), (.int w)]))) (fun u k => XT.bipushV X1.here hx rfl (8 : Int32) (hb hby own_d6_4) (by decide) k) ?_
  refine Go.back (t' := (T1.setTop (mkF m 7 #[.val (.ref a)] [(.int (w &&& (8 : Int32)))]))) (fun u k => XS.iand X1.here hx rfl (hb hby own_d6_6) rfl k) ?_
  by_cases hc2 : (w &&& (8 : Int32)) = (0 : Int32)
  · skip
    refine Go.back (t' := (T1.setTop (mkF m 14 #[.val (.ref a)] []))) (fun u k => XS.ifYes X1.here hx rfl (pc0 := 7) (pc' := 14) rfl (hb hby own_d6_7) rfl (XT.i0_eq_t hc2) (by decide) (by decide) k) ?_
    refine Go.back (t' := (T1.setTop (mkF m 15 #[.val (.ref a)] [(.int (0 : Int32))]))) (fun u k => XT.iconstV X1.here hx rfl (0 : Int32) (hb hby own_d6_14) (by decide) k) ?_
    obtain ⟨fs, hr, hrun, hended, hW, hsame⟩ := X1.leave (v := some (.int (0 : Int32))) (fun h => by rw [Bd.returns] at h; cases h)
    refine ⟨_, _, retN X1 hx (t := .boolean) Bd.returns (by simp) (hb hby own_d6_15) hr, hrun, hended, _, _, rfl, ?_, ⟨_, rfl⟩, hW, hsame.mono (by decide) (by decide)⟩
    show Q_own_del Z a w h0 n0 _ T1.heap _
    rw [e1]
    exact ⟨(by simp only [F_del, if_pos hc2]), N0, rfl⟩
  · skip
    refine Go.back (t' := (T1.setTop (mkF m 10 #[.val (.ref a)] []))) (fun u k => XS.ifNo X1.here hx rfl (hb hby own_d6_7) rfl (XT.i0_eq_f hc2) k) ?_
    refine Go.back (t' := (T1.setTop (mkF m 11 #[.val (.ref a)] [(.int (1 : Int32))]))) (fun u k => XT.iconstV X1.here hx rfl (1 : Int32) (hb hby own_d6_10) (by decide) k) ?_
    refine Go.back (t' := (T1.setTop (mkF m 15 #[.val (.ref a)] [(.int (1 : Int32))]))) (fun u k => XS.goto X1.here hx rfl (pc0 := 11) (pc' := 15) rfl (hb hby own_d6_11) (by decide) (by decide) k) ?_
    obtain ⟨fs, hr, hrun, hended, hW, hsame⟩ := X1.leave (v := some (.int (1 : Int32))) (fun h => by rw [Bd.returns] at h; cases h)
    refine ⟨_, _, retN X1 hx (t := .boolean) Bd.returns (by simp) (hb hby own_d6_15) hr, hrun, hended, _, _, rfl, ?_, ⟨_, rfl⟩, hW, hsame.mono (by decide) (by decide)⟩
    show Q_own_del Z a w h0 n0 _ T1.heap _
    rw [e1]
    exact ⟨(by simp only [F_del, if_neg hc2]), N0, rfl⟩
theorem own_bit3 (x : Int32) : (x &&& (8 : Int32)) = (0 : Int32) ↔ x.toBitVec.getLsbD 3 = false := by
  rw [← Int32.toBitVec_inj, Int32.toBitVec_and]
  have h8 : (8 : Int32).toBitVec = BitVec.twoPow 32 3 := by decide
  have h0 : (0 : Int32).toBitVec = 0#32 := by decide
  rw [h8, h0, BitVec.and_twoPow]
  cases x.toBitVec.getLsbD 3 <;> simp <;> decide
theorem own_sh3 (x : Int32) : ((XT.ushr x (3 : Int32)) &&& (1 : Int32)) = (1 : Int32) ↔ x.toBitVec.getLsbD 3 = true := by
  rw [← Int32.toBitVec_inj, Int32.toBitVec_and]
  have h1 : (1 : Int32).toBitVec = BitVec.twoPow 32 0 := by decide
  have e : (XT.ushr x (3 : Int32)).toBitVec = x.toBitVec >>> 3 := by
    show (x.toBitVec >>> ((3 &&& 31 : Int32).toUInt32.toBitVec % 32#32)) = _
    rfl
  rw [e, h1, BitVec.and_twoPow]
  have g : (x.toBitVec >>> 3).getLsbD 0 = x.toBitVec.getLsbD 3 := by simp
  rw [g]
  cases x.toBitVec.getLsbD 3 <;> simp <;> decide
theorem own_xor3 (x : Int32) : (x ^^^ (-9 : Int32)).toBitVec.getLsbD 3 = x.toBitVec.getLsbD 3 := by
  rw [Int32.toBitVec_xor, BitVec.getLsbD_xor]
  have : (-9 : Int32).toBitVec.getLsbD 3 = false := by decide
  rw [this, Bool.xor_false]
theorem own_del1 {x e : Int32} (h : e = (if ((XT.ushr x (3 : Int32)) &&& (1 : Int32)) = (1 : Int32) then (1 : Int32) else (0 : Int32))) (y : Int32) (hy : y.toBitVec.getLsbD 3 = x.toBitVec.getLsbD 3) : F_del y = e := by
  rw [h]
  unfold F_del
  cases hb : x.toBitVec.getLsbD 3
  · rw [if_pos ((own_bit3 y).mpr (hy.trans hb)), if_neg (fun q => by rw [(own_sh3 x).mp q] at hb; cases hb)]
  · rw [if_neg (fun q => by rw [(own_bit3 y).mp q] at hy; rw [hb] at hy; cases hy), if_pos ((own_sh3 x).mpr hb)]
theorem own_pd1 : parseMethodDescriptor "(Ljava/lang/String;ZJZILjava/util/List;JZLjava/util/List;Ljava/util/List;IZ)V" = some ⟨[(.object "java/lang/String"), .boolean, .long, .boolean, .int, (.object "java/util/List"), .long, .boolean, (.object "java/util/List"), (.object "java/util/List"), .int, .boolean], none⟩ := by decide +kernel
theorem own_pd2 : parseMethodDescriptor "()Z" = some ⟨[], some .boolean⟩ := by decide +kernel
theorem own_pn4 : plainName "com/example/persistutils/persistutils/engine/TableTriggeredOnDeletePinLaw" = true := by first | (simp [plainName, overriddenIn]; done) | decide +kernel
theorem own_ef_own_law0 (m : MethodId) (x0 : Int32) (x1 : Int32) (x2 : Int64) (x3 : Int64) : entryFrame m #[(.int x0), (.int x1), (.long x2), (.long x3)] maxLocals = mkF m 0 #[.val (.int x0), .val (.int x1), .val (.long x2), .second, .val (.long x3), .second, .unset, .unset, .unset, .unset, .unset, .unset, .unset, .unset] [] := by first | (simp [entryFrame, mkF, argsToLocals, Value.category, maxLocals]; done) | rfl
def Q_own_law0 (Z : State) (p0 : Int32) (p1 : Int32) (q0 : Int64) (q1 : Int64) (wD : Addr) (h0 : Heap) (n0 : Nat) (v : Option Value) (h : Heap) (L : List Loc) : Prop := v = some (.int 1) ∧ Fr n0 L ∧ Keep h0 h []
set_option maxRecDepth 65536 in
set_option maxHeartbeats 40000000 in
theorem own_law0 (l : Launch) (Z : State) (a0 : Array Value) (hw : ∀ d ∈ tables_1, d.before a0 Z = true) (ws : List Jvm.Cond) (p0 : Int32) (p1 : Int32) (q0 : Int64) (q1 : Int64) (wD : Addr) (h0 : Heap) (n0 : Nat) (Z0 : n0 ≤ h0.size) (Old0 : Old Z n0 h0) (SD : Sta Z Z.heap "java/util/ArrayList" "DEFAULTCAPACITY_EMPTY_ELEMENTDATA" "[Ljava/lang/Object;" (.ref wD)) :
    MetFree l x (head1 (Jvm.Cond.code x code maxLocals ret :: ws) room_1) (fun as_ U => as_ = #[(.int p0), (.int p1), (.long q0), (.long q1)] ∧ Z.Warmed39 U.vm ∧ U.heap = h0) (fun _ _ _ _ _ => True) (fun _ U o U' => ∃ v L, o = .returned v ∧ Q_own_law0 Z p0 p1 q0 q1 wD h0 n0 v U'.heap L ∧ ReturnedEndW U o U' L 32 2240) := by
  refine MetFree.of_bodySF (plainFor_of_name own_pn4) hisR ?_
  intro p e s m args below meth c s₁ Bd hml0 hP hK
  obtain ⟨rfl, hZ, hh⟩ := hP
  have hx := Bd.exec
  have hby := Bd.bytes
  have hml : c.maxLocals = 14 := hml0
  have hown : s.vm.findClass "com/example/persistutils/persistutils/engine/TableTriggeredOnDeletePinLaw" = some m.cls := findClass_of_methodNamed Bd.named
  have hnm := (name_of_methodNamed Bd.named Bd.method).1
  have X0 : Stand p l e room_1 s m #[(.int p0), (.int p1), (.long q0), (.long q1)] below meth c s₁ [] 0 0 := Stand.of_body Bd
  have e0 : s₁.heap = h0 := by rw [← hh, Bd.state]; rfl
  have N0 := Fr.nil n0
  have K0 := Keep.refl h0 []
  have hS0 : s.Since s.vm s.heap.size := (State.WarmedH.refl s).since _
  have hk0 : s.heap.size ≤ h0.size := by rw [hh]; exact Nat.le_refl _
  show Go p e below (own_FW s below (Q_own_law0 Z p0 p1 q0 q1 wD h0 n0) 32 2240) (s₁.setTop (entryFrame m #[(.int p0), (.int p1), (.long q0), (.long q1)] maxLocals))
  rw [own_ef_own_law0 m p0 p1 q0 q1]
  have sg1 : ∀ u, Steps p.tables e below (s₁.setTop (mkF m 11 #[.val (.int p0), .val (.int p1), .val (.long q0), .second, .val (.long q1), .second, .unset, .unset, .unset, .unset, .unset, .unset, .unset, .unset] [(.int (if (p1 &&& (1 : Int32)) = (0 : Int32) then (0 : Int32) else (1 : Int32)))])) u → Steps p.tables e below (s₁.setTop (mkF m 0 #[.val (.int p0), .val (.int p1), .val (.long q0), .second, .val (.long q1), .second, .unset, .unset, .unset, .unset, .unset, .unset, .unset, .unset] [])) u := by
    intro u k
    refine XS.iloadN X0.here hx rfl (hb hby at_0) rfl ?_
    show Steps p.tables e below (s₁.setTop (mkF m 1 #[.val (.int p0), .val (.int p1), .val (.long q0), .second, .val (.long q1), .second, .unset, .unset, .unset, .unset, .unset, .unset, .unset, .unset] [(.int p1)])) u
    refine XT.iconstV X0.here hx rfl (1 : Int32) (hb hby at_1) (by decide) ?_
    show Steps p.tables e below (s₁.setTop (mkF m 2 #[.val (.int p0), .val (.int p1), .val (.long q0), .second, .val (.long q1), .second, .unset, .unset, .unset, .unset, .unset, .unset, .unset, .unset] [(.int (1 : Int32)), (.int p1)])) u
    refine XS.iand X0.here hx rfl (hb hby at_2) rfl ?_
    show Steps p.tables e below (s₁.setTop (mkF m 3 #[.val (.int p0), .val (.int p1), .val (.long q0), .second, .val (.long q1), .second, .unset, .unset, .unset, .unset, .unset, .unset, .unset, .unset] [(.int (p1 &&& (1 : Int32)))])) u
    by_cases hc2 : (p1 &&& (1 : Int32)) = (0 : Int32)
    · skip
      refine XS.ifYes X0.here hx rfl (pc0 := 3) (pc' := 10) rfl (hb hby at_3) rfl (XT.i0_eq_t hc2) (by decide) (by decide) ?_
      show Steps p.tables e below (s₁.setTop (mkF m 10 #[.val (.int p0), .val (.int p1), .val (.long q0), .second, .val (.long q1), .second, .unset, .unset, .unset, .unset, .unset, .unset, .unset, .unset] [])) u
      refine XT.iconstV X0.here hx rfl (0 : Int32) (hb hby at_10) (by decide) ?_
      show Steps p.tables e below (s₁.setTop (mkF m 11 #[.val (.int p0), .val (.int p1), .val (.long q0), .second, .val (.long q1), .second, .unset, .unset, .unset, .unset, .unset, .unset, .unset, .unset] [(.int (0 : Int32))])) u
      try simp only [if_pos hc2] at k
      exact k
    · skip
      refine XS.ifNo X0.here hx rfl (hb hby at_3) rfl (XT.i0_eq_f hc2) ?_
      show Steps p.tables e below (s₁.setTop (mkF m 6 #[.val (.int p0), .val (.int p1), .val (.long q0), .second, .val (.long q1), .second, .unset, .unset, .unset, .unset, .unset, .unset, .unset, .unset] [])) u
      refine XT.iconstV X0.here hx rfl (1 : Int32) (hb hby at_6) (by decide) ?_
      show Steps p.tables e below (s₁.setTop (mkF m 7 #[.val (.int p0), .val (.int p1), .val (.long q0), .second, .val (.long q1), .second, .unset, .unset, .unset, .unset, .unset, .unset, .unset, .unset] [(.int (1 : Int32))])) u
      refine XS.goto X0.here hx rfl (pc0 := 7) (pc' := 11) rfl (hb hby at_7) (by decide) (by decide) ?_
      show Steps p.tables e below (s₁.setTop (mkF m 11 #[.val (.int p0), .val (.int p1), .val (.long q0), .second, .val (.long q1), .second, .unset, .unset, .unset, .unset, .unset, .unset, .unset, .unset] [(.int (1 : Int32))])) u
      try simp only [if_neg hc2] at k
      exact k
  refine Go.back (t' := (s₁.setTop (mkF m 11 #[.val (.int p0), .val (.int p1), .val (.long q0), .second, .val (.long q1), .second, .unset, .unset, .unset, .unset, .unset, .unset, .unset, .unset] [(.int (if (p1 &&& (1 : Int32)) = (0 : Int32) then (0 : Int32) else (1 : Int32)))]))) sg1 ?_
  obtain ⟨zA, h_zA⟩ : ∃ z : Int32, z = (if (p1 &&& (1 : Int32)) = (0 : Int32) then (0 : Int32) else (1 : Int32)) := ⟨_, rfl⟩
  rw [← h_zA]
  have bit_zA : zA = 0 ∨ zA = 1 := by rw [h_zA]; repeat (split <;> try simp)
  refine Go.back (t' := (s₁.setTop (mkF m 13 #[.val (.int p0), .val (.int p1), .val (.long q0), .second, .val (.long q1), .second, .val (.int zA), .unset, .unset, .unset, .unset, .unset, .unset, .unset] []))) (fun u k => XS.istore X0.here hx rfl (hb hby at_11) rfl (l' := #[.val (.int p0), .val (.int p1), .val (.long q0), .second, .val (.long q1), .second, .val (.int zA), .unset, .unset, .unset, .unset, .unset, .unset, .unset]) rfl k) ?_
  have sg3 : ∀ u, Steps p.tables e below (s₁.setTop (mkF m 24 #[.val (.int p0), .val (.int p1), .val (.long q0), .second, .val (.long q1), .second, .val (.int zA), .unset, .unset, .unset, .unset, .unset, .unset, .unset] [(.int (if (p1 &&& (2 : Int32)) = (0 : Int32) then (0 : Int32) else (1 : Int32)))])) u → Steps p.tables e below (s₁.setTop (mkF m 13 #[.val (.int p0), .val (.int p1), .val (.long q0), .second, .val (.long q1), .second, .val (.int zA), .unset, .unset, .unset, .unset, .unset, .unset, .unset] [])) u := by
    intro u k
    refine XS.iloadN X0.here hx rfl (hb hby at_13) rfl ?_
    show Steps p.tables e below (s₁.setTop (mkF m 14 #[.val (.int p0), .val (.int p1), .val (.long q0), .second, .val (.long q1), .second, .val (.int zA), .unset, .unset, .unset, .unset, .unset, .unset, .unset] [(.int p1)])) u
    refine XT.iconstV X0.here hx rfl (2 : Int32) (hb hby at_14) (by decide) ?_
    show Steps p.tables e below (s₁.setTop (mkF m 15 #[.val (.int p0), .val (.int p1), .val (.long q0), .second, .val (.long q1), .second, .val (.int zA), .unset, .unset, .unset, .unset, .unset, .unset, .unset] [(.int (2 : Int32)), (.int p1)])) u
    refine XS.iand X0.here hx rfl (hb hby at_15) rfl ?_
    show Steps p.tables e below (s₁.setTop (mkF m 16 #[.val (.int p0), .val (.int p1), .val (.long q0), .second, .val (.long q1), .second, .val (.int zA), .unset, .unset, .unset, .unset, .unset, .unset, .unset] [(.int (p1 &&& (2 : Int32)))])) u
    by_cases hc4 : (p1 &&& (2 : Int32)) = (0 : Int32)
    · skip
      refine XS.ifYes X0.here hx rfl (pc0 := 16) (pc' := 23) rfl (hb hby at_16) rfl (XT.i0_eq_t hc4) (by decide) (by decide) ?_
      show Steps p.tables e below (s₁.setTop (mkF m 23 #[.val (.int p0), .val (.int p1), .val (.long q0), .second, .val (.long q1), .second, .val (.int zA), .unset, .unset, .unset, .unset, .unset, .unset, .unset] [])) u
      refine XT.iconstV X0.here hx rfl (0 : Int32) (hb hby at_23) (by decide) ?_
      show Steps p.tables e below (s₁.setTop (mkF m 24 #[.val (.int p0), .val (.int p1), .val (.long q0), .second, .val (.long q1), .second, .val (.int zA), .unset, .unset, .unset, .unset, .unset, .unset, .unset] [(.int (0 : Int32))])) u
      try simp only [if_pos hc4] at k
      exact k
    · skip
      refine XS.ifNo X0.here hx rfl (hb hby at_16) rfl (XT.i0_eq_f hc4) ?_
      show Steps p.tables e below (s₁.setTop (mkF m 19 #[.val (.int p0), .val (.int p1), .val (.long q0), .second, .val (.long q1), .second, .val (.int zA), .unset, .unset, .unset, .unset, .unset, .unset, .unset] [])) u
      refine XT.iconstV X0.here hx rfl (1 : Int32) (hb hby at_19) (by decide) ?_
      show Steps p.tables e below (s₁.setTop (mkF m 20 #[.val (.int p0), .val (.int p1), .val (.long q0), .second, .val (.long q1), .second, .val (.int zA), .unset, .unset, .unset, .unset, .unset, .unset, .unset] [(.int (1 : Int32))])) u
      refine XS.goto X0.here hx rfl (pc0 := 20) (pc' := 24) rfl (hb hby at_20) (by decide) (by decide) ?_
      show Steps p.tables e below (s₁.setTop (mkF m 24 #[.val (.int p0), .val (.int p1), .val (.long q0), .second, .val (.long q1), .second, .val (.int zA), .unset, .unset, .unset, .unset, .unset, .unset, .unset] [(.int (1 : Int32))])) u
      try simp only [if_neg hc4] at k
      exact k
  refine Go.back (t' := (s₁.setTop (mkF m 24 #[.val (.int p0), .val (.int p1), .val (.long q0), .second, .val (.long q1), .second, .val (.int zA), .unset, .unset, .unset, .unset, .unset, .unset, .unset] [(.int (if (p1 &&& (2 : Int32)) = (0 : Int32) then (0 : Int32) else (1 : Int32)))]))) sg3 ?_
  obtain ⟨zB, h_zB⟩ : ∃ z : Int32, z = (if (p1 &&& (2 : Int32)) = (0 : Int32) then (0 : Int32) else (1 : Int32)) := ⟨_, rfl⟩
  rw [← h_zB]
  have bit_zB : zB = 0 ∨ zB = 1 := by rw [h_zB]; repeat (split <;> try simp)
  refine Go.back (t' := (s₁.setTop (mkF m 26 #[.val (.int p0), .val (.int p1), .val (.long q0), .second, .val (.long q1), .second, .val (.int zA), .val (.int zB), .unset, .unset, .unset, .unset, .unset, .unset] []))) (fun u k => XS.istore X0.here hx rfl (hb hby at_24) rfl (l' := #[.val (.int p0), .val (.int p1), .val (.long q0), .second, .val (.long q1), .second, .val (.int zA), .val (.int zB), .unset, .unset, .unset, .unset, .unset, .unset]) rfl k) ?_
  have sg5 : ∀ u, Steps p.tables e below (s₁.setTop (mkF m 37 #[.val (.int p0), .val (.int p1), .val (.long q0), .second, .val (.long q1), .second, .val (.int zA), .val (.int zB), .unset, .unset, .unset, .unset, .unset, .unset] [(.int (if (p1 &&& (4 : Int32)) = (0 : Int32) then (0 : Int32) else (1 : Int32)))])) u → Steps p.tables e below (s₁.setTop (mkF m 26 #[.val (.int p0), .val (.int p1), .val (.long q0), .second, .val (.long q1), .second, .val (.int zA), .val (.int zB), .unset, .unset, .unset, .unset, .unset, .unset] [])) u := by
    intro u k
    refine XS.iloadN X0.here hx rfl (hb hby at_26) rfl ?_
    show Steps p.tables e below (s₁.setTop (mkF m 27 #[.val (.int p0), .val (.int p1), .val (.long q0), .second, .val (.long q1), .second, .val (.int zA), .val (.int zB), .unset, .unset, .unset, .unset, .unset, .unset] [(.int p1)])) u
    refine XT.iconstV X0.here hx rfl (4 : Int32) (hb hby at_27) (by decide) ?_
    show Steps p.tables e below (s₁.setTop (mkF m 28 #[.val (.int p0), .val (.int p1), .val (.long q0), .second, .val (.long q1), .second, .val (.int zA), .val (.int zB), .unset, .unset, .unset, .unset, .unset, .unset] [(.int (4 : Int32)), (.int p1)])) u
    refine XS.iand X0.here hx rfl (hb hby at_28) rfl ?_
    show Steps p.tables e below (s₁.setTop (mkF m 29 #[.val (.int p0), .val (.int p1), .val (.long q0), .second, .val (.long q1), .second, .val (.int zA), .val (.int zB), .unset, .unset, .unset, .unset, .unset, .unset] [(.int (p1 &&& (4 : Int32)))])) u
    by_cases hc6 : (p1 &&& (4 : Int32)) = (0 : Int32)
    · skip
      refine XS.ifYes X0.here hx rfl (pc0 := 29) (pc' := 36) rfl (hb hby at_29) rfl (XT.i0_eq_t hc6) (by decide) (by decide) ?_
      show Steps p.tables e below (s₁.setTop (mkF m 36 #[.val (.int p0), .val (.int p1), .val (.long q0), .second, .val (.long q1), .second, .val (.int zA), .val (.int zB), .unset, .unset, .unset, .unset, .unset, .unset] [])) u
      refine XT.iconstV X0.here hx rfl (0 : Int32) (hb hby at_36) (by decide) ?_
      show Steps p.tables e below (s₁.setTop (mkF m 37 #[.val (.int p0), .val (.int p1), .val (.long q0), .second, .val (.long q1), .second, .val (.int zA), .val (.int zB), .unset, .unset, .unset, .unset, .unset, .unset] [(.int (0 : Int32))])) u
      try simp only [if_pos hc6] at k
      exact k
    · skip
      refine XS.ifNo X0.here hx rfl (hb hby at_29) rfl (XT.i0_eq_f hc6) ?_
      show Steps p.tables e below (s₁.setTop (mkF m 32 #[.val (.int p0), .val (.int p1), .val (.long q0), .second, .val (.long q1), .second, .val (.int zA), .val (.int zB), .unset, .unset, .unset, .unset, .unset, .unset] [])) u
      refine XT.iconstV X0.here hx rfl (1 : Int32) (hb hby at_32) (by decide) ?_
      show Steps p.tables e below (s₁.setTop (mkF m 33 #[.val (.int p0), .val (.int p1), .val (.long q0), .second, .val (.long q1), .second, .val (.int zA), .val (.int zB), .unset, .unset, .unset, .unset, .unset, .unset] [(.int (1 : Int32))])) u
      refine XS.goto X0.here hx rfl (pc0 := 33) (pc' := 37) rfl (hb hby at_33) (by decide) (by decide) ?_
      show Steps p.tables e below (s₁.setTop (mkF m 37 #[.val (.int p0), .val (.int p1), .val (.long q0), .second, .val (.long q1), .second, .val (.int zA), .val (.int zB), .unset, .unset, .unset, .unset, .unset, .unset] [(.int (1 : Int32))])) u
      try simp only [if_neg hc6] at k
      exact k
  refine Go.back (t' := (s₁.setTop (mkF m 37 #[.val (.int p0), .val (.int p1), .val (.long q0), .second, .val (.long q1), .second, .val (.int zA), .val (.int zB), .unset, .unset, .unset, .unset, .unset, .unset] [(.int (if (p1 &&& (4 : Int32)) = (0 : Int32) then (0 : Int32) else (1 : Int32)))]))) sg5 ?_
  obtain ⟨zC, h_zC⟩ : ∃ z : Int32, z = (if (p1 &&& (4 : Int32)) = (0 : Int32) then (0 : Int32) else (1 : Int32)) := ⟨_, rfl⟩
  rw [← h_zC]
  have bit_zC : zC = 0 ∨ zC = 1 := by rw [h_zC]; repeat (split <;> try simp)
  refine Go.back (t' := (s₁.setTop (mkF m 39 #[.val (.int p0), .val (.int p1), .val (.long q0), .second, .val (.long q1), .second, .val (.int zA), .val (.int zB), .val (.int zC), .unset, .unset, .unset, .unset, .unset] []))) (fun u k => XS.istore X0.here hx rfl (hb hby at_37) rfl (l' := #[.val (.int p0), .val (.int p1), .val (.long q0), .second, .val (.long q1), .second, .val (.int zA), .val (.int zB), .val (.int zC), .unset, .unset, .unset, .unset, .unset]) rfl k) ?_
  have sg7 : ∀ u, Steps p.tables e below (s₁.setTop (mkF m 51 #[.val (.int p0), .val (.int p1), .val (.long q0), .second, .val (.long q1), .second, .val (.int zA), .val (.int zB), .val (.int zC), .unset, .unset, .unset, .unset, .unset] [(.int (if (p1 &&& (8 : Int32)) = (0 : Int32) then (0 : Int32) else (1 : Int32)))])) u → Steps p.tables e below (s₁.setTop (mkF m 39 #[.val (.int p0), .val (.int p1), .val (.long q0), .second, .val (.long q1), .second, .val (.int zA), .val (.int zB), .val (.int zC), .unset, .unset, .unset, .unset, .unset] [])) u := by
    intro u k
    refine XS.iloadN X0.here hx rfl (hb hby at_39) rfl ?_
    show Steps p.tables e below (s₁.setTop (mkF m 40 #[.val (.int p0), .val (.int p1), .val (.long q0), .second, .val (.long q1), .second, .val (.int zA), .val (.int zB), .val (.int zC), .unset, .unset, .unset, .unset, .unset] [(.int p1)])) u
    refine XT.bipushV X0.here hx rfl (8 : Int32) (hb hby at_40) (by decide) ?_
    show Steps p.tables e below (s₁.setTop (mkF m 42 #[.val (.int p0), .val (.int p1), .val (.long q0), .second, .val (.long q1), .second, .val (.int zA), .val (.int zB), .val (.int zC), .unset, .unset, .unset, .unset, .unset] [(.int (8 : Int32)), (.int p1)])) u
    refine XS.iand X0.here hx rfl (hb hby at_42) rfl ?_
    show Steps p.tables e below (s₁.setTop (mkF m 43 #[.val (.int p0), .val (.int p1), .val (.long q0), .second, .val (.long q1), .second, .val (.int zA), .val (.int zB), .val (.int zC), .unset, .unset, .unset, .unset, .unset] [(.int (p1 &&& (8 : Int32)))])) u
    by_cases hc8 : (p1 &&& (8 : Int32)) = (0 : Int32)
    · skip
      refine XS.ifYes X0.here hx rfl (pc0 := 43) (pc' := 50) rfl (hb hby at_43) rfl (XT.i0_eq_t hc8) (by decide) (by decide) ?_
      show Steps p.tables e below (s₁.setTop (mkF m 50 #[.val (.int p0), .val (.int p1), .val (.long q0), .second, .val (.long q1), .second, .val (.int zA), .val (.int zB), .val (.int zC), .unset, .unset, .unset, .unset, .unset] [])) u
      refine XT.iconstV X0.here hx rfl (0 : Int32) (hb hby at_50) (by decide) ?_
      show Steps p.tables e below (s₁.setTop (mkF m 51 #[.val (.int p0), .val (.int p1), .val (.long q0), .second, .val (.long q1), .second, .val (.int zA), .val (.int zB), .val (.int zC), .unset, .unset, .unset, .unset, .unset] [(.int (0 : Int32))])) u
      try simp only [if_pos hc8] at k
      exact k
    · skip
      refine XS.ifNo X0.here hx rfl (hb hby at_43) rfl (XT.i0_eq_f hc8) ?_
      show Steps p.tables e below (s₁.setTop (mkF m 46 #[.val (.int p0), .val (.int p1), .val (.long q0), .second, .val (.long q1), .second, .val (.int zA), .val (.int zB), .val (.int zC), .unset, .unset, .unset, .unset, .unset] [])) u
      refine XT.iconstV X0.here hx rfl (1 : Int32) (hb hby at_46) (by decide) ?_
      show Steps p.tables e below (s₁.setTop (mkF m 47 #[.val (.int p0), .val (.int p1), .val (.long q0), .second, .val (.long q1), .second, .val (.int zA), .val (.int zB), .val (.int zC), .unset, .unset, .unset, .unset, .unset] [(.int (1 : Int32))])) u
      refine XS.goto X0.here hx rfl (pc0 := 47) (pc' := 51) rfl (hb hby at_47) (by decide) (by decide) ?_
      show Steps p.tables e below (s₁.setTop (mkF m 51 #[.val (.int p0), .val (.int p1), .val (.long q0), .second, .val (.long q1), .second, .val (.int zA), .val (.int zB), .val (.int zC), .unset, .unset, .unset, .unset, .unset] [(.int (1 : Int32))])) u
      try simp only [if_neg hc8] at k
      exact k
  refine Go.back (t' := (s₁.setTop (mkF m 51 #[.val (.int p0), .val (.int p1), .val (.long q0), .second, .val (.long q1), .second, .val (.int zA), .val (.int zB), .val (.int zC), .unset, .unset, .unset, .unset, .unset] [(.int (if (p1 &&& (8 : Int32)) = (0 : Int32) then (0 : Int32) else (1 : Int32)))]))) sg7 ?_
  obtain ⟨zD, h_zD⟩ : ∃ z : Int32, z = (if (p1 &&& (8 : Int32)) = (0 : Int32) then (0 : Int32) else (1 : Int32)) := ⟨_, rfl⟩
  rw [← h_zD]
  have bit_zD : zD = 0 ∨ zD = 1 := by rw [h_zD]; repeat (split <;> try simp)
  refine Go.back (t' := (s₁.setTop (mkF m 53 #[.val (.int p0), .val (.int p1), .val (.long q0), .second, .val (.long q1), .second, .val (.int zA), .val (.int zB), .val (.int zC), .val (.int zD), .unset, .unset, .unset, .unset] []))) (fun u k => XS.istore X0.here hx rfl (hb hby at_51) rfl (l' := #[.val (.int p0), .val (.int p1), .val (.long q0), .second, .val (.long q1), .second, .val (.int zA), .val (.int zB), .val (.int zC), .val (.int zD), .unset, .unset, .unset, .unset]) rfl k) ?_
  refine Go.back (t' := (s₁.setTop (mkF m 54 #[.val (.int p0), .val (.int p1), .val (.long q0), .second, .val (.long q1), .second, .val (.int zA), .val (.int zB), .val (.int zC), .val (.int zD), .unset, .unset, .unset, .unset] [(.int p0)]))) (fun u k => XS.iloadN X0.here hx rfl (hb hby at_53) rfl k) ?_
  refine Go.back (t' := (s₁.setTop (mkF m 56 #[.val (.int p0), .val (.int p1), .val (.long q0), .second, .val (.long q1), .second, .val (.int zA), .val (.int zB), .val (.int zC), .val (.int zD), .unset, .unset, .unset, .unset] [(.int (-9 : Int32)), (.int p0)]))) (fun u k => XT.bipushV X0.here hx rfl (-9 : Int32) (hb hby at_54) (by decide) k) ?_
  refine Go.back (t' := (s₁.setTop (mkF m 57 #[.val (.int p0), .val (.int p1), .val (.long q0), .second, .val (.long q1), .second, .val (.int zA), .val (.int zB), .val (.int zC), .val (.int zD), .unset, .unset, .unset, .unset] [(.int (p0 ^^^ (-9 : Int32)))]))) (fun u k => XT.ixor X0.here hx rfl (hb hby at_56) rfl k) ?_
  refine Go.back (t' := (s₁.setTop (mkF m 59 #[.val (.int p0), .val (.int p1), .val (.long q0), .second, .val (.long q1), .second, .val (.int zA), .val (.int zB), .val (.int zC), .val (.int zD), .val (.int (p0 ^^^ (-9 : Int32))), .unset, .unset, .unset] []))) (fun u k => XS.istore X0.here hx rfl (hb hby at_57) rfl (l' := #[.val (.int p0), .val (.int p1), .val (.long q0), .second, .val (.long q1), .second, .val (.int zA), .val (.int zB), .val (.int zC), .val (.int zD), .val (.int (p0 ^^^ (-9 : Int32))), .unset, .unset, .unset]) rfl k) ?_
  obtain ⟨T9, h9, X9, e9, E9, A9, D9, -, st9⟩ := newO X0 hx hZ hown (hw _ (List.mem_of_getElem? (i := 0) rfl)) (hw _ (List.mem_of_getElem? (i := 1) rfl)) (hw _ (List.mem_of_getElem? (i := 2) rfl)) e0 (g := (mkF m 59 #[.val (.int p0), .val (.int p1), .val (.long q0), .second, .val (.long q1), .second, .val (.int zA), .val (.int zB), .val (.int zC), .val (.int zD), .val (.int (p0 ^^^ (-9 : Int32))), .unset, .unset, .unset] [])) rfl (hb hby at_59) (by decide) (by decide)
  obtain ⟨b9, g9⟩ : ∃ z, z = h0.size := ⟨_, rfl⟩
  rw [← g9] at A9 D9 st9
  have gb9 : n0 ≤ b9 := Nat.le_trans Z0 (Nat.le_of_eq g9.symm)
  have sz9 : h0.size ≤ b9 := Nat.le_trans K0.1 (Nat.le_of_eq g9.symm)
  have Z9 : n0 ≤ h9.size := Nat.le_trans Z0 E9.1
  have K9 := K0.ext E9
  have O9 := Old0.ext E9
  have hk9 := Nat.le_trans hk0 E9.1
  refine Go.back (t' := (T9.setTop (mkF m 62 #[.val (.int p0), .val (.int p1), .val (.long q0), .second, .val (.long q1), .second, .val (.int zA), .val (.int zB), .val (.int zC), .val (.int zD), .val (.int (p0 ^^^ (-9 : Int32))), .unset, .unset, .unset] [(.ref b9)]))) st9 ?_
  refine Go.back (t' := (T9.setTop (mkF m 63 #[.val (.int p0), .val (.int p1), .val (.long q0), .second, .val (.long q1), .second, .val (.int zA), .val (.int zB), .val (.int zC), .val (.int zD), .val (.int (p0 ^^^ (-9 : Int32))), .unset, .unset, .unset] [(.ref b9), (.ref b9)]))) (fun u k => XS.dup X9.here hx rfl (hb hby at_62) rfl rfl k) ?_
  have wS : ∀ d ∈ Bundle.stringAtoms, d.before a0 Z = true := fun d hd => hw d ((by decide +kernel : ∀ d ∈ Bundle.stringAtoms, d ∈ tables_1) d hd)
  obtain ⟨a10, T10, h10, kk10, X10, e10, E10, hS10, hk10, hZ, hown, st10⟩ := ldcS (s := s) (vm0 := s.vm) X9 hx hZ hown (hw _ (List.mem_of_getElem? (i := 3) rfl)) wS e9 hS0 hk9 (g := (mkF m 63 #[.val (.int p0), .val (.int p1), .val (.long q0), .second, .val (.long q1), .second, .val (.int zA), .val (.int zB), .val (.int zC), .val (.int zD), .val (.int (p0 ^^^ (-9 : Int32))), .unset, .unset, .unset] [(.ref b9), (.ref b9)])) rfl (hb hby at_63) (n := 4) (by decide) (by decide) (by decide) (by decide)
  have Z10 : n0 ≤ h10.size := Nat.le_trans Z9 E10.1
  have K10 := K9.ext E10
  have O10 := O9.ext E10
  refine Go.back (t' := (T10.setTop (mkF m 65 #[.val (.int p0), .val (.int p1), .val (.long q0), .second, .val (.long q1), .second, .val (.int zA), .val (.int zB), .val (.int zC), .val (.int zD), .val (.int (p0 ^^^ (-9 : Int32))), .unset, .unset, .unset] [(.ref a10), (.ref b9), (.ref b9)]))) st10 ?_
  refine Go.back (t' := (T10.setTop (mkF m 67 #[.val (.int p0), .val (.int p1), .val (.long q0), .second, .val (.long q1), .second, .val (.int zA), .val (.int zB), .val (.int zC), .val (.int zD), .val (.int (p0 ^^^ (-9 : Int32))), .unset, .unset, .unset] [(.int zA), (.ref a10), (.ref b9), (.ref b9)]))) (fun u k => XS.iload X10.here hx rfl (hb hby at_65) rfl k) ?_
  refine Go.back (t' := (T10.setTop (mkF m 68 #[.val (.int p0), .val (.int p1), .val (.long q0), .second, .val (.long q1), .second, .val (.int zA), .val (.int zB), .val (.int zC), .val (.int zD), .val (.int (p0 ^^^ (-9 : Int32))), .unset, .unset, .unset] [(.long q0), (.int zA), (.ref a10), (.ref b9), (.ref b9)]))) (fun u k => XT.lloadN X10.here hx rfl (hb hby at_67) rfl k) ?_
  refine Go.back (t' := (T10.setTop (mkF m 70 #[.val (.int p0), .val (.int p1), .val (.long q0), .second, .val (.long q1), .second, .val (.int zA), .val (.int zB), .val (.int zC), .val (.int zD), .val (.int (p0 ^^^ (-9 : Int32))), .unset, .unset, .unset] [(.int zB), (.long q0), (.int zA), (.ref a10), (.ref b9), (.ref b9)]))) (fun u k => XS.iload X10.here hx rfl (hb hby at_68) rfl k) ?_
  refine Go.back (t' := (T10.setTop (mkF m 71 #[.val (.int p0), .val (.int p1), .val (.long q0), .second, .val (.long q1), .second, .val (.int zA), .val (.int zB), .val (.int zC), .val (.int zD), .val (.int (p0 ^^^ (-9 : Int32))), .unset, .unset, .unset] [(.int p0), (.int zB), (.long q0), (.int zA), (.ref a10), (.ref b9), (.ref b9)]))) (fun u k => XS.iloadN X10.here hx rfl (hb hby at_70) rfl k) ?_
  obtain ⟨T11, h11, X11, e11, E11, A11, D11, -, st11⟩ := newO X10 hx hZ hown (hw _ (List.mem_of_getElem? (i := 11) rfl)) (hw _ (List.mem_of_getElem? (i := 12) rfl)) (hw _ (List.mem_of_getElem? (i := 13) rfl)) e10 (g := (mkF m 71 #[.val (.int p0), .val (.int p1), .val (.long q0), .second, .val (.long q1), .second, .val (.int zA), .val (.int zB), .val (.int zC), .val (.int zD), .val (.int (p0 ^^^ (-9 : Int32))), .unset, .unset, .unset] [(.int p0), (.int zB), (.long q0), (.int zA), (.ref a10), (.ref b9), (.ref b9)])) rfl (hb hby at_71) (by decide) (by decide)
  obtain ⟨b11, g11⟩ : ∃ z, z = h10.size := ⟨_, rfl⟩
  rw [← g11] at A11 D11 st11
  have f12 := (A9.ext E10)
  have ne_b9_b11 : b9 ≠ b11 := Nat.ne_of_lt (Nat.lt_of_lt_of_le f12.lt (Nat.le_of_eq g11.symm))
  have gb11 : n0 ≤ b11 := Nat.le_trans Z10 (Nat.le_of_eq g11.symm)
  have sz11 : h0.size ≤ b11 := Nat.le_trans K10.1 (Nat.le_of_eq g11.symm)
  have Z11 : n0 ≤ h11.size := Nat.le_trans Z10 E11.1
  have K11 := K10.ext E11
  have O11 := O10.ext E11
  have hk11 := Nat.le_trans hk10 E11.1
  refine Go.back (t' := (T11.setTop (mkF m 74 #[.val (.int p0), .val (.int p1), .val (.long q0), .second, .val (.long q1), .second, .val (.int zA), .val (.int zB), .val (.int zC), .val (.int zD), .val (.int (p0 ^^^ (-9 : Int32))), .unset, .unset, .unset] [(.ref b11), (.int p0), (.int zB), (.long q0), (.int zA), (.ref a10), (.ref b9), (.ref b9)]))) st11 ?_
  refine Go.back (t' := (T11.setTop (mkF m 75 #[.val (.int p0), .val (.int p1), .val (.long q0), .second, .val (.long q1), .second, .val (.int zA), .val (.int zB), .val (.int zC), .val (.int zD), .val (.int (p0 ^^^ (-9 : Int32))), .unset, .unset, .unset] [(.ref b11), (.ref b11), (.int p0), (.int zB), (.long q0), (.int zA), (.ref a10), (.ref b9), (.ref b9)]))) (fun u k => XS.dup X11.here hx rfl (hb hby at_74) rfl rfl k) ?_
  obtain ⟨_, _, ⟨T13, L13, k13, n13⟩, -, X13, ⟨Lc13, hQ13, l13, y13, z13⟩, st13⟩ := X11.specialBack hx (y := (⟨"java/util/ArrayList", "<init>", "()V"⟩ : MethodName)) rfl hown (mvT hZ (hw _ (List.mem_of_getElem? (i := 14) rfl))) (mvT hZ (hw _ (List.mem_of_getElem? (i := 15) rfl))) (mvT hZ (hw _ (List.mem_of_getElem? (i := 16) rfl))) (by decide) (backOf (W := 9) (own_alInit l Z a0 hw [] b11 wD h11 n0 Z11 A11 (D11 (Or.inl (hw _ (List.mem_of_getElem? (i := 33) rfl))) (ty := .int) (by decide)) (D11 (Or.inl (hw _ (List.mem_of_getElem? (i := 36) rfl))) (ty := (.array (.object "java/lang/Object"))) (by decide)) gb11 O11 SD) hZ (hw _ (List.mem_of_getElem? (i := 16) rfl)) (hw _ (List.mem_of_getElem? (i := 13) rfl)) (by decide) (by decide)) (g := (mkF m 75 #[.val (.int p0), .val (.int p1), .val (.long q0), .second, .val (.long q1), .second, .val (.int zA), .val (.int zB), .val (.int zC), .val (.int zD), .val (.int (p0 ^^^ (-9 : Int32))), .unset, .unset, .unset] [(.ref b11), (.ref b11), (.int p0), (.int zB), (.long q0), (.int zA), (.ref a10), (.ref b9), (.ref b9)])) rfl (by rw [hml]; rfl) (Steps.refl _) (a := b11) (argsL := []) (rest := [(.ref b11), (.int p0), (.int zB), (.long q0), (.int zA), (.ref a10), (.ref b9), (.ref b9)]) (lenOf own_pd0 rfl) rfl (by show 2 * 0 + _ ≤ _; exact Nat.le_of_eq rfl) (hb hby at_75) (fun _ _ => ⟨rfl, e11, (by decide : 4 + 0 ≤ _), (by decide : 23 + 0 ≤ _)⟩)
  dsimp only [Pt.U, Pt.locs, Pt.cells, Pt.slots] at X13 l13 y13 z13 st13 hQ13
  subst l13 y13 z13
  obtain ⟨rfl, N13, Kc13, P13_0⟩ := hQ13
  have NA13 := Fr.app N0 N13
  have Z13 : n0 ≤ T13.heap.size := Nat.le_trans Z11 Kc13.1
  have hk13 := Nat.le_trans hk11 Kc13.1
  have K13 := K11.trans Kc13 (allS (Or.inr sz11) all0)
  have O13 := O11.keep Kc13 (allS gb11 all0)
  refine Go.back (t' := (T13.setTop (mkF m 78 #[.val (.int p0), .val (.int p1), .val (.long q0), .second, .val (.long q1), .second, .val (.int zA), .val (.int zB), .val (.int zC), .val (.int zD), .val (.int (p0 ^^^ (-9 : Int32))), .unset, .unset, .unset] [(.ref b11), (.int p0), (.int zB), (.long q0), (.int zA), (.ref a10), (.ref b9), (.ref b9)]))) (fun u k => st13.trans k) ?_
  refine Go.back (t' := (T13.setTop (mkF m 80 #[.val (.int p0), .val (.int p1), .val (.long q0), .second, .val (.long q1), .second, .val (.int zA), .val (.int zB), .val (.int zC), .val (.int zD), .val (.int (p0 ^^^ (-9 : Int32))), .unset, .unset, .unset] [(.long q1), (.ref b11), (.int p0), (.int zB), (.long q0), (.int zA), (.ref a10), (.ref b9), (.ref b9)]))) (fun u k => XT.lload X13.here hx rfl (hb hby at_78) rfl k) ?_
  refine Go.back (t' := (T13.setTop (mkF m 82 #[.val (.int p0), .val (.int p1), .val (.long q0), .second, .val (.long q1), .second, .val (.int zA), .val (.int zB), .val (.int zC), .val (.int zD), .val (.int (p0 ^^^ (-9 : Int32))), .unset, .unset, .unset] [(.int zC), (.long q1), (.ref b11), (.int p0), (.int zB), (.long q0), (.int zA), (.ref a10), (.ref b9), (.ref b9)]))) (fun u k => XS.iload X13.here hx rfl (hb hby at_80) rfl k) ?_
  obtain ⟨T14, h14, X14, e14, E14, A14, D14, -, st14⟩ := newO X13 hx hZ hown (hw _ (List.mem_of_getElem? (i := 11) rfl)) (hw _ (List.mem_of_getElem? (i := 12) rfl)) (hw _ (List.mem_of_getElem? (i := 13) rfl)) rfl (g := (mkF m 82 #[.val (.int p0), .val (.int p1), .val (.long q0), .second, .val (.long q1), .second, .val (.int zA), .val (.int zB), .val (.int zC), .val (.int zD), .val (.int (p0 ^^^ (-9 : Int32))), .unset, .unset, .unset] [(.int zC), (.long q1), (.ref b11), (.int p0), (.int zB), (.long q0), (.int zA), (.ref a10), (.ref b9), (.ref b9)])) rfl (hb hby at_82) (by decide) (by decide)
  obtain ⟨b14, g14⟩ : ∃ z, z = T13.heap.size := ⟨_, rfl⟩
  rw [← g14] at A14 D14 st14
  have f15 := ((f12.ext E11).keep Kc13)
  have ne_b9_b14 : b9 ≠ b14 := Nat.ne_of_lt (Nat.lt_of_lt_of_le f15.lt (Nat.le_of_eq g14.symm))
  have ne_b11_b14 : b11 ≠ b14 := Nat.ne_of_lt (Nat.lt_of_lt_of_le P13_0.lt (Nat.le_of_eq g14.symm))
  have gb14 : n0 ≤ b14 := Nat.le_trans Z13 (Nat.le_of_eq g14.symm)
  have sz14 : h0.size ≤ b14 := Nat.le_trans K13.1 (Nat.le_of_eq g14.symm)
  have Z14 : n0 ≤ h14.size := Nat.le_trans Z13 E14.1
  have K14 := K13.ext E14
  have O14 := O13.ext E14
  have hk14 := Nat.le_trans hk13 E14.1
  refine Go.back (t' := (T14.setTop (mkF m 85 #[.val (.int p0), .val (.int p1), .val (.long q0), .second, .val (.long q1), .second, .val (.int zA), .val (.int zB), .val (.int zC), .val (.int zD), .val (.int (p0 ^^^ (-9 : Int32))), .unset, .unset, .unset] [(.ref b14), (.int zC), (.long q1), (.ref b11), (.int p0), (.int zB), (.long q0), (.int zA), (.ref a10), (.ref b9), (.ref b9)]))) st14 ?_
  refine Go.back (t' := (T14.setTop (mkF m 86 #[.val (.int p0), .val (.int p1), .val (.long q0), .second, .val (.long q1), .second, .val (.int zA), .val (.int zB), .val (.int zC), .val (.int zD), .val (.int (p0 ^^^ (-9 : Int32))), .unset, .unset, .unset] [(.ref b14), (.ref b14), (.int zC), (.long q1), (.ref b11), (.int p0), (.int zB), (.long q0), (.int zA), (.ref a10), (.ref b9), (.ref b9)]))) (fun u k => XS.dup X14.here hx rfl (hb hby at_85) rfl rfl k) ?_
  obtain ⟨_, _, ⟨T16, L16, k16, n16⟩, -, X16, ⟨Lc16, hQ16, l16, y16, z16⟩, st16⟩ := X14.specialBack hx (y := (⟨"java/util/ArrayList", "<init>", "()V"⟩ : MethodName)) rfl hown (mvT hZ (hw _ (List.mem_of_getElem? (i := 14) rfl))) (mvT hZ (hw _ (List.mem_of_getElem? (i := 15) rfl))) (mvT hZ (hw _ (List.mem_of_getElem? (i := 16) rfl))) (by decide) (backOf (W := 13) (own_alInit l Z a0 hw [] b14 wD h14 n0 Z14 A14 (D14 (Or.inl (hw _ (List.mem_of_getElem? (i := 33) rfl))) (ty := .int) (by decide)) (D14 (Or.inl (hw _ (List.mem_of_getElem? (i := 36) rfl))) (ty := (.array (.object "java/lang/Object"))) (by decide)) gb14 O14 SD) hZ (hw _ (List.mem_of_getElem? (i := 16) rfl)) (hw _ (List.mem_of_getElem? (i := 13) rfl)) (by decide) (by decide)) (g := (mkF m 86 #[.val (.int p0), .val (.int p1), .val (.long q0), .second, .val (.long q1), .second, .val (.int zA), .val (.int zB), .val (.int zC), .val (.int zD), .val (.int (p0 ^^^ (-9 : Int32))), .unset, .unset, .unset] [(.ref b14), (.ref b14), (.int zC), (.long q1), (.ref b11), (.int p0), (.int zB), (.long q0), (.int zA), (.ref a10), (.ref b9), (.ref b9)])) rfl (by rw [hml]; rfl) (Steps.refl _) (a := b14) (argsL := []) (rest := [(.ref b14), (.int zC), (.long q1), (.ref b11), (.int p0), (.int zB), (.long q0), (.int zA), (.ref a10), (.ref b9), (.ref b9)]) (lenOf own_pd0 rfl) rfl (by show 2 * 0 + _ ≤ _; exact Nat.le_of_eq rfl) (hb hby at_86) (fun _ _ => ⟨rfl, e14, (by decide : 5 + 0 ≤ _), (by decide : 26 + 0 ≤ _)⟩)
  dsimp only [Pt.U, Pt.locs, Pt.cells, Pt.slots] at X16 l16 y16 z16 st16 hQ16
  subst l16 y16 z16
  obtain ⟨rfl, N16, Kc16, P16_0⟩ := hQ16
  have NA16 := Fr.app NA13 N16
  have Z16 : n0 ≤ T16.heap.size := Nat.le_trans Z14 Kc16.1
  have hk16 := Nat.le_trans hk14 Kc16.1
  have K16 := K14.trans Kc16 (allS (Or.inr sz14) all0)
  have O16 := O14.keep Kc16 (allS gb14 all0)
  refine Go.back (t' := (T16.setTop (mkF m 89 #[.val (.int p0), .val (.int p1), .val (.long q0), .second, .val (.long q1), .second, .val (.int zA), .val (.int zB), .val (.int zC), .val (.int zD), .val (.int (p0 ^^^ (-9 : Int32))), .unset, .unset, .unset] [(.ref b14), (.int zC), (.long q1), (.ref b11), (.int p0), (.int zB), (.long q0), (.int zA), (.ref a10), (.ref b9), (.ref b9)]))) (fun u k => st16.trans k) ?_
  obtain ⟨T17, h17, X17, e17, E17, A17, D17, -, st17⟩ := newO X16 hx hZ hown (hw _ (List.mem_of_getElem? (i := 11) rfl)) (hw _ (List.mem_of_getElem? (i := 12) rfl)) (hw _ (List.mem_of_getElem? (i := 13) rfl)) rfl (g := (mkF m 89 #[.val (.int p0), .val (.int p1), .val (.long q0), .second, .val (.long q1), .second, .val (.int zA), .val (.int zB), .val (.int zC), .val (.int zD), .val (.int (p0 ^^^ (-9 : Int32))), .unset, .unset, .unset] [(.ref b14), (.int zC), (.long q1), (.ref b11), (.int p0), (.int zB), (.long q0), (.int zA), (.ref a10), (.ref b9), (.ref b9)])) rfl (hb hby at_89) (by decide) (by decide)
  obtain ⟨b17, g17⟩ : ∃ z, z = T16.heap.size := ⟨_, rfl⟩
  rw [← g17] at A17 D17 st17
  have f18 := ((f15.ext E14).keep Kc16)
  have ne_b9_b17 : b9 ≠ b17 := Nat.ne_of_lt (Nat.lt_of_lt_of_le f18.lt (Nat.le_of_eq g17.symm))
  have f19 := ((P13_0.ext E14).keep Kc16)
  have ne_b11_b17 : b11 ≠ b17 := Nat.ne_of_lt (Nat.lt_of_lt_of_le f19.lt (Nat.le_of_eq g17.symm))
  have ne_b14_b17 : b14 ≠ b17 := Nat.ne_of_lt (Nat.lt_of_lt_of_le P16_0.lt (Nat.le_of_eq g17.symm))
  have gb17 : n0 ≤ b17 := Nat.le_trans Z16 (Nat.le_of_eq g17.symm)
  have sz17 : h0.size ≤ b17 := Nat.le_trans K16.1 (Nat.le_of_eq g17.symm)
  have Z17 : n0 ≤ h17.size := Nat.le_trans Z16 E17.1
  have K17 := K16.ext E17
  have O17 := O16.ext E17
  have hk17 := Nat.le_trans hk16 E17.1
  refine Go.back (t' := (T17.setTop (mkF m 92 #[.val (.int p0), .val (.int p1), .val (.long q0), .second, .val (.long q1), .second, .val (.int zA), .val (.int zB), .val (.int zC), .val (.int zD), .val (.int (p0 ^^^ (-9 : Int32))), .unset, .unset, .unset] [(.ref b17), (.ref b14), (.int zC), (.long q1), (.ref b11), (.int p0), (.int zB), (.long q0), (.int zA), (.ref a10), (.ref b9), (.ref b9)]))) st17 ?_
  refine Go.back (t' := (T17.setTop (mkF m 93 #[.val (.int p0), .val (.int p1), .val (.long q0), .second, .val (.long q1), .second, .val (.int zA), .val (.int zB), .val (.int zC), .val (.int zD), .val (.int (p0 ^^^ (-9 : Int32))), .unset, .unset, .unset] [(.ref b17), (.ref b17), (.ref b14), (.int zC), (.long q1), (.ref b11), (.int p0), (.int zB), (.long q0), (.int zA), (.ref a10), (.ref b9), (.ref b9)]))) (fun u k => XS.dup X17.here hx rfl (hb hby at_92) rfl rfl k) ?_
  obtain ⟨_, _, ⟨T20, L20, k20, n20⟩, -, X20, ⟨Lc20, hQ20, l20, y20, z20⟩, st20⟩ := X17.specialBack hx (y := (⟨"java/util/ArrayList", "<init>", "()V"⟩ : MethodName)) rfl hown (mvT hZ (hw _ (List.mem_of_getElem? (i := 14) rfl))) (mvT hZ (hw _ (List.mem_of_getElem? (i := 15) rfl))) (mvT hZ (hw _ (List.mem_of_getElem? (i := 16) rfl))) (by decide) (backOf (W := 14) (own_alInit l Z a0 hw [] b17 wD h17 n0 Z17 A17 (D17 (Or.inl (hw _ (List.mem_of_getElem? (i := 33) rfl))) (ty := .int) (by decide)) (D17 (Or.inl (hw _ (List.mem_of_getElem? (i := 36) rfl))) (ty := (.array (.object "java/lang/Object"))) (by decide)) gb17 O17 SD) hZ (hw _ (List.mem_of_getElem? (i := 16) rfl)) (hw _ (List.mem_of_getElem? (i := 13) rfl)) (by decide) (by decide)) (g := (mkF m 93 #[.val (.int p0), .val (.int p1), .val (.long q0), .second, .val (.long q1), .second, .val (.int zA), .val (.int zB), .val (.int zC), .val (.int zD), .val (.int (p0 ^^^ (-9 : Int32))), .unset, .unset, .unset] [(.ref b17), (.ref b17), (.ref b14), (.int zC), (.long q1), (.ref b11), (.int p0), (.int zB), (.long q0), (.int zA), (.ref a10), (.ref b9), (.ref b9)])) rfl (by rw [hml]; rfl) (Steps.refl _) (a := b17) (argsL := []) (rest := [(.ref b17), (.ref b14), (.int zC), (.long q1), (.ref b11), (.int p0), (.int zB), (.long q0), (.int zA), (.ref a10), (.ref b9), (.ref b9)]) (lenOf own_pd0 rfl) rfl (by show 2 * 0 + _ ≤ _; exact Nat.le_of_eq rfl) (hb hby at_93) (fun _ _ => ⟨rfl, e17, (by decide : 6 + 0 ≤ _), (by decide : 29 + 0 ≤ _)⟩)
  dsimp only [Pt.U, Pt.locs, Pt.cells, Pt.slots] at X20 l20 y20 z20 st20 hQ20
  subst l20 y20 z20
  obtain ⟨rfl, N20, Kc20, P20_0⟩ := hQ20
  have NA20 := Fr.app NA16 N20
  have Z20 : n0 ≤ T20.heap.size := Nat.le_trans Z17 Kc20.1
  have hk20 := Nat.le_trans hk17 Kc20.1
  have K20 := K17.trans Kc20 (allS (Or.inr sz17) all0)
  have O20 := O17.keep Kc20 (allS gb17 all0)
  refine Go.back (t' := (T20.setTop (mkF m 96 #[.val (.int p0), .val (.int p1), .val (.long q0), .second, .val (.long q1), .second, .val (.int zA), .val (.int zB), .val (.int zC), .val (.int zD), .val (.int (p0 ^^^ (-9 : Int32))), .unset, .unset, .unset] [(.ref b17), (.ref b14), (.int zC), (.long q1), (.ref b11), (.int p0), (.int zB), (.long q0), (.int zA), (.ref a10), (.ref b9), (.ref b9)]))) (fun u k => st20.trans k) ?_
  refine Go.back (t' := (T20.setTop (mkF m 97 #[.val (.int p0), .val (.int p1), .val (.long q0), .second, .val (.long q1), .second, .val (.int zA), .val (.int zB), .val (.int zC), .val (.int zD), .val (.int (p0 ^^^ (-9 : Int32))), .unset, .unset, .unset] [(.int p1), (.ref b17), (.ref b14), (.int zC), (.long q1), (.ref b11), (.int p0), (.int zB), (.long q0), (.int zA), (.ref a10), (.ref b9), (.ref b9)]))) (fun u k => XS.iloadN X20.here hx rfl (hb hby at_96) rfl k) ?_
  refine Go.back (t' := (T20.setTop (mkF m 98 #[.val (.int p0), .val (.int p1), .val (.long q0), .second, .val (.long q1), .second, .val (.int zA), .val (.int zB), .val (.int zC), .val (.int zD), .val (.int (p0 ^^^ (-9 : Int32))), .unset, .unset, .unset] [(.int (4 : Int32)), (.int p1), (.ref b17), (.ref b14), (.int zC), (.long q1), (.ref b11), (.int p0), (.int zB), (.long q0), (.int zA), (.ref a10), (.ref b9), (.ref b9)]))) (fun u k => XT.iconstV X20.here hx rfl (4 : Int32) (hb hby at_97) (by decide) k) ?_
  refine Go.back (t' := (T20.setTop (mkF m 99 #[.val (.int p0), .val (.int p1), .val (.long q0), .second, .val (.long q1), .second, .val (.int zA), .val (.int zB), .val (.int zC), .val (.int zD), .val (.int (p0 ^^^ (-9 : Int32))), .unset, .unset, .unset] [(.int (p1 >>> ((4 : Int32) &&& 31))), (.ref b17), (.ref b14), (.int zC), (.long q1), (.ref b11), (.int p0), (.int zB), (.long q0), (.int zA), (.ref a10), (.ref b9), (.ref b9)]))) (fun u k => XT.ishr X20.here hx rfl (hb hby at_98) rfl k) ?_
  refine Go.back (t' := (T20.setTop (mkF m 101 #[.val (.int p0), .val (.int p1), .val (.long q0), .second, .val (.long q1), .second, .val (.int zA), .val (.int zB), .val (.int zC), .val (.int zD), .val (.int (p0 ^^^ (-9 : Int32))), .unset, .unset, .unset] [(.int zD), (.int (p1 >>> ((4 : Int32) &&& 31))), (.ref b17), (.ref b14), (.int zC), (.long q1), (.ref b11), (.int p0), (.int zB), (.long q0), (.int zA), (.ref a10), (.ref b9), (.ref b9)]))) (fun u k => XS.iload X20.here hx rfl (hb hby at_99) rfl k) ?_
  have f21 := ((f18.ext E17).keep Kc20)
  have f22 := ((((((((D9 (Or.inr (hw _ (List.mem_of_getElem? (i := 42) rfl))) (ty := (.object "java/lang/String")) (by decide)).ext E10).ext E11).keep Kc13 (ninS ne_b9_b11 nin0)).ext E14).keep Kc16 (ninS ne_b9_b14 nin0)).ext E17).keep Kc20 (ninS ne_b9_b17 nin0))
  have f23 := ((((((((D9 (Or.inr (hw _ (List.mem_of_getElem? (i := 44) rfl))) (ty := .boolean) (by decide)).ext E10).ext E11).keep Kc13 (ninS ne_b9_b11 nin0)).ext E14).keep Kc16 (ninS ne_b9_b14 nin0)).ext E17).keep Kc20 (ninS ne_b9_b17 nin0))
  have f24 := ((((((((D9 (Or.inr (hw _ (List.mem_of_getElem? (i := 46) rfl))) (ty := .long) (by decide)).ext E10).ext E11).keep Kc13 (ninS ne_b9_b11 nin0)).ext E14).keep Kc16 (ninS ne_b9_b14 nin0)).ext E17).keep Kc20 (ninS ne_b9_b17 nin0))
  have f25 := ((((((((D9 (Or.inr (hw _ (List.mem_of_getElem? (i := 48) rfl))) (ty := .boolean) (by decide)).ext E10).ext E11).keep Kc13 (ninS ne_b9_b11 nin0)).ext E14).keep Kc16 (ninS ne_b9_b14 nin0)).ext E17).keep Kc20 (ninS ne_b9_b17 nin0))
  have f26 := ((((((((D9 (Or.inr (hw _ (List.mem_of_getElem? (i := 50) rfl))) (ty := .int) (by decide)).ext E10).ext E11).keep Kc13 (ninS ne_b9_b11 nin0)).ext E14).keep Kc16 (ninS ne_b9_b14 nin0)).ext E17).keep Kc20 (ninS ne_b9_b17 nin0))
  have f27 := ((((((((D9 (Or.inr (hw _ (List.mem_of_getElem? (i := 52) rfl))) (ty := (.object "java/util/List")) (by decide)).ext E10).ext E11).keep Kc13 (ninS ne_b9_b11 nin0)).ext E14).keep Kc16 (ninS ne_b9_b14 nin0)).ext E17).keep Kc20 (ninS ne_b9_b17 nin0))
  have f28 := ((((((((D9 (Or.inr (hw _ (List.mem_of_getElem? (i := 54) rfl))) (ty := .long) (by decide)).ext E10).ext E11).keep Kc13 (ninS ne_b9_b11 nin0)).ext E14).keep Kc16 (ninS ne_b9_b14 nin0)).ext E17).keep Kc20 (ninS ne_b9_b17 nin0))
  have f29 := ((((((((D9 (Or.inr (hw _ (List.mem_of_getElem? (i := 56) rfl))) (ty := .boolean) (by decide)).ext E10).ext E11).keep Kc13 (ninS ne_b9_b11 nin0)).ext E14).keep Kc16 (ninS ne_b9_b14 nin0)).ext E17).keep Kc20 (ninS ne_b9_b17 nin0))
  have f30 := ((((((((D9 (Or.inr (hw _ (List.mem_of_getElem? (i := 58) rfl))) (ty := (.object "java/util/List")) (by decide)).ext E10).ext E11).keep Kc13 (ninS ne_b9_b11 nin0)).ext E14).keep Kc16 (ninS ne_b9_b14 nin0)).ext E17).keep Kc20 (ninS ne_b9_b17 nin0))
  have f31 := ((((((((D9 (Or.inr (hw _ (List.mem_of_getElem? (i := 60) rfl))) (ty := (.object "java/util/List")) (by decide)).ext E10).ext E11).keep Kc13 (ninS ne_b9_b11 nin0)).ext E14).keep Kc16 (ninS ne_b9_b14 nin0)).ext E17).keep Kc20 (ninS ne_b9_b17 nin0))
  have f32 := ((((((((D9 (Or.inr (hw _ (List.mem_of_getElem? (i := 62) rfl))) (ty := .int) (by decide)).ext E10).ext E11).keep Kc13 (ninS ne_b9_b11 nin0)).ext E14).keep Kc16 (ninS ne_b9_b14 nin0)).ext E17).keep Kc20 (ninS ne_b9_b17 nin0))
  have f33 := ((((((((D9 (Or.inr (hw _ (List.mem_of_getElem? (i := 64) rfl))) (ty := .boolean) (by decide)).ext E10).ext E11).keep Kc13 (ninS ne_b9_b11 nin0)).ext E14).keep Kc16 (ninS ne_b9_b14 nin0)).ext E17).keep Kc20 (ninS ne_b9_b17 nin0))
  obtain ⟨_, _, ⟨T34, L34, k34, n34⟩, -, X34, ⟨Lc34, hQ34, l34, y34, z34⟩, st34⟩ := X20.specialBack hx (y := (⟨"com/example/persistutils/persistutils/engine/PostgresTables$Table", "<init>", "(Ljava/lang/String;ZJZILjava/util/List;JZLjava/util/List;Ljava/util/List;IZ)V"⟩ : MethodName)) rfl hown (mvT hZ (hw _ (List.mem_of_getElem? (i := 37) rfl))) (mvT hZ (hw _ (List.mem_of_getElem? (i := 38) rfl))) (mvT hZ (hw _ (List.mem_of_getElem? (i := 39) rfl))) (by decide) (backOf (W := 1) (own_tbInit l Z a0 hw [] b9 a10 zA q0 zB p0 b11 q1 zC b14 b17 (p1 >>> ((4 : Int32) &&& 31)) zD T20.heap n0 Z20 f21 f22 f23 f24 f25 f26 f27 f28 f29 f30 f31 f32 f33 gb9 bit_zA bit_zB bit_zC bit_zD) hZ (hw _ (List.mem_of_getElem? (i := 39) rfl)) (hw _ (List.mem_of_getElem? (i := 2) rfl)) (by decide) (by decide)) (g := (mkF m 101 #[.val (.int p0), .val (.int p1), .val (.long q0), .second, .val (.long q1), .second, .val (.int zA), .val (.int zB), .val (.int zC), .val (.int zD), .val (.int (p0 ^^^ (-9 : Int32))), .unset, .unset, .unset] [(.int zD), (.int (p1 >>> ((4 : Int32) &&& 31))), (.ref b17), (.ref b14), (.int zC), (.long q1), (.ref b11), (.int p0), (.int zB), (.long q0), (.int zA), (.ref a10), (.ref b9), (.ref b9)])) rfl (by rw [hml]; rfl) (Steps.refl _) (a := b9) (argsL := [(.ref a10), (.int zA), (.long q0), (.int zB), (.int p0), (.ref b11), (.long q1), (.int zC), (.ref b14), (.ref b17), (.int (p1 >>> ((4 : Int32) &&& 31))), (.int zD)]) (rest := [(.ref b9)]) (lenOf own_pd1 rfl) rfl (by show 2 * 0 + _ ≤ _; exact Nat.le_of_eq rfl) (hb hby at_101) (fun _ _ => ⟨rfl, rfl, (by decide : 6 + 0 ≤ _), (by decide : 29 + 0 ≤ _)⟩)
  dsimp only [Pt.U, Pt.locs, Pt.cells, Pt.slots] at X34 l34 y34 z34 st34 hQ34
  subst l34 y34 z34
  obtain ⟨rfl, N34, Kc34, P34_0, P34_1⟩ := hQ34
  have NA34 := Fr.app NA20 N34
  have Z34 : n0 ≤ T34.heap.size := Nat.le_trans Z20 Kc34.1
  have hk34 := Nat.le_trans hk20 Kc34.1
  have K34 := K20.trans Kc34 (allS (Or.inr sz9) all0)
  have O34 := O20.keep Kc34 (allS gb9 all0)
  refine Go.back (t' := (T34.setTop (mkF m 104 #[.val (.int p0), .val (.int p1), .val (.long q0), .second, .val (.long q1), .second, .val (.int zA), .val (.int zB), .val (.int zC), .val (.int zD), .val (.int (p0 ^^^ (-9 : Int32))), .unset, .unset, .unset] [(.ref b9)]))) (fun u k => st34.trans k) ?_
  refine Go.back (t' := (T34.setTop (mkF m 106 #[.val (.int p0), .val (.int p1), .val (.long q0), .second, .val (.long q1), .second, .val (.int zA), .val (.int zB), .val (.int zC), .val (.int zD), .val (.int (p0 ^^^ (-9 : Int32))), .val (.ref b9), .unset, .unset] []))) (fun u k => XS.astore X34.here hx rfl (hb hby at_104) rfl rfl (l' := #[.val (.int p0), .val (.int p1), .val (.long q0), .second, .val (.long q1), .second, .val (.int zA), .val (.int zB), .val (.int zC), .val (.int zD), .val (.int (p0 ^^^ (-9 : Int32))), .val (.ref b9), .unset, .unset]) rfl k) ?_
  obtain ⟨T35, h35, X35, e35, E35, A35, D35, -, st35⟩ := newO X34 hx hZ hown (hw _ (List.mem_of_getElem? (i := 0) rfl)) (hw _ (List.mem_of_getElem? (i := 1) rfl)) (hw _ (List.mem_of_getElem? (i := 2) rfl)) rfl (g := (mkF m 106 #[.val (.int p0), .val (.int p1), .val (.long q0), .second, .val (.long q1), .second, .val (.int zA), .val (.int zB), .val (.int zC), .val (.int zD), .val (.int (p0 ^^^ (-9 : Int32))), .val (.ref b9), .unset, .unset] [])) rfl (hb hby at_106) (by decide) (by decide)
  obtain ⟨b35, g35⟩ : ∃ z, z = T34.heap.size := ⟨_, rfl⟩
  rw [← g35] at A35 D35 st35
  have ne_b9_b35 : b9 ≠ b35 := Nat.ne_of_lt (Nat.lt_of_lt_of_le P34_0.lt (Nat.le_of_eq g35.symm))
  have f36 := (((f19.ext E17).keep Kc20).keep Kc34)
  have ne_b11_b35 : b11 ≠ b35 := Nat.ne_of_lt (Nat.lt_of_lt_of_le f36.lt (Nat.le_of_eq g35.symm))
  have f37 := (((P16_0.ext E17).keep Kc20).keep Kc34)
  have ne_b14_b35 : b14 ≠ b35 := Nat.ne_of_lt (Nat.lt_of_lt_of_le f37.lt (Nat.le_of_eq g35.symm))
  have f38 := (P20_0.keep Kc34)
  have ne_b17_b35 : b17 ≠ b35 := Nat.ne_of_lt (Nat.lt_of_lt_of_le f38.lt (Nat.le_of_eq g35.symm))
  have gb35 : n0 ≤ b35 := Nat.le_trans Z34 (Nat.le_of_eq g35.symm)
  have sz35 : h0.size ≤ b35 := Nat.le_trans K34.1 (Nat.le_of_eq g35.symm)
  have Z35 : n0 ≤ h35.size := Nat.le_trans Z34 E35.1
  have K35 := K34.ext E35
  have O35 := O34.ext E35
  have hk35 := Nat.le_trans hk34 E35.1
  refine Go.back (t' := (T35.setTop (mkF m 109 #[.val (.int p0), .val (.int p1), .val (.long q0), .second, .val (.long q1), .second, .val (.int zA), .val (.int zB), .val (.int zC), .val (.int zD), .val (.int (p0 ^^^ (-9 : Int32))), .val (.ref b9), .unset, .unset] [(.ref b35)]))) st35 ?_
  refine Go.back (t' := (T35.setTop (mkF m 110 #[.val (.int p0), .val (.int p1), .val (.long q0), .second, .val (.long q1), .second, .val (.int zA), .val (.int zB), .val (.int zC), .val (.int zD), .val (.int (p0 ^^^ (-9 : Int32))), .val (.ref b9), .unset, .unset] [(.ref b35), (.ref b35)]))) (fun u k => XS.dup X35.here hx rfl (hb hby at_109) rfl rfl k) ?_
  obtain ⟨a39, T39, h39, kk39, X39, e39, E39, hS39, hk39, hZ, hown, st39⟩ := ldcS (s := s) (vm0 := T10.vm) X35 hx hZ hown (hw _ (List.mem_of_getElem? (i := 65) rfl)) wS e35 hS10 hk35 (g := (mkF m 110 #[.val (.int p0), .val (.int p1), .val (.long q0), .second, .val (.long q1), .second, .val (.int zA), .val (.int zB), .val (.int zC), .val (.int zD), .val (.int (p0 ^^^ (-9 : Int32))), .val (.ref b9), .unset, .unset] [(.ref b35), (.ref b35)])) rfl (hb hby at_110) (n := 4) (by decide) (by decide) (by decide) (by decide)
  have Z39 : n0 ≤ h39.size := Nat.le_trans Z35 E39.1
  have K39 := K35.ext E39
  have O39 := O35.ext E39
  refine Go.back (t' := (T39.setTop (mkF m 112 #[.val (.int p0), .val (.int p1), .val (.long q0), .second, .val (.long q1), .second, .val (.int zA), .val (.int zB), .val (.int zC), .val (.int zD), .val (.int (p0 ^^^ (-9 : Int32))), .val (.ref b9), .unset, .unset] [(.ref a39), (.ref b35), (.ref b35)]))) st39 ?_
  have sg40 : ∀ u, Steps p.tables e below (T39.setTop (mkF m 122 #[.val (.int p0), .val (.int p1), .val (.long q0), .second, .val (.long q1), .second, .val (.int zA), .val (.int zB), .val (.int zC), .val (.int zD), .val (.int (p0 ^^^ (-9 : Int32))), .val (.ref b9), .unset, .unset] [(.int (if zA = (0 : Int32) then (1 : Int32) else (0 : Int32))), (.ref a39), (.ref b35), (.ref b35)])) u → Steps p.tables e below (T39.setTop (mkF m 112 #[.val (.int p0), .val (.int p1), .val (.long q0), .second, .val (.long q1), .second, .val (.int zA), .val (.int zB), .val (.int zC), .val (.int zD), .val (.int (p0 ^^^ (-9 : Int32))), .val (.ref b9), .unset, .unset] [(.ref a39), (.ref b35), (.ref b35)])) u := by
    intro u k
    refine XS.iload X39.here hx rfl (hb hby at_112) rfl ?_
    show Steps p.tables e below (T39.setTop (mkF m 114 #[.val (.int p0), .val (.int p1), .val (.long q0), .second, .val (.long q1), .second, .val (.int zA), .val (.int zB), .val (.int zC), .val (.int zD), .val (.int (p0 ^^^ (-9 : Int32))), .val (.ref b9), .unset, .unset] [(.int zA), (.ref a39), (.ref b35), (.ref b35)])) u
    by_cases hc41 : zA = (0 : Int32)
    · skip
      refine XS.ifNo X39.here hx rfl (hb hby at_114) rfl (XT.i0_ne_f hc41) ?_
      show Steps p.tables e below (T39.setTop (mkF m 117 #[.val (.int p0), .val (.int p1), .val (.long q0), .second, .val (.long q1), .second, .val (.int zA), .val (.int zB), .val (.int zC), .val (.int zD), .val (.int (p0 ^^^ (-9 : Int32))), .val (.ref b9), .unset, .unset] [(.ref a39), (.ref b35), (.ref b35)])) u
      refine XT.iconstV X39.here hx rfl (1 : Int32) (hb hby at_117) (by decide) ?_
      show Steps p.tables e below (T39.setTop (mkF m 118 #[.val (.int p0), .val (.int p1), .val (.long q0), .second, .val (.long q1), .second, .val (.int zA), .val (.int zB), .val (.int zC), .val (.int zD), .val (.int (p0 ^^^ (-9 : Int32))), .val (.ref b9), .unset, .unset] [(.int (1 : Int32)), (.ref a39), (.ref b35), (.ref b35)])) u
      refine XS.goto X39.here hx rfl (pc0 := 118) (pc' := 122) rfl (hb hby at_118) (by decide) (by decide) ?_
      show Steps p.tables e below (T39.setTop (mkF m 122 #[.val (.int p0), .val (.int p1), .val (.long q0), .second, .val (.long q1), .second, .val (.int zA), .val (.int zB), .val (.int zC), .val (.int zD), .val (.int (p0 ^^^ (-9 : Int32))), .val (.ref b9), .unset, .unset] [(.int (1 : Int32)), (.ref a39), (.ref b35), (.ref b35)])) u
      try simp only [if_pos hc41] at k
      exact k
    · skip
      refine XS.ifYes X39.here hx rfl (pc0 := 114) (pc' := 121) rfl (hb hby at_114) rfl (XT.i0_ne_t hc41) (by decide) (by decide) ?_
      show Steps p.tables e below (T39.setTop (mkF m 121 #[.val (.int p0), .val (.int p1), .val (.long q0), .second, .val (.long q1), .second, .val (.int zA), .val (.int zB), .val (.int zC), .val (.int zD), .val (.int (p0 ^^^ (-9 : Int32))), .val (.ref b9), .unset, .unset] [(.ref a39), (.ref b35), (.ref b35)])) u
      refine XT.iconstV X39.here hx rfl (0 : Int32) (hb hby at_121) (by decide) ?_
      show Steps p.tables e below (T39.setTop (mkF m 122 #[.val (.int p0), .val (.int p1), .val (.long q0), .second, .val (.long q1), .second, .val (.int zA), .val (.int zB), .val (.int zC), .val (.int zD), .val (.int (p0 ^^^ (-9 : Int32))), .val (.ref b9), .unset, .unset] [(.int (0 : Int32)), (.ref a39), (.ref b35), (.ref b35)])) u
      try simp only [if_neg hc41] at k
      exact k
  refine Go.back (t' := (T39.setTop (mkF m 122 #[.val (.int p0), .val (.int p1), .val (.long q0), .second, .val (.long q1), .second, .val (.int zA), .val (.int zB), .val (.int zC), .val (.int zD), .val (.int (p0 ^^^ (-9 : Int32))), .val (.ref b9), .unset, .unset] [(.int (if zA = (0 : Int32) then (1 : Int32) else (0 : Int32))), (.ref a39), (.ref b35), (.ref b35)]))) sg40 ?_
  obtain ⟨nA, h_nA⟩ : ∃ z : Int32, z = (if zA = (0 : Int32) then (1 : Int32) else (0 : Int32)) := ⟨_, rfl⟩
  rw [← h_nA]
  have bit_nA : nA = 0 ∨ nA = 1 := by rw [h_nA]; repeat (split <;> try simp)
  refine Go.back (t' := (T39.setTop (mkF m 124 #[.val (.int p0), .val (.int p1), .val (.long q0), .second, .val (.long q1), .second, .val (.int zA), .val (.int zB), .val (.int zC), .val (.int zD), .val (.int (p0 ^^^ (-9 : Int32))), .val (.ref b9), .unset, .unset] [(.long q1), (.int nA), (.ref a39), (.ref b35), (.ref b35)]))) (fun u k => XT.lload X39.here hx rfl (hb hby at_122) rfl k) ?_
  have sg42 : ∀ u, Steps p.tables e below (T39.setTop (mkF m 134 #[.val (.int p0), .val (.int p1), .val (.long q0), .second, .val (.long q1), .second, .val (.int zA), .val (.int zB), .val (.int zC), .val (.int zD), .val (.int (p0 ^^^ (-9 : Int32))), .val (.ref b9), .unset, .unset] [(.int (if zB = (0 : Int32) then (1 : Int32) else (0 : Int32))), (.long q1), (.int nA), (.ref a39), (.ref b35), (.ref b35)])) u → Steps p.tables e below (T39.setTop (mkF m 124 #[.val (.int p0), .val (.int p1), .val (.long q0), .second, .val (.long q1), .second, .val (.int zA), .val (.int zB), .val (.int zC), .val (.int zD), .val (.int (p0 ^^^ (-9 : Int32))), .val (.ref b9), .unset, .unset] [(.long q1), (.int nA), (.ref a39), (.ref b35), (.ref b35)])) u := by
    intro u k
    refine XS.iload X39.here hx rfl (hb hby at_124) rfl ?_
    show Steps p.tables e below (T39.setTop (mkF m 126 #[.val (.int p0), .val (.int p1), .val (.long q0), .second, .val (.long q1), .second, .val (.int zA), .val (.int zB), .val (.int zC), .val (.int zD), .val (.int (p0 ^^^ (-9 : Int32))), .val (.ref b9), .unset, .unset] [(.int zB), (.long q1), (.int nA), (.ref a39), (.ref b35), (.ref b35)])) u
    by_cases hc43 : zB = (0 : Int32)
    · skip
      refine XS.ifNo X39.here hx rfl (hb hby at_126) rfl (XT.i0_ne_f hc43) ?_
      show Steps p.tables e below (T39.setTop (mkF m 129 #[.val (.int p0), .val (.int p1), .val (.long q0), .second, .val (.long q1), .second, .val (.int zA), .val (.int zB), .val (.int zC), .val (.int zD), .val (.int (p0 ^^^ (-9 : Int32))), .val (.ref b9), .unset, .unset] [(.long q1), (.int nA), (.ref a39), (.ref b35), (.ref b35)])) u
      refine XT.iconstV X39.here hx rfl (1 : Int32) (hb hby at_129) (by decide) ?_
      show Steps p.tables e below (T39.setTop (mkF m 130 #[.val (.int p0), .val (.int p1), .val (.long q0), .second, .val (.long q1), .second, .val (.int zA), .val (.int zB), .val (.int zC), .val (.int zD), .val (.int (p0 ^^^ (-9 : Int32))), .val (.ref b9), .unset, .unset] [(.int (1 : Int32)), (.long q1), (.int nA), (.ref a39), (.ref b35), (.ref b35)])) u
      refine XS.goto X39.here hx rfl (pc0 := 130) (pc' := 134) rfl (hb hby at_130) (by decide) (by decide) ?_
      show Steps p.tables e below (T39.setTop (mkF m 134 #[.val (.int p0), .val (.int p1), .val (.long q0), .second, .val (.long q1), .second, .val (.int zA), .val (.int zB), .val (.int zC), .val (.int zD), .val (.int (p0 ^^^ (-9 : Int32))), .val (.ref b9), .unset, .unset] [(.int (1 : Int32)), (.long q1), (.int nA), (.ref a39), (.ref b35), (.ref b35)])) u
      try simp only [if_pos hc43] at k
      exact k
    · skip
      refine XS.ifYes X39.here hx rfl (pc0 := 126) (pc' := 133) rfl (hb hby at_126) rfl (XT.i0_ne_t hc43) (by decide) (by decide) ?_
      show Steps p.tables e below (T39.setTop (mkF m 133 #[.val (.int p0), .val (.int p1), .val (.long q0), .second, .val (.long q1), .second, .val (.int zA), .val (.int zB), .val (.int zC), .val (.int zD), .val (.int (p0 ^^^ (-9 : Int32))), .val (.ref b9), .unset, .unset] [(.long q1), (.int nA), (.ref a39), (.ref b35), (.ref b35)])) u
      refine XT.iconstV X39.here hx rfl (0 : Int32) (hb hby at_133) (by decide) ?_
      show Steps p.tables e below (T39.setTop (mkF m 134 #[.val (.int p0), .val (.int p1), .val (.long q0), .second, .val (.long q1), .second, .val (.int zA), .val (.int zB), .val (.int zC), .val (.int zD), .val (.int (p0 ^^^ (-9 : Int32))), .val (.ref b9), .unset, .unset] [(.int (0 : Int32)), (.long q1), (.int nA), (.ref a39), (.ref b35), (.ref b35)])) u
      try simp only [if_neg hc43] at k
      exact k
  refine Go.back (t' := (T39.setTop (mkF m 134 #[.val (.int p0), .val (.int p1), .val (.long q0), .second, .val (.long q1), .second, .val (.int zA), .val (.int zB), .val (.int zC), .val (.int zD), .val (.int (p0 ^^^ (-9 : Int32))), .val (.ref b9), .unset, .unset] [(.int (if zB = (0 : Int32) then (1 : Int32) else (0 : Int32))), (.long q1), (.int nA), (.ref a39), (.ref b35), (.ref b35)]))) sg42 ?_
  obtain ⟨nB, h_nB⟩ : ∃ z : Int32, z = (if zB = (0 : Int32) then (1 : Int32) else (0 : Int32)) := ⟨_, rfl⟩
  rw [← h_nB]
  have bit_nB : nB = 0 ∨ nB = 1 := by rw [h_nB]; repeat (split <;> try simp)
  refine Go.back (t' := (T39.setTop (mkF m 136 #[.val (.int p0), .val (.int p1), .val (.long q0), .second, .val (.long q1), .second, .val (.int zA), .val (.int zB), .val (.int zC), .val (.int zD), .val (.int (p0 ^^^ (-9 : Int32))), .val (.ref b9), .unset, .unset] [(.int (p0 ^^^ (-9 : Int32))), (.int nB), (.long q1), (.int nA), (.ref a39), (.ref b35), (.ref b35)]))) (fun u k => XS.iload X39.here hx rfl (hb hby at_134) rfl k) ?_
  obtain ⟨T44, h44, X44, e44, E44, A44, D44, -, st44⟩ := newO X39 hx hZ hown (hw _ (List.mem_of_getElem? (i := 11) rfl)) (hw _ (List.mem_of_getElem? (i := 12) rfl)) (hw _ (List.mem_of_getElem? (i := 13) rfl)) e39 (g := (mkF m 136 #[.val (.int p0), .val (.int p1), .val (.long q0), .second, .val (.long q1), .second, .val (.int zA), .val (.int zB), .val (.int zC), .val (.int zD), .val (.int (p0 ^^^ (-9 : Int32))), .val (.ref b9), .unset, .unset] [(.int (p0 ^^^ (-9 : Int32))), (.int nB), (.long q1), (.int nA), (.ref a39), (.ref b35), (.ref b35)])) rfl (hb hby at_136) (by decide) (by decide)
  obtain ⟨b44, g44⟩ : ∃ z, z = h39.size := ⟨_, rfl⟩
  rw [← g44] at A44 D44 st44
  have f45 := ((P34_0.ext E35).ext E39)
  have ne_b9_b44 : b9 ≠ b44 := Nat.ne_of_lt (Nat.lt_of_lt_of_le f45.lt (Nat.le_of_eq g44.symm))
  have f46 := ((f36.ext E35).ext E39)
  have ne_b11_b44 : b11 ≠ b44 := Nat.ne_of_lt (Nat.lt_of_lt_of_le f46.lt (Nat.le_of_eq g44.symm))
  have f47 := ((f37.ext E35).ext E39)
  have ne_b14_b44 : b14 ≠ b44 := Nat.ne_of_lt (Nat.lt_of_lt_of_le f47.lt (Nat.le_of_eq g44.symm))
  have f48 := ((f38.ext E35).ext E39)
  have ne_b17_b44 : b17 ≠ b44 := Nat.ne_of_lt (Nat.lt_of_lt_of_le f48.lt (Nat.le_of_eq g44.symm))
  have f49 := (A35.ext E39)
  have ne_b35_b44 : b35 ≠ b44 := Nat.ne_of_lt (Nat.lt_of_lt_of_le f49.lt (Nat.le_of_eq g44.symm))
  have gb44 : n0 ≤ b44 := Nat.le_trans Z39 (Nat.le_of_eq g44.symm)
  have sz44 : h0.size ≤ b44 := Nat.le_trans K39.1 (Nat.le_of_eq g44.symm)
  have Z44 : n0 ≤ h44.size := Nat.le_trans Z39 E44.1
  have K44 := K39.ext E44
  have O44 := O39.ext E44
  have hk44 := Nat.le_trans hk39 E44.1
  refine Go.back (t' := (T44.setTop (mkF m 139 #[.val (.int p0), .val (.int p1), .val (.long q0), .second, .val (.long q1), .second, .val (.int zA), .val (.int zB), .val (.int zC), .val (.int zD), .val (.int (p0 ^^^ (-9 : Int32))), .val (.ref b9), .unset, .unset] [(.ref b44), (.int (p0 ^^^ (-9 : Int32))), (.int nB), (.long q1), (.int nA), (.ref a39), (.ref b35), (.ref b35)]))) st44 ?_
  refine Go.back (t' := (T44.setTop (mkF m 140 #[.val (.int p0), .val (.int p1), .val (.long q0), .second, .val (.long q1), .second, .val (.int zA), .val (.int zB), .val (.int zC), .val (.int zD), .val (.int (p0 ^^^ (-9 : Int32))), .val (.ref b9), .unset, .unset] [(.ref b44), (.ref b44), (.int (p0 ^^^ (-9 : Int32))), (.int nB), (.long q1), (.int nA), (.ref a39), (.ref b35), (.ref b35)]))) (fun u k => XS.dup X44.here hx rfl (hb hby at_139) rfl rfl k) ?_
  obtain ⟨_, _, ⟨T50, L50, k50, n50⟩, -, X50, ⟨Lc50, hQ50, l50, y50, z50⟩, st50⟩ := X44.specialBack hx (y := (⟨"java/util/ArrayList", "<init>", "()V"⟩ : MethodName)) rfl hown (mvT hZ (hw _ (List.mem_of_getElem? (i := 14) rfl))) (mvT hZ (hw _ (List.mem_of_getElem? (i := 15) rfl))) (mvT hZ (hw _ (List.mem_of_getElem? (i := 16) rfl))) (by decide) (backOf (W := 9) (own_alInit l Z a0 hw [] b44 wD h44 n0 Z44 A44 (D44 (Or.inl (hw _ (List.mem_of_getElem? (i := 33) rfl))) (ty := .int) (by decide)) (D44 (Or.inl (hw _ (List.mem_of_getElem? (i := 36) rfl))) (ty := (.array (.object "java/lang/Object"))) (by decide)) gb44 O44 SD) hZ (hw _ (List.mem_of_getElem? (i := 16) rfl)) (hw _ (List.mem_of_getElem? (i := 13) rfl)) (by decide) (by decide)) (g := (mkF m 140 #[.val (.int p0), .val (.int p1), .val (.long q0), .second, .val (.long q1), .second, .val (.int zA), .val (.int zB), .val (.int zC), .val (.int zD), .val (.int (p0 ^^^ (-9 : Int32))), .val (.ref b9), .unset, .unset] [(.ref b44), (.ref b44), (.int (p0 ^^^ (-9 : Int32))), (.int nB), (.long q1), (.int nA), (.ref a39), (.ref b35), (.ref b35)])) rfl (by rw [hml]; rfl) (Steps.refl _) (a := b44) (argsL := []) (rest := [(.ref b44), (.int (p0 ^^^ (-9 : Int32))), (.int nB), (.long q1), (.int nA), (.ref a39), (.ref b35), (.ref b35)]) (lenOf own_pd0 rfl) rfl (by show 2 * 0 + _ ≤ _; exact Nat.le_of_eq rfl) (hb hby at_140) (fun _ _ => ⟨rfl, e44, (by decide : 10 + 0 ≤ _), (by decide : 52 + 0 ≤ _)⟩)
  dsimp only [Pt.U, Pt.locs, Pt.cells, Pt.slots] at X50 l50 y50 z50 st50 hQ50
  subst l50 y50 z50
  obtain ⟨rfl, N50, Kc50, P50_0⟩ := hQ50
  have NA50 := Fr.app NA34 N50
  have Z50 : n0 ≤ T50.heap.size := Nat.le_trans Z44 Kc50.1
  have hk50 := Nat.le_trans hk44 Kc50.1
  have K50 := K44.trans Kc50 (allS (Or.inr sz44) all0)
  have O50 := O44.keep Kc50 (allS gb44 all0)
  refine Go.back (t' := (T50.setTop (mkF m 143 #[.val (.int p0), .val (.int p1), .val (.long q0), .second, .val (.long q1), .second, .val (.int zA), .val (.int zB), .val (.int zC), .val (.int zD), .val (.int (p0 ^^^ (-9 : Int32))), .val (.ref b9), .unset, .unset] [(.ref b44), (.int (p0 ^^^ (-9 : Int32))), (.int nB), (.long q1), (.int nA), (.ref a39), (.ref b35), (.ref b35)]))) (fun u k => st50.trans k) ?_
  refine Go.back (t' := (T50.setTop (mkF m 144 #[.val (.int p0), .val (.int p1), .val (.long q0), .second, .val (.long q1), .second, .val (.int zA), .val (.int zB), .val (.int zC), .val (.int zD), .val (.int (p0 ^^^ (-9 : Int32))), .val (.ref b9), .unset, .unset] [(.long q0), (.ref b44), (.int (p0 ^^^ (-9 : Int32))), (.int nB), (.long q1), (.int nA), (.ref a39), (.ref b35), (.ref b35)]))) (fun u k => XT.lloadN X50.here hx rfl (hb hby at_143) rfl k) ?_
  have sg51 : ∀ u, Steps p.tables e below (T50.setTop (mkF m 154 #[.val (.int p0), .val (.int p1), .val (.long q0), .second, .val (.long q1), .second, .val (.int zA), .val (.int zB), .val (.int zC), .val (.int zD), .val (.int (p0 ^^^ (-9 : Int32))), .val (.ref b9), .unset, .unset] [(.int (if zC = (0 : Int32) then (1 : Int32) else (0 : Int32))), (.long q0), (.ref b44), (.int (p0 ^^^ (-9 : Int32))), (.int nB), (.long q1), (.int nA), (.ref a39), (.ref b35), (.ref b35)])) u → Steps p.tables e below (T50.setTop (mkF m 144 #[.val (.int p0), .val (.int p1), .val (.long q0), .second, .val (.long q1), .second, .val (.int zA), .val (.int zB), .val (.int zC), .val (.int zD), .val (.int (p0 ^^^ (-9 : Int32))), .val (.ref b9), .unset, .unset] [(.long q0), (.ref b44), (.int (p0 ^^^ (-9 : Int32))), (.int nB), (.long q1), (.int nA), (.ref a39), (.ref b35), (.ref b35)])) u := by
    intro u k
    refine XS.iload X50.here hx rfl (hb hby at_144) rfl ?_
    show Steps p.tables e below (T50.setTop (mkF m 146 #[.val (.int p0), .val (.int p1), .val (.long q0), .second, .val (.long q1), .second, .val (.int zA), .val (.int zB), .val (.int zC), .val (.int zD), .val (.int (p0 ^^^ (-9 : Int32))), .val (.ref b9), .unset, .unset] [(.int zC), (.long q0), (.ref b44), (.int (p0 ^^^ (-9 : Int32))), (.int nB), (.long q1), (.int nA), (.ref a39), (.ref b35), (.ref b35)])) u
    by_cases hc52 : zC = (0 : Int32)
    · skip
      refine XS.ifNo X50.here hx rfl (hb hby at_146) rfl (XT.i0_ne_f hc52) ?_
      show Steps p.tables e below (T50.setTop (mkF m 149 #[.val (.int p0), .val (.int p1), .val (.long q0), .second, .val (.long q1), .second, .val (.int zA), .val (.int zB), .val (.int zC), .val (.int zD), .val (.int (p0 ^^^ (-9 : Int32))), .val (.ref b9), .unset, .unset] [(.long q0), (.ref b44), (.int (p0 ^^^ (-9 : Int32))), (.int nB), (.long q1), (.int nA), (.ref a39), (.ref b35), (.ref b35)])) u
      refine XT.iconstV X50.here hx rfl (1 : Int32) (hb hby at_149) (by decide) ?_
      show Steps p.tables e below (T50.setTop (mkF m 150 #[.val (.int p0), .val (.int p1), .val (.long q0), .second, .val (.long q1), .second, .val (.int zA), .val (.int zB), .val (.int zC), .val (.int zD), .val (.int (p0 ^^^ (-9 : Int32))), .val (.ref b9), .unset, .unset] [(.int (1 : Int32)), (.long q0), (.ref b44), (.int (p0 ^^^ (-9 : Int32))), (.int nB), (.long q1), (.int nA), (.ref a39), (.ref b35), (.ref b35)])) u
      refine XS.goto X50.here hx rfl (pc0 := 150) (pc' := 154) rfl (hb hby at_150) (by decide) (by decide) ?_
      show Steps p.tables e below (T50.setTop (mkF m 154 #[.val (.int p0), .val (.int p1), .val (.long q0), .second, .val (.long q1), .second, .val (.int zA), .val (.int zB), .val (.int zC), .val (.int zD), .val (.int (p0 ^^^ (-9 : Int32))), .val (.ref b9), .unset, .unset] [(.int (1 : Int32)), (.long q0), (.ref b44), (.int (p0 ^^^ (-9 : Int32))), (.int nB), (.long q1), (.int nA), (.ref a39), (.ref b35), (.ref b35)])) u
      try simp only [if_pos hc52] at k
      exact k
    · skip
      refine XS.ifYes X50.here hx rfl (pc0 := 146) (pc' := 153) rfl (hb hby at_146) rfl (XT.i0_ne_t hc52) (by decide) (by decide) ?_
      show Steps p.tables e below (T50.setTop (mkF m 153 #[.val (.int p0), .val (.int p1), .val (.long q0), .second, .val (.long q1), .second, .val (.int zA), .val (.int zB), .val (.int zC), .val (.int zD), .val (.int (p0 ^^^ (-9 : Int32))), .val (.ref b9), .unset, .unset] [(.long q0), (.ref b44), (.int (p0 ^^^ (-9 : Int32))), (.int nB), (.long q1), (.int nA), (.ref a39), (.ref b35), (.ref b35)])) u
      refine XT.iconstV X50.here hx rfl (0 : Int32) (hb hby at_153) (by decide) ?_
      show Steps p.tables e below (T50.setTop (mkF m 154 #[.val (.int p0), .val (.int p1), .val (.long q0), .second, .val (.long q1), .second, .val (.int zA), .val (.int zB), .val (.int zC), .val (.int zD), .val (.int (p0 ^^^ (-9 : Int32))), .val (.ref b9), .unset, .unset] [(.int (0 : Int32)), (.long q0), (.ref b44), (.int (p0 ^^^ (-9 : Int32))), (.int nB), (.long q1), (.int nA), (.ref a39), (.ref b35), (.ref b35)])) u
      try simp only [if_neg hc52] at k
      exact k
  refine Go.back (t' := (T50.setTop (mkF m 154 #[.val (.int p0), .val (.int p1), .val (.long q0), .second, .val (.long q1), .second, .val (.int zA), .val (.int zB), .val (.int zC), .val (.int zD), .val (.int (p0 ^^^ (-9 : Int32))), .val (.ref b9), .unset, .unset] [(.int (if zC = (0 : Int32) then (1 : Int32) else (0 : Int32))), (.long q0), (.ref b44), (.int (p0 ^^^ (-9 : Int32))), (.int nB), (.long q1), (.int nA), (.ref a39), (.ref b35), (.ref b35)]))) sg51 ?_
  obtain ⟨nC, h_nC⟩ : ∃ z : Int32, z = (if zC = (0 : Int32) then (1 : Int32) else (0 : Int32)) := ⟨_, rfl⟩
  rw [← h_nC]
  have bit_nC : nC = 0 ∨ nC = 1 := by rw [h_nC]; repeat (split <;> try simp)
  obtain ⟨T53, h53, X53, e53, E53, A53, D53, -, st53⟩ := newO X50 hx hZ hown (hw _ (List.mem_of_getElem? (i := 11) rfl)) (hw _ (List.mem_of_getElem? (i := 12) rfl)) (hw _ (List.mem_of_getElem? (i := 13) rfl)) rfl (g := (mkF m 154 #[.val (.int p0), .val (.int p1), .val (.long q0), .second, .val (.long q1), .second, .val (.int zA), .val (.int zB), .val (.int zC), .val (.int zD), .val (.int (p0 ^^^ (-9 : Int32))), .val (.ref b9), .unset, .unset] [(.int nC), (.long q0), (.ref b44), (.int (p0 ^^^ (-9 : Int32))), (.int nB), (.long q1), (.int nA), (.ref a39), (.ref b35), (.ref b35)])) rfl (hb hby at_154) (by decide) (by decide)
  obtain ⟨b53, g53⟩ : ∃ z, z = T50.heap.size := ⟨_, rfl⟩
  rw [← g53] at A53 D53 st53
  have f54 := ((f45.ext E44).keep Kc50)
  have ne_b9_b53 : b9 ≠ b53 := Nat.ne_of_lt (Nat.lt_of_lt_of_le f54.lt (Nat.le_of_eq g53.symm))
  have f55 := ((f46.ext E44).keep Kc50)
  have ne_b11_b53 : b11 ≠ b53 := Nat.ne_of_lt (Nat.lt_of_lt_of_le f55.lt (Nat.le_of_eq g53.symm))
  have f56 := ((f47.ext E44).keep Kc50)
  have ne_b14_b53 : b14 ≠ b53 := Nat.ne_of_lt (Nat.lt_of_lt_of_le f56.lt (Nat.le_of_eq g53.symm))
  have f57 := ((f48.ext E44).keep Kc50)
  have ne_b17_b53 : b17 ≠ b53 := Nat.ne_of_lt (Nat.lt_of_lt_of_le f57.lt (Nat.le_of_eq g53.symm))
  have f58 := ((f49.ext E44).keep Kc50)
  have ne_b35_b53 : b35 ≠ b53 := Nat.ne_of_lt (Nat.lt_of_lt_of_le f58.lt (Nat.le_of_eq g53.symm))
  have ne_b44_b53 : b44 ≠ b53 := Nat.ne_of_lt (Nat.lt_of_lt_of_le P50_0.lt (Nat.le_of_eq g53.symm))
  have gb53 : n0 ≤ b53 := Nat.le_trans Z50 (Nat.le_of_eq g53.symm)
  have sz53 : h0.size ≤ b53 := Nat.le_trans K50.1 (Nat.le_of_eq g53.symm)
  have Z53 : n0 ≤ h53.size := Nat.le_trans Z50 E53.1
  have K53 := K50.ext E53
  have O53 := O50.ext E53
  have hk53 := Nat.le_trans hk50 E53.1
  refine Go.back (t' := (T53.setTop (mkF m 157 #[.val (.int p0), .val (.int p1), .val (.long q0), .second, .val (.long q1), .second, .val (.int zA), .val (.int zB), .val (.int zC), .val (.int zD), .val (.int (p0 ^^^ (-9 : Int32))), .val (.ref b9), .unset, .unset] [(.ref b53), (.int nC), (.long q0), (.ref b44), (.int (p0 ^^^ (-9 : Int32))), (.int nB), (.long q1), (.int nA), (.ref a39), (.ref b35), (.ref b35)]))) st53 ?_
  refine Go.back (t' := (T53.setTop (mkF m 158 #[.val (.int p0), .val (.int p1), .val (.long q0), .second, .val (.long q1), .second, .val (.int zA), .val (.int zB), .val (.int zC), .val (.int zD), .val (.int (p0 ^^^ (-9 : Int32))), .val (.ref b9), .unset, .unset] [(.ref b53), (.ref b53), (.int nC), (.long q0), (.ref b44), (.int (p0 ^^^ (-9 : Int32))), (.int nB), (.long q1), (.int nA), (.ref a39), (.ref b35), (.ref b35)]))) (fun u k => XS.dup X53.here hx rfl (hb hby at_157) rfl rfl k) ?_
  obtain ⟨_, _, ⟨T59, L59, k59, n59⟩, -, X59, ⟨Lc59, hQ59, l59, y59, z59⟩, st59⟩ := X53.specialBack hx (y := (⟨"java/util/ArrayList", "<init>", "()V"⟩ : MethodName)) rfl hown (mvT hZ (hw _ (List.mem_of_getElem? (i := 14) rfl))) (mvT hZ (hw _ (List.mem_of_getElem? (i := 15) rfl))) (mvT hZ (hw _ (List.mem_of_getElem? (i := 16) rfl))) (by decide) (backOf (W := 13) (own_alInit l Z a0 hw [] b53 wD h53 n0 Z53 A53 (D53 (Or.inl (hw _ (List.mem_of_getElem? (i := 33) rfl))) (ty := .int) (by decide)) (D53 (Or.inl (hw _ (List.mem_of_getElem? (i := 36) rfl))) (ty := (.array (.object "java/lang/Object"))) (by decide)) gb53 O53 SD) hZ (hw _ (List.mem_of_getElem? (i := 16) rfl)) (hw _ (List.mem_of_getElem? (i := 13) rfl)) (by decide) (by decide)) (g := (mkF m 158 #[.val (.int p0), .val (.int p1), .val (.long q0), .second, .val (.long q1), .second, .val (.int zA), .val (.int zB), .val (.int zC), .val (.int zD), .val (.int (p0 ^^^ (-9 : Int32))), .val (.ref b9), .unset, .unset] [(.ref b53), (.ref b53), (.int nC), (.long q0), (.ref b44), (.int (p0 ^^^ (-9 : Int32))), (.int nB), (.long q1), (.int nA), (.ref a39), (.ref b35), (.ref b35)])) rfl (by rw [hml]; rfl) (Steps.refl _) (a := b53) (argsL := []) (rest := [(.ref b53), (.int nC), (.long q0), (.ref b44), (.int (p0 ^^^ (-9 : Int32))), (.int nB), (.long q1), (.int nA), (.ref a39), (.ref b35), (.ref b35)]) (lenOf own_pd0 rfl) rfl (by show 2 * 0 + _ ≤ _; exact Nat.le_of_eq rfl) (hb hby at_158) (fun _ _ => ⟨rfl, e53, (by decide : 11 + 0 ≤ _), (by decide : 55 + 0 ≤ _)⟩)
  dsimp only [Pt.U, Pt.locs, Pt.cells, Pt.slots] at X59 l59 y59 z59 st59 hQ59
  subst l59 y59 z59
  obtain ⟨rfl, N59, Kc59, P59_0⟩ := hQ59
  have NA59 := Fr.app NA50 N59
  have Z59 : n0 ≤ T59.heap.size := Nat.le_trans Z53 Kc59.1
  have hk59 := Nat.le_trans hk53 Kc59.1
  have K59 := K53.trans Kc59 (allS (Or.inr sz53) all0)
  have O59 := O53.keep Kc59 (allS gb53 all0)
  refine Go.back (t' := (T59.setTop (mkF m 161 #[.val (.int p0), .val (.int p1), .val (.long q0), .second, .val (.long q1), .second, .val (.int zA), .val (.int zB), .val (.int zC), .val (.int zD), .val (.int (p0 ^^^ (-9 : Int32))), .val (.ref b9), .unset, .unset] [(.ref b53), (.int nC), (.long q0), (.ref b44), (.int (p0 ^^^ (-9 : Int32))), (.int nB), (.long q1), (.int nA), (.ref a39), (.ref b35), (.ref b35)]))) (fun u k => st59.trans k) ?_
  obtain ⟨T60, h60, X60, e60, E60, A60, D60, -, st60⟩ := newO X59 hx hZ hown (hw _ (List.mem_of_getElem? (i := 11) rfl)) (hw _ (List.mem_of_getElem? (i := 12) rfl)) (hw _ (List.mem_of_getElem? (i := 13) rfl)) rfl (g := (mkF m 161 #[.val (.int p0), .val (.int p1), .val (.long q0), .second, .val (.long q1), .second, .val (.int zA), .val (.int zB), .val (.int zC), .val (.int zD), .val (.int (p0 ^^^ (-9 : Int32))), .val (.ref b9), .unset, .unset] [(.ref b53), (.int nC), (.long q0), (.ref b44), (.int (p0 ^^^ (-9 : Int32))), (.int nB), (.long q1), (.int nA), (.ref a39), (.ref b35), (.ref b35)])) rfl (hb hby at_161) (by decide) (by decide)
  obtain ⟨b60, g60⟩ : ∃ z, z = T59.heap.size := ⟨_, rfl⟩
  rw [← g60] at A60 D60 st60
  have f61 := ((f54.ext E53).keep Kc59)
  have ne_b9_b60 : b9 ≠ b60 := Nat.ne_of_lt (Nat.lt_of_lt_of_le f61.lt (Nat.le_of_eq g60.symm))
  have f62 := ((f55.ext E53).keep Kc59)
  have ne_b11_b60 : b11 ≠ b60 := Nat.ne_of_lt (Nat.lt_of_lt_of_le f62.lt (Nat.le_of_eq g60.symm))
  have f63 := ((f56.ext E53).keep Kc59)
  have ne_b14_b60 : b14 ≠ b60 := Nat.ne_of_lt (Nat.lt_of_lt_of_le f63.lt (Nat.le_of_eq g60.symm))
  have f64 := ((f57.ext E53).keep Kc59)
  have ne_b17_b60 : b17 ≠ b60 := Nat.ne_of_lt (Nat.lt_of_lt_of_le f64.lt (Nat.le_of_eq g60.symm))
  have f65 := ((f58.ext E53).keep Kc59)
  have ne_b35_b60 : b35 ≠ b60 := Nat.ne_of_lt (Nat.lt_of_lt_of_le f65.lt (Nat.le_of_eq g60.symm))
  have f66 := ((P50_0.ext E53).keep Kc59)
  have ne_b44_b60 : b44 ≠ b60 := Nat.ne_of_lt (Nat.lt_of_lt_of_le f66.lt (Nat.le_of_eq g60.symm))
  have ne_b53_b60 : b53 ≠ b60 := Nat.ne_of_lt (Nat.lt_of_lt_of_le P59_0.lt (Nat.le_of_eq g60.symm))
  have gb60 : n0 ≤ b60 := Nat.le_trans Z59 (Nat.le_of_eq g60.symm)
  have sz60 : h0.size ≤ b60 := Nat.le_trans K59.1 (Nat.le_of_eq g60.symm)
  have Z60 : n0 ≤ h60.size := Nat.le_trans Z59 E60.1
  have K60 := K59.ext E60
  have O60 := O59.ext E60
  have hk60 := Nat.le_trans hk59 E60.1
  refine Go.back (t' := (T60.setTop (mkF m 164 #[.val (.int p0), .val (.int p1), .val (.long q0), .second, .val (.long q1), .second, .val (.int zA), .val (.int zB), .val (.int zC), .val (.int zD), .val (.int (p0 ^^^ (-9 : Int32))), .val (.ref b9), .unset, .unset] [(.ref b60), (.ref b53), (.int nC), (.long q0), (.ref b44), (.int (p0 ^^^ (-9 : Int32))), (.int nB), (.long q1), (.int nA), (.ref a39), (.ref b35), (.ref b35)]))) st60 ?_
  refine Go.back (t' := (T60.setTop (mkF m 165 #[.val (.int p0), .val (.int p1), .val (.long q0), .second, .val (.long q1), .second, .val (.int zA), .val (.int zB), .val (.int zC), .val (.int zD), .val (.int (p0 ^^^ (-9 : Int32))), .val (.ref b9), .unset, .unset] [(.ref b60), (.ref b60), (.ref b53), (.int nC), (.long q0), (.ref b44), (.int (p0 ^^^ (-9 : Int32))), (.int nB), (.long q1), (.int nA), (.ref a39), (.ref b35), (.ref b35)]))) (fun u k => XS.dup X60.here hx rfl (hb hby at_164) rfl rfl k) ?_
  obtain ⟨_, _, ⟨T67, L67, k67, n67⟩, -, X67, ⟨Lc67, hQ67, l67, y67, z67⟩, st67⟩ := X60.specialBack hx (y := (⟨"java/util/ArrayList", "<init>", "()V"⟩ : MethodName)) rfl hown (mvT hZ (hw _ (List.mem_of_getElem? (i := 14) rfl))) (mvT hZ (hw _ (List.mem_of_getElem? (i := 15) rfl))) (mvT hZ (hw _ (List.mem_of_getElem? (i := 16) rfl))) (by decide) (backOf (W := 14) (own_alInit l Z a0 hw [] b60 wD h60 n0 Z60 A60 (D60 (Or.inl (hw _ (List.mem_of_getElem? (i := 33) rfl))) (ty := .int) (by decide)) (D60 (Or.inl (hw _ (List.mem_of_getElem? (i := 36) rfl))) (ty := (.array (.object "java/lang/Object"))) (by decide)) gb60 O60 SD) hZ (hw _ (List.mem_of_getElem? (i := 16) rfl)) (hw _ (List.mem_of_getElem? (i := 13) rfl)) (by decide) (by decide)) (g := (mkF m 165 #[.val (.int p0), .val (.int p1), .val (.long q0), .second, .val (.long q1), .second, .val (.int zA), .val (.int zB), .val (.int zC), .val (.int zD), .val (.int (p0 ^^^ (-9 : Int32))), .val (.ref b9), .unset, .unset] [(.ref b60), (.ref b60), (.ref b53), (.int nC), (.long q0), (.ref b44), (.int (p0 ^^^ (-9 : Int32))), (.int nB), (.long q1), (.int nA), (.ref a39), (.ref b35), (.ref b35)])) rfl (by rw [hml]; rfl) (Steps.refl _) (a := b60) (argsL := []) (rest := [(.ref b60), (.ref b53), (.int nC), (.long q0), (.ref b44), (.int (p0 ^^^ (-9 : Int32))), (.int nB), (.long q1), (.int nA), (.ref a39), (.ref b35), (.ref b35)]) (lenOf own_pd0 rfl) rfl (by show 2 * 0 + _ ≤ _; exact Nat.le_of_eq rfl) (hb hby at_165) (fun _ _ => ⟨rfl, e60, (by decide : 12 + 0 ≤ _), (by decide : 58 + 0 ≤ _)⟩)
  dsimp only [Pt.U, Pt.locs, Pt.cells, Pt.slots] at X67 l67 y67 z67 st67 hQ67
  subst l67 y67 z67
  obtain ⟨rfl, N67, Kc67, P67_0⟩ := hQ67
  have NA67 := Fr.app NA59 N67
  have Z67 : n0 ≤ T67.heap.size := Nat.le_trans Z60 Kc67.1
  have hk67 := Nat.le_trans hk60 Kc67.1
  have K67 := K60.trans Kc67 (allS (Or.inr sz60) all0)
  have O67 := O60.keep Kc67 (allS gb60 all0)
  refine Go.back (t' := (T67.setTop (mkF m 168 #[.val (.int p0), .val (.int p1), .val (.long q0), .second, .val (.long q1), .second, .val (.int zA), .val (.int zB), .val (.int zC), .val (.int zD), .val (.int (p0 ^^^ (-9 : Int32))), .val (.ref b9), .unset, .unset] [(.ref b60), (.ref b53), (.int nC), (.long q0), (.ref b44), (.int (p0 ^^^ (-9 : Int32))), (.int nB), (.long q1), (.int nA), (.ref a39), (.ref b35), (.ref b35)]))) (fun u k => st67.trans k) ?_
  refine Go.back (t' := (T67.setTop (mkF m 169 #[.val (.int p0), .val (.int p1), .val (.long q0), .second, .val (.long q1), .second, .val (.int zA), .val (.int zB), .val (.int zC), .val (.int zD), .val (.int (p0 ^^^ (-9 : Int32))), .val (.ref b9), .unset, .unset] [(.int p1), (.ref b60), (.ref b53), (.int nC), (.long q0), (.ref b44), (.int (p0 ^^^ (-9 : Int32))), (.int nB), (.long q1), (.int nA), (.ref a39), (.ref b35), (.ref b35)]))) (fun u k => XS.iloadN X67.here hx rfl (hb hby at_168) rfl k) ?_
  have sg68 : ∀ u, Steps p.tables e below (T67.setTop (mkF m 179 #[.val (.int p0), .val (.int p1), .val (.long q0), .second, .val (.long q1), .second, .val (.int zA), .val (.int zB), .val (.int zC), .val (.int zD), .val (.int (p0 ^^^ (-9 : Int32))), .val (.ref b9), .unset, .unset] [(.int (if zD = (0 : Int32) then (1 : Int32) else (0 : Int32))), (.int p1), (.ref b60), (.ref b53), (.int nC), (.long q0), (.ref b44), (.int (p0 ^^^ (-9 : Int32))), (.int nB), (.long q1), (.int nA), (.ref a39), (.ref b35), (.ref b35)])) u → Steps p.tables e below (T67.setTop (mkF m 169 #[.val (.int p0), .val (.int p1), .val (.long q0), .second, .val (.long q1), .second, .val (.int zA), .val (.int zB), .val (.int zC), .val (.int zD), .val (.int (p0 ^^^ (-9 : Int32))), .val (.ref b9), .unset, .unset] [(.int p1), (.ref b60), (.ref b53), (.int nC), (.long q0), (.ref b44), (.int (p0 ^^^ (-9 : Int32))), (.int nB), (.long q1), (.int nA), (.ref a39), (.ref b35), (.ref b35)])) u := by
    intro u k
    refine XS.iload X67.here hx rfl (hb hby at_169) rfl ?_
    show Steps p.tables e below (T67.setTop (mkF m 171 #[.val (.int p0), .val (.int p1), .val (.long q0), .second, .val (.long q1), .second, .val (.int zA), .val (.int zB), .val (.int zC), .val (.int zD), .val (.int (p0 ^^^ (-9 : Int32))), .val (.ref b9), .unset, .unset] [(.int zD), (.int p1), (.ref b60), (.ref b53), (.int nC), (.long q0), (.ref b44), (.int (p0 ^^^ (-9 : Int32))), (.int nB), (.long q1), (.int nA), (.ref a39), (.ref b35), (.ref b35)])) u
    by_cases hc69 : zD = (0 : Int32)
    · skip
      refine XS.ifNo X67.here hx rfl (hb hby at_171) rfl (XT.i0_ne_f hc69) ?_
      show Steps p.tables e below (T67.setTop (mkF m 174 #[.val (.int p0), .val (.int p1), .val (.long q0), .second, .val (.long q1), .second, .val (.int zA), .val (.int zB), .val (.int zC), .val (.int zD), .val (.int (p0 ^^^ (-9 : Int32))), .val (.ref b9), .unset, .unset] [(.int p1), (.ref b60), (.ref b53), (.int nC), (.long q0), (.ref b44), (.int (p0 ^^^ (-9 : Int32))), (.int nB), (.long q1), (.int nA), (.ref a39), (.ref b35), (.ref b35)])) u
      refine XT.iconstV X67.here hx rfl (1 : Int32) (hb hby at_174) (by decide) ?_
      show Steps p.tables e below (T67.setTop (mkF m 175 #[.val (.int p0), .val (.int p1), .val (.long q0), .second, .val (.long q1), .second, .val (.int zA), .val (.int zB), .val (.int zC), .val (.int zD), .val (.int (p0 ^^^ (-9 : Int32))), .val (.ref b9), .unset, .unset] [(.int (1 : Int32)), (.int p1), (.ref b60), (.ref b53), (.int nC), (.long q0), (.ref b44), (.int (p0 ^^^ (-9 : Int32))), (.int nB), (.long q1), (.int nA), (.ref a39), (.ref b35), (.ref b35)])) u
      refine XS.goto X67.here hx rfl (pc0 := 175) (pc' := 179) rfl (hb hby at_175) (by decide) (by decide) ?_
      show Steps p.tables e below (T67.setTop (mkF m 179 #[.val (.int p0), .val (.int p1), .val (.long q0), .second, .val (.long q1), .second, .val (.int zA), .val (.int zB), .val (.int zC), .val (.int zD), .val (.int (p0 ^^^ (-9 : Int32))), .val (.ref b9), .unset, .unset] [(.int (1 : Int32)), (.int p1), (.ref b60), (.ref b53), (.int nC), (.long q0), (.ref b44), (.int (p0 ^^^ (-9 : Int32))), (.int nB), (.long q1), (.int nA), (.ref a39), (.ref b35), (.ref b35)])) u
      try simp only [if_pos hc69] at k
      exact k
    · skip
      refine XS.ifYes X67.here hx rfl (pc0 := 171) (pc' := 178) rfl (hb hby at_171) rfl (XT.i0_ne_t hc69) (by decide) (by decide) ?_
      show Steps p.tables e below (T67.setTop (mkF m 178 #[.val (.int p0), .val (.int p1), .val (.long q0), .second, .val (.long q1), .second, .val (.int zA), .val (.int zB), .val (.int zC), .val (.int zD), .val (.int (p0 ^^^ (-9 : Int32))), .val (.ref b9), .unset, .unset] [(.int p1), (.ref b60), (.ref b53), (.int nC), (.long q0), (.ref b44), (.int (p0 ^^^ (-9 : Int32))), (.int nB), (.long q1), (.int nA), (.ref a39), (.ref b35), (.ref b35)])) u
      refine XT.iconstV X67.here hx rfl (0 : Int32) (hb hby at_178) (by decide) ?_
      show Steps p.tables e below (T67.setTop (mkF m 179 #[.val (.int p0), .val (.int p1), .val (.long q0), .second, .val (.long q1), .second, .val (.int zA), .val (.int zB), .val (.int zC), .val (.int zD), .val (.int (p0 ^^^ (-9 : Int32))), .val (.ref b9), .unset, .unset] [(.int (0 : Int32)), (.int p1), (.ref b60), (.ref b53), (.int nC), (.long q0), (.ref b44), (.int (p0 ^^^ (-9 : Int32))), (.int nB), (.long q1), (.int nA), (.ref a39), (.ref b35), (.ref b35)])) u
      try simp only [if_neg hc69] at k
      exact k
  refine Go.back (t' := (T67.setTop (mkF m 179 #[.val (.int p0), .val (.int p1), .val (.long q0), .second, .val (.long q1), .second, .val (.int zA), .val (.int zB), .val (.int zC), .val (.int zD), .val (.int (p0 ^^^ (-9 : Int32))), .val (.ref b9), .unset, .unset] [(.int (if zD = (0 : Int32) then (1 : Int32) else (0 : Int32))), (.int p1), (.ref b60), (.ref b53), (.int nC), (.long q0), (.ref b44), (.int (p0 ^^^ (-9 : Int32))), (.int nB), (.long q1), (.int nA), (.ref a39), (.ref b35), (.ref b35)]))) sg68 ?_
  obtain ⟨nD, h_nD⟩ : ∃ z : Int32, z = (if zD = (0 : Int32) then (1 : Int32) else (0 : Int32)) := ⟨_, rfl⟩
  rw [← h_nD]
  have bit_nD : nD = 0 ∨ nD = 1 := by rw [h_nD]; repeat (split <;> try simp)
  have f70 := ((f65.ext E60).keep Kc67)
  have f71 := ((((((((D35 (Or.inr (hw _ (List.mem_of_getElem? (i := 42) rfl))) (ty := (.object "java/lang/String")) (by decide)).ext E39).ext E44).keep Kc50 (ninS ne_b35_b44 nin0)).ext E53).keep Kc59 (ninS ne_b35_b53 nin0)).ext E60).keep Kc67 (ninS ne_b35_b60 nin0))
  have f72 := ((((((((D35 (Or.inr (hw _ (List.mem_of_getElem? (i := 44) rfl))) (ty := .boolean) (by decide)).ext E39).ext E44).keep Kc50 (ninS ne_b35_b44 nin0)).ext E53).keep Kc59 (ninS ne_b35_b53 nin0)).ext E60).keep Kc67 (ninS ne_b35_b60 nin0))
  have f73 := ((((((((D35 (Or.inr (hw _ (List.mem_of_getElem? (i := 46) rfl))) (ty := .long) (by decide)).ext E39).ext E44).keep Kc50 (ninS ne_b35_b44 nin0)).ext E53).keep Kc59 (ninS ne_b35_b53 nin0)).ext E60).keep Kc67 (ninS ne_b35_b60 nin0))
  have f74 := ((((((((D35 (Or.inr (hw _ (List.mem_of_getElem? (i := 48) rfl))) (ty := .boolean) (by decide)).ext E39).ext E44).keep Kc50 (ninS ne_b35_b44 nin0)).ext E53).keep Kc59 (ninS ne_b35_b53 nin0)).ext E60).keep Kc67 (ninS ne_b35_b60 nin0))
  have f75 := ((((((((D35 (Or.inr (hw _ (List.mem_of_getElem? (i := 50) rfl))) (ty := .int) (by decide)).ext E39).ext E44).keep Kc50 (ninS ne_b35_b44 nin0)).ext E53).keep Kc59 (ninS ne_b35_b53 nin0)).ext E60).keep Kc67 (ninS ne_b35_b60 nin0))
  have f76 := ((((((((D35 (Or.inr (hw _ (List.mem_of_getElem? (i := 52) rfl))) (ty := (.object "java/util/List")) (by decide)).ext E39).ext E44).keep Kc50 (ninS ne_b35_b44 nin0)).ext E53).keep Kc59 (ninS ne_b35_b53 nin0)).ext E60).keep Kc67 (ninS ne_b35_b60 nin0))
  have f77 := ((((((((D35 (Or.inr (hw _ (List.mem_of_getElem? (i := 54) rfl))) (ty := .long) (by decide)).ext E39).ext E44).keep Kc50 (ninS ne_b35_b44 nin0)).ext E53).keep Kc59 (ninS ne_b35_b53 nin0)).ext E60).keep Kc67 (ninS ne_b35_b60 nin0))
  have f78 := ((((((((D35 (Or.inr (hw _ (List.mem_of_getElem? (i := 56) rfl))) (ty := .boolean) (by decide)).ext E39).ext E44).keep Kc50 (ninS ne_b35_b44 nin0)).ext E53).keep Kc59 (ninS ne_b35_b53 nin0)).ext E60).keep Kc67 (ninS ne_b35_b60 nin0))
  have f79 := ((((((((D35 (Or.inr (hw _ (List.mem_of_getElem? (i := 58) rfl))) (ty := (.object "java/util/List")) (by decide)).ext E39).ext E44).keep Kc50 (ninS ne_b35_b44 nin0)).ext E53).keep Kc59 (ninS ne_b35_b53 nin0)).ext E60).keep Kc67 (ninS ne_b35_b60 nin0))
  have f80 := ((((((((D35 (Or.inr (hw _ (List.mem_of_getElem? (i := 60) rfl))) (ty := (.object "java/util/List")) (by decide)).ext E39).ext E44).keep Kc50 (ninS ne_b35_b44 nin0)).ext E53).keep Kc59 (ninS ne_b35_b53 nin0)).ext E60).keep Kc67 (ninS ne_b35_b60 nin0))
  have f81 := ((((((((D35 (Or.inr (hw _ (List.mem_of_getElem? (i := 62) rfl))) (ty := .int) (by decide)).ext E39).ext E44).keep Kc50 (ninS ne_b35_b44 nin0)).ext E53).keep Kc59 (ninS ne_b35_b53 nin0)).ext E60).keep Kc67 (ninS ne_b35_b60 nin0))
  have f82 := ((((((((D35 (Or.inr (hw _ (List.mem_of_getElem? (i := 64) rfl))) (ty := .boolean) (by decide)).ext E39).ext E44).keep Kc50 (ninS ne_b35_b44 nin0)).ext E53).keep Kc59 (ninS ne_b35_b53 nin0)).ext E60).keep Kc67 (ninS ne_b35_b60 nin0))
  obtain ⟨_, _, ⟨T83, L83, k83, n83⟩, -, X83, ⟨Lc83, hQ83, l83, y83, z83⟩, st83⟩ := X67.specialBack hx (y := (⟨"com/example/persistutils/persistutils/engine/PostgresTables$Table", "<init>", "(Ljava/lang/String;ZJZILjava/util/List;JZLjava/util/List;Ljava/util/List;IZ)V"⟩ : MethodName)) rfl hown (mvT hZ (hw _ (List.mem_of_getElem? (i := 37) rfl))) (mvT hZ (hw _ (List.mem_of_getElem? (i := 38) rfl))) (mvT hZ (hw _ (List.mem_of_getElem? (i := 39) rfl))) (by decide) (backOf (W := 1) (own_tbInit l Z a0 hw [] b35 a39 nA q1 nB (p0 ^^^ (-9 : Int32)) b44 q0 nC b53 b60 p1 nD T67.heap n0 Z67 f70 f71 f72 f73 f74 f75 f76 f77 f78 f79 f80 f81 f82 gb35 bit_nA bit_nB bit_nC bit_nD) hZ (hw _ (List.mem_of_getElem? (i := 39) rfl)) (hw _ (List.mem_of_getElem? (i := 2) rfl)) (by decide) (by decide)) (g := (mkF m 179 #[.val (.int p0), .val (.int p1), .val (.long q0), .second, .val (.long q1), .second, .val (.int zA), .val (.int zB), .val (.int zC), .val (.int zD), .val (.int (p0 ^^^ (-9 : Int32))), .val (.ref b9), .unset, .unset] [(.int nD), (.int p1), (.ref b60), (.ref b53), (.int nC), (.long q0), (.ref b44), (.int (p0 ^^^ (-9 : Int32))), (.int nB), (.long q1), (.int nA), (.ref a39), (.ref b35), (.ref b35)])) rfl (by rw [hml]; rfl) (Steps.refl _) (a := b35) (argsL := [(.ref a39), (.int nA), (.long q1), (.int nB), (.int (p0 ^^^ (-9 : Int32))), (.ref b44), (.long q0), (.int nC), (.ref b53), (.ref b60), (.int p1), (.int nD)]) (rest := [(.ref b35)]) (lenOf own_pd1 rfl) rfl (by show 2 * 0 + _ ≤ _; exact Nat.le_of_eq rfl) (hb hby at_179) (fun _ _ => ⟨rfl, rfl, (by decide : 12 + 0 ≤ _), (by decide : 58 + 0 ≤ _)⟩)
  dsimp only [Pt.U, Pt.locs, Pt.cells, Pt.slots] at X83 l83 y83 z83 st83 hQ83
  subst l83 y83 z83
  obtain ⟨rfl, N83, Kc83, P83_0, P83_1⟩ := hQ83
  have NA83 := Fr.app NA67 N83
  have Z83 : n0 ≤ T83.heap.size := Nat.le_trans Z67 Kc83.1
  have hk83 := Nat.le_trans hk67 Kc83.1
  have K83 := K67.trans Kc83 (allS (Or.inr sz35) all0)
  have O83 := O67.keep Kc83 (allS gb35 all0)
  refine Go.back (t' := (T83.setTop (mkF m 182 #[.val (.int p0), .val (.int p1), .val (.long q0), .second, .val (.long q1), .second, .val (.int zA), .val (.int zB), .val (.int zC), .val (.int zD), .val (.int (p0 ^^^ (-9 : Int32))), .val (.ref b9), .unset, .unset] [(.ref b35)]))) (fun u k => st83.trans k) ?_
  refine Go.back (t' := (T83.setTop (mkF m 184 #[.val (.int p0), .val (.int p1), .val (.long q0), .second, .val (.long q1), .second, .val (.int zA), .val (.int zB), .val (.int zC), .val (.int zD), .val (.int (p0 ^^^ (-9 : Int32))), .val (.ref b9), .val (.ref b35), .unset] []))) (fun u k => XS.astore X83.here hx rfl (hb hby at_182) rfl rfl (l' := #[.val (.int p0), .val (.int p1), .val (.long q0), .second, .val (.long q1), .second, .val (.int zA), .val (.int zB), .val (.int zC), .val (.int zD), .val (.int (p0 ^^^ (-9 : Int32))), .val (.ref b9), .val (.ref b35), .unset]) rfl k) ?_
  have sg84 : ∀ u, Steps p.tables e below (T83.setTop (mkF m 198 #[.val (.int p0), .val (.int p1), .val (.long q0), .second, .val (.long q1), .second, .val (.int zA), .val (.int zB), .val (.int zC), .val (.int zD), .val (.int (p0 ^^^ (-9 : Int32))), .val (.ref b9), .val (.ref b35), .unset] [(.int (if ((XT.ushr p0 (3 : Int32)) &&& (1 : Int32)) = (1 : Int32) then (1 : Int32) else (0 : Int32)))])) u → Steps p.tables e below (T83.setTop (mkF m 184 #[.val (.int p0), .val (.int p1), .val (.long q0), .second, .val (.long q1), .second, .val (.int zA), .val (.int zB), .val (.int zC), .val (.int zD), .val (.int (p0 ^^^ (-9 : Int32))), .val (.ref b9), .val (.ref b35), .unset] [])) u := by
    intro u k
    refine XS.iloadN X83.here hx rfl (hb hby at_184) rfl ?_
    show Steps p.tables e below (T83.setTop (mkF m 185 #[.val (.int p0), .val (.int p1), .val (.long q0), .second, .val (.long q1), .second, .val (.int zA), .val (.int zB), .val (.int zC), .val (.int zD), .val (.int (p0 ^^^ (-9 : Int32))), .val (.ref b9), .val (.ref b35), .unset] [(.int p0)])) u
    refine XT.iconstV X83.here hx rfl (3 : Int32) (hb hby at_185) (by decide) ?_
    show Steps p.tables e below (T83.setTop (mkF m 186 #[.val (.int p0), .val (.int p1), .val (.long q0), .second, .val (.long q1), .second, .val (.int zA), .val (.int zB), .val (.int zC), .val (.int zD), .val (.int (p0 ^^^ (-9 : Int32))), .val (.ref b9), .val (.ref b35), .unset] [(.int (3 : Int32)), (.int p0)])) u
    refine XT.iushr X83.here hx rfl (hb hby at_186) rfl ?_
    show Steps p.tables e below (T83.setTop (mkF m 187 #[.val (.int p0), .val (.int p1), .val (.long q0), .second, .val (.long q1), .second, .val (.int zA), .val (.int zB), .val (.int zC), .val (.int zD), .val (.int (p0 ^^^ (-9 : Int32))), .val (.ref b9), .val (.ref b35), .unset] [(.int (XT.ushr p0 (3 : Int32)))])) u
    refine XT.iconstV X83.here hx rfl (1 : Int32) (hb hby at_187) (by decide) ?_
    show Steps p.tables e below (T83.setTop (mkF m 188 #[.val (.int p0), .val (.int p1), .val (.long q0), .second, .val (.long q1), .second, .val (.int zA), .val (.int zB), .val (.int zC), .val (.int zD), .val (.int (p0 ^^^ (-9 : Int32))), .val (.ref b9), .val (.ref b35), .unset] [(.int (1 : Int32)), (.int (XT.ushr p0 (3 : Int32)))])) u
    refine XS.iand X83.here hx rfl (hb hby at_188) rfl ?_
    show Steps p.tables e below (T83.setTop (mkF m 189 #[.val (.int p0), .val (.int p1), .val (.long q0), .second, .val (.long q1), .second, .val (.int zA), .val (.int zB), .val (.int zC), .val (.int zD), .val (.int (p0 ^^^ (-9 : Int32))), .val (.ref b9), .val (.ref b35), .unset] [(.int ((XT.ushr p0 (3 : Int32)) &&& (1 : Int32)))])) u
    refine XT.iconstV X83.here hx rfl (1 : Int32) (hb hby at_189) (by decide) ?_
    show Steps p.tables e below (T83.setTop (mkF m 190 #[.val (.int p0), .val (.int p1), .val (.long q0), .second, .val (.long q1), .second, .val (.int zA), .val (.int zB), .val (.int zC), .val (.int zD), .val (.int (p0 ^^^ (-9 : Int32))), .val (.ref b9), .val (.ref b35), .unset] [(.int (1 : Int32)), (.int ((XT.ushr p0 (3 : Int32)) &&& (1 : Int32)))])) u
    by_cases hc85 : ((XT.ushr p0 (3 : Int32)) &&& (1 : Int32)) = (1 : Int32)
    · skip
      refine XS.icmpNo X83.here hx rfl (hb hby at_190) rfl (XT.ii_ne_f hc85) ?_
      show Steps p.tables e below (T83.setTop (mkF m 193 #[.val (.int p0), .val (.int p1), .val (.long q0), .second, .val (.long q1), .second, .val (.int zA), .val (.int zB), .val (.int zC), .val (.int zD), .val (.int (p0 ^^^ (-9 : Int32))), .val (.ref b9), .val (.ref b35), .unset] [])) u
      refine XT.iconstV X83.here hx rfl (1 : Int32) (hb hby at_193) (by decide) ?_
      show Steps p.tables e below (T83.setTop (mkF m 194 #[.val (.int p0), .val (.int p1), .val (.long q0), .second, .val (.long q1), .second, .val (.int zA), .val (.int zB), .val (.int zC), .val (.int zD), .val (.int (p0 ^^^ (-9 : Int32))), .val (.ref b9), .val (.ref b35), .unset] [(.int (1 : Int32))])) u
      refine XS.goto X83.here hx rfl (pc0 := 194) (pc' := 198) rfl (hb hby at_194) (by decide) (by decide) ?_
      show Steps p.tables e below (T83.setTop (mkF m 198 #[.val (.int p0), .val (.int p1), .val (.long q0), .second, .val (.long q1), .second, .val (.int zA), .val (.int zB), .val (.int zC), .val (.int zD), .val (.int (p0 ^^^ (-9 : Int32))), .val (.ref b9), .val (.ref b35), .unset] [(.int (1 : Int32))])) u
      try simp only [if_pos hc85] at k
      exact k
    · skip
      refine XS.icmpYes X83.here hx rfl (pc0 := 190) (pc' := 197) rfl (hb hby at_190) rfl (XT.ii_ne_t hc85) (by decide) (by decide) ?_
      show Steps p.tables e below (T83.setTop (mkF m 197 #[.val (.int p0), .val (.int p1), .val (.long q0), .second, .val (.long q1), .second, .val (.int zA), .val (.int zB), .val (.int zC), .val (.int zD), .val (.int (p0 ^^^ (-9 : Int32))), .val (.ref b9), .val (.ref b35), .unset] [])) u
      refine XT.iconstV X83.here hx rfl (0 : Int32) (hb hby at_197) (by decide) ?_
      show Steps p.tables e below (T83.setTop (mkF m 198 #[.val (.int p0), .val (.int p1), .val (.long q0), .second, .val (.long q1), .second, .val (.int zA), .val (.int zB), .val (.int zC), .val (.int zD), .val (.int (p0 ^^^ (-9 : Int32))), .val (.ref b9), .val (.ref b35), .unset] [(.int (0 : Int32))])) u
      try simp only [if_neg hc85] at k
      exact k
  refine Go.back (t' := (T83.setTop (mkF m 198 #[.val (.int p0), .val (.int p1), .val (.long q0), .second, .val (.long q1), .second, .val (.int zA), .val (.int zB), .val (.int zC), .val (.int zD), .val (.int (p0 ^^^ (-9 : Int32))), .val (.ref b9), .val (.ref b35), .unset] [(.int (if ((XT.ushr p0 (3 : Int32)) &&& (1 : Int32)) = (1 : Int32) then (1 : Int32) else (0 : Int32)))]))) sg84 ?_
  obtain ⟨ex, h_ex⟩ : ∃ z : Int32, z = (if ((XT.ushr p0 (3 : Int32)) &&& (1 : Int32)) = (1 : Int32) then (1 : Int32) else (0 : Int32)) := ⟨_, rfl⟩
  rw [← h_ex]
  refine Go.back (t' := (T83.setTop (mkF m 200 #[.val (.int p0), .val (.int p1), .val (.long q0), .second, .val (.long q1), .second, .val (.int zA), .val (.int zB), .val (.int zC), .val (.int zD), .val (.int (p0 ^^^ (-9 : Int32))), .val (.ref b9), .val (.ref b35), .val (.int ex)] []))) (fun u k => XS.istore X83.here hx rfl (hb hby at_198) rfl (l' := #[.val (.int p0), .val (.int p1), .val (.long q0), .second, .val (.long q1), .second, .val (.int zA), .val (.int zB), .val (.int zC), .val (.int zD), .val (.int (p0 ^^^ (-9 : Int32))), .val (.ref b9), .val (.ref b35), .val (.int ex)]) rfl k) ?_
  refine Go.back (t' := (T83.setTop (mkF m 202 #[.val (.int p0), .val (.int p1), .val (.long q0), .second, .val (.long q1), .second, .val (.int zA), .val (.int zB), .val (.int zC), .val (.int zD), .val (.int (p0 ^^^ (-9 : Int32))), .val (.ref b9), .val (.ref b35), .val (.int ex)] [(.ref b9)]))) (fun u k => XS.aload X83.here hx rfl (hb hby at_200) rfl rfl k) ?_
  have f86 := (((((((((P34_1.ext E35).ext E39).ext E44).keep Kc50 (ninS ne_b9_b44 nin0)).ext E53).keep Kc59 (ninS ne_b9_b53 nin0)).ext E60).keep Kc67 (ninS ne_b9_b60 nin0)).keep Kc83 (ninS ne_b9_b35 nin0))
  have f89 := (((f61.ext E60).keep Kc67).keep Kc83)
  obtain ⟨cq88, kq88, qa88, qb88, qc88⟩ := isOf hZ rfl f89
  obtain ⟨_, _, ⟨T87, L87, k87, n87⟩, -, X87, ⟨Lc87, hQ87, l87, y87, z87⟩, st87⟩ := X83.virtualBack hx (y := (⟨"com/example/persistutils/persistutils/engine/PostgresTables$Table", "triggeredOnDelete", "()Z"⟩ : MethodName)) (z := (⟨"com/example/persistutils/persistutils/engine/PostgresTables$Table", "triggeredOnDelete", "()Z"⟩ : MethodName)) hown (mvT hZ (hw _ (List.mem_of_getElem? (i := 66) rfl))) (mvT hZ (hw _ (List.mem_of_getElem? (i := 67) rfl))) (notFace_of_selects (args := #[]) (mvT hZ (hw _ (List.mem_of_getElem? (i := 69) rfl)))) (mvT hZ (hw _ (List.mem_of_getElem? (i := 69) rfl))) (mvT hZ (hw _ (List.mem_of_getElem? (i := 68) rfl))) (by decide) (backOf (W := 0) (own_del l Z a0 hw [] b9 p0 T83.heap n0 Z83 f86) hZ (hw _ (List.mem_of_getElem? (i := 70) rfl)) (hw _ (List.mem_of_getElem? (i := 2) rfl)) (by decide) (by decide)) qa88 qc88 (g := (mkF m 202 #[.val (.int p0), .val (.int p1), .val (.long q0), .second, .val (.long q1), .second, .val (.int zA), .val (.int zB), .val (.int zC), .val (.int zD), .val (.int (p0 ^^^ (-9 : Int32))), .val (.ref b9), .val (.ref b35), .val (.int ex)] [(.ref b9)])) rfl (by rw [hml]; rfl) (Steps.refl _) (argsL := []) (rest := []) (lenOf own_pd2 rfl) rfl (by show 2 * 0 + _ ≤ _; exact Nat.le_of_eq rfl) (hb hby at_202) (fun _ _ => ⟨rfl, rfl, (by decide : 12 + 0 ≤ _), (by decide : 58 + 0 ≤ _)⟩)
  dsimp only [Pt.U, Pt.locs, Pt.cells, Pt.slots] at X87 l87 y87 z87 st87 hQ87
  subst l87 y87 z87
  obtain ⟨rfl, N87, e87⟩ := hQ87
  have NA87 := Fr.app NA83 N87
  refine Go.back (t' := (T87.setTop (mkF m 205 #[.val (.int p0), .val (.int p1), .val (.long q0), .second, .val (.long q1), .second, .val (.int zA), .val (.int zB), .val (.int zC), .val (.int zD), .val (.int (p0 ^^^ (-9 : Int32))), .val (.ref b9), .val (.ref b35), .val (.int ex)] [(.int (F_del p0))]))) (fun u k => st87.trans k) ?_
  refine Go.back (t' := (T87.setTop (mkF m 207 #[.val (.int p0), .val (.int p1), .val (.long q0), .second, .val (.long q1), .second, .val (.int zA), .val (.int zB), .val (.int zC), .val (.int zD), .val (.int (p0 ^^^ (-9 : Int32))), .val (.ref b9), .val (.ref b35), .val (.int ex)] [(.int ex), (.int (F_del p0))]))) (fun u k => XS.iload X87.here hx rfl (hb hby at_205) rfl k) ?_
  refine Go.back (t' := (T87.setTop (mkF m 210 #[.val (.int p0), .val (.int p1), .val (.long q0), .second, .val (.long q1), .second, .val (.int zA), .val (.int zB), .val (.int zC), .val (.int zD), .val (.int (p0 ^^^ (-9 : Int32))), .val (.ref b9), .val (.ref b35), .val (.int ex)] []))) (fun u k => XS.icmpNo X87.here hx rfl (hb hby at_207) rfl (XT.ii_ne_f (own_del1 h_ex _ rfl)) k) ?_
  refine Go.back (t' := (T87.setTop (mkF m 212 #[.val (.int p0), .val (.int p1), .val (.long q0), .second, .val (.long q1), .second, .val (.int zA), .val (.int zB), .val (.int zC), .val (.int zD), .val (.int (p0 ^^^ (-9 : Int32))), .val (.ref b9), .val (.ref b35), .val (.int ex)] [(.ref b35)]))) (fun u k => XS.aload X87.here hx rfl (hb hby at_210) rfl rfl k) ?_
  obtain ⟨cq91, kq91, qa91, qb91, qc91⟩ := isOf hZ e87 P83_0
  obtain ⟨_, _, ⟨T90, L90, k90, n90⟩, -, X90, ⟨Lc90, hQ90, l90, y90, z90⟩, st90⟩ := X87.virtualBack hx (y := (⟨"com/example/persistutils/persistutils/engine/PostgresTables$Table", "triggeredOnDelete", "()Z"⟩ : MethodName)) (z := (⟨"com/example/persistutils/persistutils/engine/PostgresTables$Table", "triggeredOnDelete", "()Z"⟩ : MethodName)) hown (mvT hZ (hw _ (List.mem_of_getElem? (i := 66) rfl))) (mvT hZ (hw _ (List.mem_of_getElem? (i := 67) rfl))) (notFace_of_selects (args := #[]) (mvT hZ (hw _ (List.mem_of_getElem? (i := 69) rfl)))) (mvT hZ (hw _ (List.mem_of_getElem? (i := 69) rfl))) (mvT hZ (hw _ (List.mem_of_getElem? (i := 68) rfl))) (by decide) (backOf (W := 0) (own_del l Z a0 hw [] b35 (p0 ^^^ (-9 : Int32)) T83.heap n0 Z83 P83_1) hZ (hw _ (List.mem_of_getElem? (i := 70) rfl)) (hw _ (List.mem_of_getElem? (i := 2) rfl)) (by decide) (by decide)) qa91 qc91 (g := (mkF m 212 #[.val (.int p0), .val (.int p1), .val (.long q0), .second, .val (.long q1), .second, .val (.int zA), .val (.int zB), .val (.int zC), .val (.int zD), .val (.int (p0 ^^^ (-9 : Int32))), .val (.ref b9), .val (.ref b35), .val (.int ex)] [(.ref b35)])) rfl (by rw [hml]; rfl) (Steps.refl _) (argsL := []) (rest := []) (lenOf own_pd2 rfl) rfl (by show 2 * 0 + _ ≤ _; exact Nat.le_of_eq rfl) (hb hby at_212) (fun _ _ => ⟨rfl, e87, (by decide : 12 + 0 ≤ _), (by decide : 58 + 0 ≤ _)⟩)
  dsimp only [Pt.U, Pt.locs, Pt.cells, Pt.slots] at X90 l90 y90 z90 st90 hQ90
  subst l90 y90 z90
  obtain ⟨rfl, N90, e90⟩ := hQ90
  have NA90 := Fr.app NA87 N90
  refine Go.back (t' := (T90.setTop (mkF m 215 #[.val (.int p0), .val (.int p1), .val (.long q0), .second, .val (.long q1), .second, .val (.int zA), .val (.int zB), .val (.int zC), .val (.int zD), .val (.int (p0 ^^^ (-9 : Int32))), .val (.ref b9), .val (.ref b35), .val (.int ex)] [(.int (F_del (p0 ^^^ (-9 : Int32))))]))) (fun u k => st90.trans k) ?_
  refine Go.back (t' := (T90.setTop (mkF m 217 #[.val (.int p0), .val (.int p1), .val (.long q0), .second, .val (.long q1), .second, .val (.int zA), .val (.int zB), .val (.int zC), .val (.int zD), .val (.int (p0 ^^^ (-9 : Int32))), .val (.ref b9), .val (.ref b35), .val (.int ex)] [(.int ex), (.int (F_del (p0 ^^^ (-9 : Int32))))]))) (fun u k => XS.iload X90.here hx rfl (hb hby at_215) rfl k) ?_
  refine Go.back (t' := (T90.setTop (mkF m 220 #[.val (.int p0), .val (.int p1), .val (.long q0), .second, .val (.long q1), .second, .val (.int zA), .val (.int zB), .val (.int zC), .val (.int zD), .val (.int (p0 ^^^ (-9 : Int32))), .val (.ref b9), .val (.ref b35), .val (.int ex)] []))) (fun u k => XS.icmpNo X90.here hx rfl (hb hby at_217) rfl (XT.ii_ne_f (own_del1 h_ex _ (own_xor3 p0))) k) ?_
  refine Go.back (t' := (T90.setTop (mkF m 221 #[.val (.int p0), .val (.int p1), .val (.long q0), .second, .val (.long q1), .second, .val (.int zA), .val (.int zB), .val (.int zC), .val (.int zD), .val (.int (p0 ^^^ (-9 : Int32))), .val (.ref b9), .val (.ref b35), .val (.int ex)] [(.int (1 : Int32))]))) (fun u k => XT.iconstV X90.here hx rfl (1 : Int32) (hb hby at_220) (by decide) k) ?_
  refine Go.back (t' := (T90.setTop (mkF m 225 #[.val (.int p0), .val (.int p1), .val (.long q0), .second, .val (.long q1), .second, .val (.int zA), .val (.int zB), .val (.int zC), .val (.int zD), .val (.int (p0 ^^^ (-9 : Int32))), .val (.ref b9), .val (.ref b35), .val (.int ex)] [(.int (1 : Int32))]))) (fun u k => XS.goto X90.here hx rfl (pc0 := 221) (pc' := 225) rfl (hb hby at_221) (by decide) (by decide) k) ?_
  obtain ⟨fs, hr, hrun, hended, hFW⟩ := Jvm.Stand.leaveW (s := s) (vm₁ := T39.vm) X90 hS39 (by rw [e90]; exact hk83) (v := some (.int (1 : Int32))) (fun h => by rw [Bd.returns] at h; cases h)
  refine ⟨_, _, retN X90 hx (t := .boolean) Bd.returns (by simp) (hb hby at_225) hr, hrun, hended, _, _, rfl, ?_, hFW.1, hFW.2.1, hFW.2.2.1, hFW.2.2.2.mono (by decide) (by decide)⟩
  show Q_own_law0 Z p0 p1 q0 q1 wD h0 n0 _ T90.heap _
  rw [e90]
  exact ⟨rfl, NA90, K83⟩
set_option maxRecDepth 65536 in
set_option maxHeartbeats 40000000 in
theorem own_comes {Post : Tables → Env → Array Value → State → Outcome → State → Prop} (hpost : ∀ tb e args s v u, (limb_1_1.after args s (.returned v) u = true ∧ limb_1_2.after args s (.returned v) u = true ∧ True) → ReturnedEndW s (.returned v) u (Jvm.fieldLocs frame_1_writes args s ++ Jvm.arrayLocs frame_1_arrays args s ++ Jvm.staticLocs frame_1_statics s) 32 2240 → Post tb e args s (.returned v) u) :
    ArmFor flags0 classFile x code maxLocals ret World_1 tables_1 room_1 Calls_1 rest_1 Pre_1 Post := by
  intro l hfl _ _ p e ha hc hk s m args below hf hA hF happ hP
  obtain ⟨hcalls, hrest, hpre⟩ := hP
  obtain ⟨-, -, -, hnamed, -, -, -, hat⟩ := (Spec.applies_iff hf).mp happ
  obtain ⟨hg, hn⟩ := and_e (Cond.before_iff.mp (show (Jvm.Cond.and given_1 narrow_1).before args s = true from hpre))
  obtain ⟨hg1, hg2⟩ := and_e hg
  obtain ⟨hg3, hg4⟩ := and_e hg2
  obtain ⟨hg5, hg6⟩ := and_e hg4
  obtain ⟨hg7, hg8⟩ := and_e hg6
  obtain ⟨w0, w1, w2, w3, rfl⟩ : ∃ w0 w1 w2 w3 : Value, args = #[w0, w1, w2, w3] := by
    have hs : args.size = 4 := by simpa [Cond.value, given_1] using hg1
    obtain ⟨L⟩ := args
    match L, hs with
    | [w0, w1, w2, w3], _ => exact ⟨w0, w1, w2, w3, rfl⟩
  have hw := fun d (hd : d ∈ tables_1) => atoms_spec (ws := Jvm.Cond.code x code maxLocals ret :: tables_1) hat d (List.mem_cons_of_mem _ hd)
  have hfit : Fit s := fun {y c} hc i hi => by
    obtain ⟨ha, rfl⟩ := Array.getElem?_eq_some_iff.mp hc
    have q := List.all_eq_true.mp ((Array.all_eq_true_iff_forall_mem.mp hF) _ (Array.getElem_mem ha)) i (List.mem_range.mpr hi)
    simpa [Array.getElem?_eq_getElem hi] using q
  obtain ⟨hsets, hown0⟩ := atoms_of _ (rest_1_c_eq ▸ (show rest_1_c.before _ s = true from hrest))
  have hr0 := Cond.before_iff.mp hown0
  obtain ⟨i0, ei0⟩ := is_v hg3
  obtain rfl : w0 = (.int i0) := Option.some.inj ei0
  obtain ⟨i1, ei1⟩ := is_v hg5
  obtain rfl : w1 = (.int i1) := Option.some.inj ei1
  obtain ⟨i2, ei2⟩ := isL_v hg7
  obtain rfl : w2 = (.long i2) := Option.some.inj ei2
  obtain ⟨i3, ei3⟩ := isL_v hg8
  obtain rfl : w3 = (.long i3) := Option.some.inj ei3
  obtain ⟨xD, exD⟩ := exa_v (Cond.before_iff.mp (hsets _ (List.mem_of_getElem? (i := 7) rfl)))
  have XD := Sta.start exD (Or.inr ⟨(hw _ (List.mem_of_getElem? (i := 13) rfl)), (hsets _ (List.mem_of_getElem? (i := 2) rfl))⟩)
  obtain ⟨n, o, h1, h2, h3, _, L, rfl, ⟨rfl, N, -⟩, hq⟩ := own_law0 l s _ hw tables_1 i0 i1 i2 i3 xD s.heap s.heap.size (Nat.le_refl _) (Old.start s) XD p e ha hc hk s m _ below hf ((Spec.applies_iff_loose hf).mp happ).1 ⟨rfl, State.Warmed39.refl s, rfl⟩ trivial
  refine ⟨n, _, h1, h2, h3, hpost _ _ _ _ _ _ ⟨Cond.after_iff.mpr rfl, Cond.after_iff.mpr (eq_i res_at (Term.int_eval (1)) rfl), trivial⟩ ⟨hq.1, hq.2.1, hq.2.2.1, (hq.2.2.2.sift fun y hy => Or.inr (N y hy)).mono (by decide) (by decide)⟩⟩
theorem main_1_1 : Claimed_1_1 := own_comes fun _ _ _ _ _ _ h hF => ⟨h.1, hF⟩
theorem main_1_2 : Claimed_1_2 := own_comes fun _ _ _ _ _ _ h hF => ⟨h.2.1, hF⟩
end Jvm.Pilot.@@N@@
namespace Jvm.Pilot.@@N@@
open Jvm Jvm.ClassFile Sem Op Lib Jvm.Free Jvm.Stand Jvm.Pilot.@@N@@.Jvm.D
/-! MADE BY PROGRAM (witnessworld.py) out of the Statement's table words and the real class files: 23 classes; the members and pool entries that the words name. The judged class is class 1, her method 1. -/
namespace start1
open Jvm.ClassFile
def u (s : String) : CpInfo := .utf8 (stringToUtf16 s)
/-- a pool by its gaps: so many unusable entries, then the entry; so many at the end -/
def gap : Nat → List CpInfo → List CpInfo
  | 0, r => r
  | n + 1, r => .unusable :: gap n r
def poolList (es : List (Nat × CpInfo)) (last : Nat) : List CpInfo := es.foldr (fun e r => gap e.1 (e.2 :: r)) (gap last [])
def pool (es : List (Nat × CpInfo)) (last : Nat) : Array CpInfo := ⟨poolList es last⟩
def fileOf (pool : Array CpInfo) (this : Nat) (attrs : Array Attribute := #[]) (ms : Array MethodInfo := #[]) (fl : Nat := 33) (sup : Nat := 0) (ifs : Array Nat := #[]) (fds : Array FieldInfo := #[]) : ClassFile where
  minorVersion := 0
  majorVersion := 65
  constantPool := pool
  accessFlags := fl
  thisClass := this
  superClass := sup
  interfaces := ifs
  fields := fds
  methods := ms
  attributes := attrs
def plain (name : String) (sup : Option ClassId) : Class where
  name := name
  kind := .ordinary
  loader := none
  accessFlags := 33
  super := sup
  interfaces := #[]
  cf := none
  fields := #[]
  methods := #[]
  instanceTypes := #[]
  staticTypes := #[]
  resolved := #[]
  callSites := []
  init := .initialized
  statics := none
  mirror := none

def pool0 : Array CpInfo := pool [(5, u "<init>"), (0, u "()V"), (1, .class_ 10), (1, u "java/lang/Object")] 113

def k0c0 : Code := { maxStack := 0, maxLocals := 1, code := object_method_1_code, exceptionTable := #[], attributes := #[] }
def k0m0 : Method := { name := "<init>", desc := "()V", sig := { parameters := [], returnType := none }, accessFlags := 1, code := some k0c0 }
/-- java/lang/Object -/
def k0 : Class := { plain "java/lang/Object" none with
  accessFlags := 33
  interfaces := #[]
  cf := some (fileOf pool0 8 #[] #[{ accessFlags := 1, nameIndex := 5, descriptorIndex := 6, attributes := #[] }] 33 0 #[] #[])
  fields := #[]
  methods := #[k0m0]
  instanceTypes := #[]
  staticTypes := #[]
  resolved := Array.replicate 124 none
  statics := none }

def pool1 : Array CpInfo := pool [(2, .class_ 4), (0, .nameAndType 5 6), (0, u "java/lang/Object"), (0, u "<init>"), (0, u "()V"), (0, .class_ 8), (0, u "com/example/persistutils/persistutils/engine/PostgresTables$Table"), (0, .string 10), (0, u "t"), (0, .class_ 12), (0, u "java/util/ArrayList"), (0, .methodref 11 3), (0, .methodref 7 15), (0, .nameAndType 5 16), (0, u "(Ljava/lang/String;ZJZILjava/util/List;JZLjava/util/List;Ljava/util/List;IZ)V"), (0, .string 18), (0, u "u"), (0, .methodref 7 20), (0, .nameAndType 21 22), (0, u "triggeredOnDelete"), (0, u "()Z"), (0, .class_ 24), (0, u "com/example/persistutils/persistutils/engine/TableTriggeredOnDeletePinLaw"), (2, u "law"), (0, u "(IIJJ)Z")] 9

def k1m0 : Method := { name := "<init>", desc := "()V", sig := { parameters := [], returnType := none }, accessFlags := 1, code := none }
def k1c1 : Code := { maxStack := 16, maxLocals := 14, code := code, exceptionTable := #[], attributes := #[] }
def k1m1 : Method := { name := "law", desc := "(IIJJ)Z", sig := { parameters := [.int, .int, .long, .long], returnType := some .boolean }, accessFlags := 9, code := some k1c1 }
/-- com/example/persistutils/persistutils/engine/TableTriggeredOnDeletePinLaw -/
def k1 : Class := { plain "com/example/persistutils/persistutils/engine/TableTriggeredOnDeletePinLaw" (some 0) with
  accessFlags := 49
  interfaces := #[]
  cf := some (fileOf pool1 23 #[] #[{ accessFlags := 1, nameIndex := 5, descriptorIndex := 6, attributes := #[] }, { accessFlags := 9, nameIndex := 27, descriptorIndex := 28, attributes := #[] }] 49 2 #[] #[])
  fields := #[]
  methods := #[k1m0, k1m1]
  instanceTypes := #[]
  staticTypes := #[]
  resolved := Array.replicate 38 none
  statics := none }

def pool2 : Array CpInfo := pool [(1, .class_ 2), (0, u "com/example/persistutils/persistutils/engine/PostgresTables"), (0, .methodref 4 5), (0, .class_ 6), (0, .nameAndType 7 8), (0, u "java/lang/Object"), (0, u "<init>"), (0, u "()V"), (0, .fieldref 10 11), (0, .class_ 12), (0, .nameAndType 13 14), (0, u "com/example/persistutils/persistutils/engine/PostgresTables$Table"), (0, u "name"), (0, u "Ljava/lang/String;"), (0, .fieldref 10 16), (0, .nameAndType 17 18), (0, u "ofAnExtension"), (0, u "Z"), (0, .fieldref 10 20), (0, .nameAndType 21 22), (0, u "oid"), (0, u "J"), (0, .fieldref 10 24), (0, .nameAndType 25 18), (0, u "truncatable"), (0, .fieldref 10 27), (0, .nameAndType 28 29), (0, u "triggerEvents"), (0, u "I"), (0, .fieldref 10 31), (0, .nameAndType 32 33), (0, u "referencing"), (0, u "Ljava/util/List;"), (0, .fieldref 10 35), (0, .nameAndType 36 22), (0, u "size"), (0, .fieldref 10 38), (0, .nameAndType 39 18), (0, u "ruledOnDelete"), (0, .fieldref 10 41), (0, .nameAndType 42 33), (0, u "partitionsElsewhere"), (0, .fieldref 10 44), (0, .nameAndType 45 33), (0, u "referencingUnindexed"), (0, .fieldref 10 47), (0, .nameAndType 48 29), (0, u "indexes"), (0, .fieldref 10 50), (0, .nameAndType 51 18), (0, u "toasted"), (3, u "(Ljava/lang/String;ZJZILjava/util/List;JZLjava/util/List;Ljava/util/List;IZ)V"), (5, u "()Z"), (0, u "triggeredOnDelete")] 10

def k2c0 : Code := { maxStack := 3, maxLocals := 15, code := prog_51_method_1_code, exceptionTable := #[], attributes := #[] }
def k2m0 : Method := { name := "<init>", desc := "(Ljava/lang/String;ZJZILjava/util/List;JZLjava/util/List;Ljava/util/List;IZ)V", sig := { parameters := [(.object "java/lang/String"), .boolean, .long, .boolean, .int, (.object "java/util/List"), .long, .boolean, (.object "java/util/List"), (.object "java/util/List"), .int, .boolean], returnType := none }, accessFlags := 0, code := some k2c0 }
def k2c1 : Code := { maxStack := 2, maxLocals := 1, code := prog_51_method_5_code, exceptionTable := #[], attributes := #[] }
def k2m1 : Method := { name := "triggeredOnDelete", desc := "()Z", sig := { parameters := [], returnType := some .boolean }, accessFlags := 0, code := some k2c1 }
/-- com/example/persistutils/persistutils/engine/PostgresTables$Table -/
def k2 : Class := { plain "com/example/persistutils/persistutils/engine/PostgresTables$Table" (some 0) with
  accessFlags := 32
  interfaces := #[]
  cf := some (fileOf pool2 10 #[.nestHost 1] #[{ accessFlags := 0, nameIndex := 7, descriptorIndex := 55, attributes := #[] }, { accessFlags := 0, nameIndex := 62, descriptorIndex := 61, attributes := #[] }] 32 4 #[] #[{ accessFlags := 18, nameIndex := 13, descriptorIndex := 14, attributes := #[] }, { accessFlags := 18, nameIndex := 17, descriptorIndex := 18, attributes := #[] }, { accessFlags := 18, nameIndex := 21, descriptorIndex := 22, attributes := #[] }, { accessFlags := 18, nameIndex := 25, descriptorIndex := 18, attributes := #[] }, { accessFlags := 18, nameIndex := 28, descriptorIndex := 29, attributes := #[] }, { accessFlags := 18, nameIndex := 32, descriptorIndex := 33, attributes := #[] }, { accessFlags := 18, nameIndex := 36, descriptorIndex := 22, attributes := #[] }, { accessFlags := 18, nameIndex := 39, descriptorIndex := 18, attributes := #[] }, { accessFlags := 18, nameIndex := 42, descriptorIndex := 33, attributes := #[] }, { accessFlags := 18, nameIndex := 45, descriptorIndex := 33, attributes := #[] }, { accessFlags := 18, nameIndex := 48, descriptorIndex := 29, attributes := #[] }, { accessFlags := 18, nameIndex := 51, descriptorIndex := 18, attributes := #[] }])
  fields := #[{ name := "name", type := (.object "java/lang/String"), accessFlags := 18, slot := 0, constantValue := 0 }, { name := "ofAnExtension", type := .boolean, accessFlags := 18, slot := 1, constantValue := 0 }, { name := "oid", type := .long, accessFlags := 18, slot := 2, constantValue := 0 }, { name := "truncatable", type := .boolean, accessFlags := 18, slot := 3, constantValue := 0 }, { name := "triggerEvents", type := .int, accessFlags := 18, slot := 4, constantValue := 0 }, { name := "referencing", type := (.object "java/util/List"), accessFlags := 18, slot := 5, constantValue := 0 }, { name := "size", type := .long, accessFlags := 18, slot := 6, constantValue := 0 }, { name := "ruledOnDelete", type := .boolean, accessFlags := 18, slot := 7, constantValue := 0 }, { name := "partitionsElsewhere", type := (.object "java/util/List"), accessFlags := 18, slot := 8, constantValue := 0 }, { name := "referencingUnindexed", type := (.object "java/util/List"), accessFlags := 18, slot := 9, constantValue := 0 }, { name := "indexes", type := .int, accessFlags := 18, slot := 10, constantValue := 0 }, { name := "toasted", type := .boolean, accessFlags := 18, slot := 11, constantValue := 0 }]
  methods := #[k2m0, k2m1]
  instanceTypes := #[(.object "java/lang/String"), .boolean, .long, .boolean, .int, (.object "java/util/List"), .long, .boolean, (.object "java/util/List"), (.object "java/util/List"), .int, .boolean]
  staticTypes := #[]
  resolved := Array.replicate 73 none
  statics := none }

def pool3 : Array CpInfo := pool [(1, .class_ 2), (0, u "java/io/Serializable"), (0, .class_ 4), (0, u "java/lang/Object")] 2

/-- java/io/Serializable -/
def k3 : Class := { plain "java/io/Serializable" (some 0) with
  accessFlags := 1537
  interfaces := #[]
  cf := some (fileOf pool3 1 #[] #[] 1537 3 #[] #[])
  fields := #[]
  methods := #[]
  instanceTypes := #[]
  staticTypes := #[]
  resolved := Array.replicate 7 none
  statics := none }

def pool4 : Array CpInfo := pool [(1, .class_ 2), (0, u "java/lang/Comparable"), (0, .class_ 4), (0, u "java/lang/Object")] 7

/-- java/lang/Comparable -/
def k4 : Class := { plain "java/lang/Comparable" (some 0) with
  accessFlags := 1537
  interfaces := #[]
  cf := some (fileOf pool4 1 #[] #[] 1537 3 #[] #[])
  fields := #[]
  methods := #[]
  instanceTypes := #[]
  staticTypes := #[]
  resolved := Array.replicate 12 none
  statics := none }

def pool5 : Array CpInfo := pool [(2, .class_ 4), (1, u "java/lang/CharSequence"), (42, .class_ 48), (0, u "java/lang/CharSequence$1CodePointIterator"), (10, .class_ 60), (0, u "java/lang/CharSequence$1CharIterator"), (5, .class_ 67), (0, u "java/lang/Object")] 63

/-- java/lang/CharSequence -/
def k5 : Class := { plain "java/lang/CharSequence" (some 0) with
  accessFlags := 1537
  interfaces := #[]
  cf := some (fileOf pool5 2 #[.nestMembers #[47, 59]] #[] 1537 66 #[] #[])
  fields := #[]
  methods := #[]
  instanceTypes := #[]
  staticTypes := #[]
  resolved := Array.replicate 131 none
  statics := none }

def pool6 : Array CpInfo := pool [(1, .class_ 2), (0, u "java/lang/constant/Constable"), (0, .class_ 4), (0, u "java/lang/Object")] 6

/-- java/lang/constant/Constable -/
def k6 : Class := { plain "java/lang/constant/Constable" (some 0) with
  accessFlags := 1537
  interfaces := #[]
  cf := some (fileOf pool6 1 #[] #[] 1537 3 #[] #[])
  fields := #[]
  methods := #[]
  instanceTypes := #[]
  staticTypes := #[]
  resolved := Array.replicate 11 none
  statics := none }

def pool7 : Array CpInfo := pool [(1, .class_ 2), (0, u "java/lang/constant/ConstantDesc"), (0, .class_ 4), (0, u "java/lang/Object")] 32

/-- java/lang/constant/ConstantDesc -/
def k7 : Class := { plain "java/lang/constant/ConstantDesc" (some 0) with
  accessFlags := 1537
  interfaces := #[]
  cf := some (fileOf pool7 1 #[] #[] 1537 3 #[] #[])
  fields := #[]
  methods := #[]
  instanceTypes := #[]
  staticTypes := #[]
  resolved := Array.replicate 37 none
  statics := none }

def pool8 : Array CpInfo := pool [(2, .class_ 4), (1, u "java/lang/Object"), (0, u "<init>"), (0, u "()V"), (3, .class_ 12), (1, u "java/lang/String"), (0, u "value"), (0, u "[B"), (2, u "coder"), (0, u "B"), (2, u "hash"), (0, u "I"), (2, u "hashIsZero"), (0, u "Z"), (13, u "COMPACT_STRINGS"), (534, .class_ 576), (0, u "java/lang/CharSequence"), (22, u "CASE_INSENSITIVE_ORDER"), (0, u "Ljava/util/Comparator;"), (500, u "serialPersistentFields"), (0, u "[Ljava/io/ObjectStreamField;"), (0, .class_ 1104), (0, u "java/lang/String$CaseInsensitiveComparator"), (1, .class_ 1107), (0, u "java/io/Serializable"), (0, .class_ 1109), (0, u "java/lang/Comparable"), (0, .class_ 1111), (0, u "java/lang/constant/Constable"), (0, .class_ 1113), (0, u "java/lang/constant/ConstantDesc"), (2, u "serialVersionUID"), (0, u "J"), (3, u "REPL"), (0, u "C"), (2, u "LATIN1"), (1, u "UTF16")] 323

def k8m0 : Method := { name := "<init>", desc := "()V", sig := { parameters := [], returnType := none }, accessFlags := 1, code := none }
/-- java/lang/String -/
def k8 : Class := { plain "java/lang/String" (some 0) with
  accessFlags := 49
  interfaces := #[3, 4, 5, 6, 7]
  cf := some (fileOf pool8 10 #[.nestMembers #[1103]] #[{ accessFlags := 1, nameIndex := 5, descriptorIndex := 6, attributes := #[] }] 49 2 #[1106, 1108, 575, 1110, 1112] #[{ accessFlags := 18, nameIndex := 13, descriptorIndex := 14, attributes := #[] }, { accessFlags := 18, nameIndex := 17, descriptorIndex := 18, attributes := #[] }, { accessFlags := 2, nameIndex := 21, descriptorIndex := 22, attributes := #[] }, { accessFlags := 2, nameIndex := 25, descriptorIndex := 26, attributes := #[] }, { accessFlags := 26, nameIndex := 1116, descriptorIndex := 1117, attributes := #[] }, { accessFlags := 24, nameIndex := 40, descriptorIndex := 26, attributes := #[] }, { accessFlags := 26, nameIndex := 1101, descriptorIndex := 1102, attributes := #[] }, { accessFlags := 26, nameIndex := 1121, descriptorIndex := 1122, attributes := #[] }, { accessFlags := 25, nameIndex := 599, descriptorIndex := 600, attributes := #[] }, { accessFlags := 24, nameIndex := 1125, descriptorIndex := 18, attributes := #[] }, { accessFlags := 24, nameIndex := 1127, descriptorIndex := 18, attributes := #[] }])
  fields := #[{ name := "value", type := (.array .byte), accessFlags := 18, slot := 0, constantValue := 0 }, { name := "coder", type := .byte, accessFlags := 18, slot := 1, constantValue := 0 }, { name := "hash", type := .int, accessFlags := 2, slot := 2, constantValue := 0 }, { name := "hashIsZero", type := .boolean, accessFlags := 2, slot := 3, constantValue := 0 }, { name := "serialVersionUID", type := .long, accessFlags := 26, slot := 0, constantValue := 0 }, { name := "COMPACT_STRINGS", type := .boolean, accessFlags := 24, slot := 1, constantValue := 0 }, { name := "serialPersistentFields", type := (.array (.object "java/io/ObjectStreamField")), accessFlags := 26, slot := 2, constantValue := 0 }, { name := "REPL", type := .char, accessFlags := 26, slot := 3, constantValue := 0 }, { name := "CASE_INSENSITIVE_ORDER", type := (.object "java/util/Comparator"), accessFlags := 25, slot := 4, constantValue := 0 }, { name := "LATIN1", type := .byte, accessFlags := 24, slot := 5, constantValue := 0 }, { name := "UTF16", type := .byte, accessFlags := 24, slot := 6, constantValue := 0 }]
  methods := #[k8m0]
  instanceTypes := #[(.array .byte), .byte, .int, .boolean]
  staticTypes := #[.long, .boolean, (.array (.object "java/io/ObjectStreamField")), .char, (.object "java/util/Comparator"), .byte, .byte]
  resolved := Array.replicate 1451 none
  statics := none }

def pool9 : Array CpInfo := pool [(8, .class_ 10), (1, u "java/lang/Iterable"), (24, .class_ 36), (0, u "java/lang/Object")] 25

/-- java/lang/Iterable -/
def k9 : Class := { plain "java/lang/Iterable" (some 0) with
  accessFlags := 1537
  interfaces := #[]
  cf := some (fileOf pool9 8 #[] #[] 1537 35 #[] #[])
  fields := #[]
  methods := #[]
  instanceTypes := #[]
  staticTypes := #[]
  resolved := Array.replicate 62 none
  statics := none }

def pool10 : Array CpInfo := pool [(10, .class_ 12), (1, u "java/util/Collection"), (47, .class_ 61), (0, u "java/lang/Object"), (0, .class_ 63), (0, u "java/lang/Iterable")] 51

/-- java/util/Collection -/
def k10 : Class := { plain "java/util/Collection" (some 0) with
  accessFlags := 1537
  interfaces := #[9]
  cf := some (fileOf pool10 10 #[] #[] 1537 60 #[62] #[])
  fields := #[]
  methods := #[]
  instanceTypes := #[]
  staticTypes := #[]
  resolved := Array.replicate 115 none
  statics := none }

def pool11 : Array CpInfo := pool [(1, .methodref 2 3), (0, .class_ 4), (0, .nameAndType 5 6), (0, u "java/lang/Object"), (0, u "<init>"), (0, u "()V"), (1, .class_ 10), (1, u "java/util/AbstractCollection"), (66, .class_ 78), (0, u "java/util/Collection")] 81

def k11c0 : Code := { maxStack := 1, maxLocals := 1, code := jdk_22_method_1_code, exceptionTable := #[], attributes := #[] }
def k11m0 : Method := { name := "<init>", desc := "()V", sig := { parameters := [], returnType := none }, accessFlags := 4, code := some k11c0 }
/-- java/util/AbstractCollection -/
def k11 : Class := { plain "java/util/AbstractCollection" (some 0) with
  accessFlags := 1057
  interfaces := #[10]
  cf := some (fileOf pool11 8 #[] #[{ accessFlags := 4, nameIndex := 5, descriptorIndex := 6, attributes := #[] }] 1057 2 #[77] #[])
  fields := #[]
  methods := #[k11m0]
  instanceTypes := #[]
  staticTypes := #[]
  resolved := Array.replicate 160 none
  statics := none }

def pool12 : Array CpInfo := pool [(8, .class_ 10), (1, u "java/util/SequencedCollection"), (15, .class_ 27), (0, u "java/lang/Object"), (0, .class_ 29), (0, u "java/util/Collection")] 27

/-- java/util/SequencedCollection -/
def k12 : Class := { plain "java/util/SequencedCollection" (some 0) with
  accessFlags := 1537
  interfaces := #[10]
  cf := some (fileOf pool12 8 #[] #[] 1537 26 #[28] #[])
  fields := #[]
  methods := #[]
  instanceTypes := #[]
  staticTypes := #[]
  resolved := Array.replicate 57 none
  statics := none }

def pool13 : Array CpInfo := pool [(8, .class_ 10), (1, u "java/util/List"), (92, .class_ 104), (0, u "java/lang/Object"), (15, .class_ 121), (0, u "java/util/SequencedCollection")] 129

/-- java/util/List -/
def k13 : Class := { plain "java/util/List" (some 0) with
  accessFlags := 1537
  interfaces := #[12]
  cf := some (fileOf pool13 8 #[] #[] 1537 103 #[120] #[])
  fields := #[]
  methods := #[]
  instanceTypes := #[]
  staticTypes := #[]
  resolved := Array.replicate 251 none
  statics := none }

def pool14 : Array CpInfo := pool [(1, .methodref 2 3), (0, .class_ 4), (0, .nameAndType 5 6), (0, u "java/util/AbstractCollection"), (0, u "<init>"), (0, u "()V"), (0, .fieldref 8 9), (0, .class_ 10), (0, .nameAndType 11 12), (0, u "java/util/AbstractList"), (0, u "modCount"), (0, u "I"), (64, .class_ 78), (0, u "java/util/AbstractList$Itr"), (3, .class_ 83), (0, u "java/util/AbstractList$ListItr"), (9, .class_ 94), (0, u "java/util/AbstractList$RandomAccessSubList"), (3, .class_ 99), (0, u "java/util/AbstractList$SubList"), (33, .class_ 134), (0, u "java/util/List"), (73, .class_ 209), (0, u "java/util/AbstractList$SubList$1"), (0, .class_ 211), (0, u "java/util/AbstractList$RandomAccessSpliterator")] 6

def k14c0 : Code := { maxStack := 2, maxLocals := 1, code := jdk_39_method_1_code, exceptionTable := #[], attributes := #[] }
def k14m0 : Method := { name := "<init>", desc := "()V", sig := { parameters := [], returnType := none }, accessFlags := 4, code := some k14c0 }
/-- java/util/AbstractList -/
def k14 : Class := { plain "java/util/AbstractList" (some 11) with
  accessFlags := 1057
  interfaces := #[13]
  cf := some (fileOf pool14 8 #[.nestMembers #[93, 98, 208, 210, 82, 77]] #[{ accessFlags := 4, nameIndex := 5, descriptorIndex := 6, attributes := #[] }] 1057 2 #[133] #[{ accessFlags := 132, nameIndex := 11, descriptorIndex := 12, attributes := #[] }])
  fields := #[{ name := "modCount", type := .int, accessFlags := 132, slot := 0, constantValue := 0 }]
  methods := #[k14m0]
  instanceTypes := #[.int]
  staticTypes := #[]
  resolved := Array.replicate 218 none
  statics := none }

def pool15 : Array CpInfo := pool [(1, .class_ 2), (0, u "java/util/RandomAccess"), (0, .class_ 4), (0, u "java/lang/Object")] 2

/-- java/util/RandomAccess -/
def k15 : Class := { plain "java/util/RandomAccess" (some 0) with
  accessFlags := 1537
  interfaces := #[]
  cf := some (fileOf pool15 1 #[] #[] 1537 3 #[] #[])
  fields := #[]
  methods := #[]
  instanceTypes := #[]
  staticTypes := #[]
  resolved := Array.replicate 7 none
  statics := none }

def pool16 : Array CpInfo := pool [(1, .class_ 2), (0, u "java/lang/Cloneable"), (0, .class_ 4), (0, u "java/lang/Object")] 2

/-- java/lang/Cloneable -/
def k16 : Class := { plain "java/lang/Cloneable" (some 0) with
  accessFlags := 1537
  interfaces := #[]
  cf := some (fileOf pool16 1 #[] #[] 1537 3 #[] #[])
  fields := #[]
  methods := #[]
  instanceTypes := #[]
  staticTypes := #[]
  resolved := Array.replicate 7 none
  statics := none }

def pool17 : Array CpInfo := pool [(1, .methodref 2 3), (0, .class_ 4), (0, .nameAndType 5 6), (0, u "java/util/AbstractList"), (0, u "<init>"), (0, u "()V"), (2, .fieldref 10 11), (0, .class_ 12), (0, .nameAndType 13 14), (0, u "java/util/ArrayList"), (0, u "elementData"), (0, u "[Ljava/lang/Object;"), (2, u "EMPTY_ELEMENTDATA"), (21, .fieldref 10 40), (0, .nameAndType 41 14), (0, u "DEFAULTCAPACITY_EMPTY_ELEMENTDATA"), (8, u "size"), (0, u "I"), (96, .class_ 149), (0, u "java/util/List"), (112, .class_ 263), (0, u "java/util/ArrayList$ListItr"), (3, .class_ 268), (0, u "java/util/ArrayList$Itr"), (7, .class_ 277), (0, u "java/util/ArrayList$SubList"), (12, .class_ 291), (0, u "java/util/ArrayList$ArrayListSpliterator"), (37, .class_ 330), (0, u "java/util/RandomAccess"), (0, .class_ 332), (0, u "java/lang/Cloneable"), (0, .class_ 334), (0, u "java/io/Serializable"), (0, u "serialVersionUID"), (0, u "J"), (3, u "DEFAULT_CAPACITY"), (159, .class_ 501), (0, u "java/util/ArrayList$SubList$2"), (0, .class_ 503), (0, u "java/util/ArrayList$SubList$1")] 5

def k17c0 : Code := { maxStack := 2, maxLocals := 1, code := jdk_38_method_2_code, exceptionTable := #[], attributes := #[] }
def k17m0 : Method := { name := "<init>", desc := "()V", sig := { parameters := [], returnType := none }, accessFlags := 1, code := some k17c0 }
/-- java/util/ArrayList -/
def k17 : Class := { plain "java/util/ArrayList" (some 14) with
  accessFlags := 33
  interfaces := #[13, 15, 16, 3]
  cf := some (fileOf pool17 10 #[.nestMembers #[290, 276, 500, 502, 262, 267]] #[{ accessFlags := 1, nameIndex := 5, descriptorIndex := 6, attributes := #[] }] 33 2 #[148, 329, 331, 333] #[{ accessFlags := 26, nameIndex := 335, descriptorIndex := 336, attributes := #[] }, { accessFlags := 26, nameIndex := 340, descriptorIndex := 51, attributes := #[] }, { accessFlags := 26, nameIndex := 17, descriptorIndex := 14, attributes := #[] }, { accessFlags := 26, nameIndex := 41, descriptorIndex := 14, attributes := #[] }, { accessFlags := 128, nameIndex := 13, descriptorIndex := 14, attributes := #[] }, { accessFlags := 2, nameIndex := 50, descriptorIndex := 51, attributes := #[] }])
  fields := #[{ name := "serialVersionUID", type := .long, accessFlags := 26, slot := 0, constantValue := 0 }, { name := "DEFAULT_CAPACITY", type := .int, accessFlags := 26, slot := 1, constantValue := 0 }, { name := "EMPTY_ELEMENTDATA", type := (.array (.object "java/lang/Object")), accessFlags := 26, slot := 2, constantValue := 0 }, { name := "DEFAULTCAPACITY_EMPTY_ELEMENTDATA", type := (.array (.object "java/lang/Object")), accessFlags := 26, slot := 3, constantValue := 0 }, { name := "elementData", type := (.array (.object "java/lang/Object")), accessFlags := 128, slot := 1, constantValue := 0 }, { name := "size", type := .int, accessFlags := 2, slot := 2, constantValue := 0 }]
  methods := #[k17m0]
  instanceTypes := #[.int, (.array (.object "java/lang/Object")), .int]
  staticTypes := #[.long, .int, (.array (.object "java/lang/Object")), (.array (.object "java/lang/Object"))]
  resolved := Array.replicate 509 none
  statics := some 0 }

/-- the primitive byte -/
def k18 : Class := { plain "byte" none with kind := .primitive 'B', accessFlags := 0x411 }
/-- [B -/
def k19 : Class := { plain "[B" (some 0) with kind := .array 18 .byte, interfaces := #[16, 3], accessFlags := 1041 }

/-- the primitive int -/
def k20 : Class := { plain "int" none with kind := .primitive 'I', accessFlags := 0x411 }
/-- [I -/
def k21 : Class := { plain "[I" (some 0) with kind := .array 20 .int, interfaces := #[16, 3], accessFlags := 1041 }

/-- [Ljava/lang/Object; -/
def k22 : Class := { plain "[Ljava/lang/Object;" (some 0) with kind := .array 0 (.object "java/lang/Object"), interfaces := #[16, 3], accessFlags := 1041 }

def heap : Heap := #[{ cls := 17, slots := #[.long 0, .int 0, .ref 1, .ref 2], vm := .statics 17 },
  { cls := 22, slots := #[], vm := .none },
  { cls := 22, slots := #[], vm := .none }]
def classes : Array Class := #[k0, k1, k2, k3, k4, k5, k6, k7, k8, k9, k10, k11, k12, k13, k14, k15, k16, k17, k18, k19, k20, k21, k22]
def interned : List (Array UInt16 × Addr) := []
def slotsUsed : Nat := 4
def theMethod : MethodId := ⟨1, 1⟩
def args0 : Array Value := #[.int 5, .int 6, .long 7, .long 8]
def aboutOver (below : List Frame) : State where
  vm := { classes := classes, interned := interned.toArray }
  heap := heap
  slotsUsed := slotsUsed
  threads := #[{ frames := .invoking theMethod args0 :: below }]
def below0 : List Frame := [.native { method := ⟨0, 0⟩, args := #[] }]
def about1 : State := aboutOver below0
def p0 : Program := .bare "" "" ""
def e0 : Env := launch0.env 0 0 0
theorem w_frames : about1.frames = Frame.invoking theMethod args0 :: below0 := rfl
set_option maxRecDepth 65536 in
theorem w_args : argsFit about1.vm theMethod args0 = true := by decide +kernel
set_option maxRecDepth 65536 in
theorem w_heap : heapFits about1 = true := by decide +kernel
set_option maxRecDepth 65536 in
theorem w_runnable : about1.curStatus? = some .runnable := by decide +kernel
set_option maxRecDepth 65536 in
theorem w_alone : about1.alone = true := by decide +kernel
set_option maxRecDepth 65536 in
theorem w_named : about1.methodNamed? x = some theMethod := by decide +kernel
set_option maxRecDepth 65536 in
theorem w_hears : about1.hears theMethod below0 = true := by decide +kernel
set_option maxRecDepth 65536 in
theorem w_ripe : about1.ripe theMethod args0 below0 = true := by decide +kernel
theorem w_running : about1.status = .running := rfl
set_option maxRecDepth 65536 in
theorem w_room : about1.hasRoom e0.platform room_1 = true :=
  launch0.hasRoom_least _ room_1 (by decide +kernel) (by decide +kernel) (by decide +kernel) (by decide +kernel) (by decide +kernel) (by decide +kernel)
theorem allAtoms_all (ts : List Jvm.Cond) (a : Array Jvm.Value) (st : Jvm.State) : (allAtoms ts).before a st = ts.all (fun c => c.before a st) := by
  induction ts with
  | nil => rfl
  | cons c t ih =>
    show (Jvm.Cond.and c (allAtoms t)).before a st = _
    rw [Jvm.Cond.before_and, ih, List.all_cons]
def words1 : List Jvm.Cond := Jvm.Cond.code x code maxLocals ret :: tables_1
/-- a 'code' word, met by the world's own term for the bytes: nothing is compared byte by byte -/
theorem code_word {y : MethodName} {bytes : ByteArray} {mx : Nat} {rt : Option FieldType} {a : Array Value} {s : State} {m : MethodId} {meth : Method} {c : Code} (h1 : s.methodNamed? y = some m) (h2 : s.vm.method? m = some meth) (h3 : meth.code = some c) (h4 : c.code = bytes)
    (h5 : (c.maxLocals == mx && c.exceptionTable.isEmpty && decide (c.maxStack ≤ mostOperands) && decide (meth.sig.returnType = rt) && !meth.locks && decide (parseMethodDescriptor y.desc = some meth.sig)) = true) : (Jvm.Cond.code y bytes mx rt).before a s = true := by
  simp only [Bool.and_eq_true, beq_iff_eq, Bool.not_eq_true', decide_eq_true_eq] at h5
  obtain ⟨⟨⟨⟨⟨g1, g2⟩, g3⟩, g4⟩, g5⟩, g6⟩ := h5
  simp [Cond.before, Cond.holds, Cond.value, h1, h2, h3, h4, g1, g2, g3, g4, g5, g6]
def isCode : Jvm.Cond → Bool
  | .code _ _ _ _ => true
  | _ => false
theorem all_split {L : List Jvm.Cond} {P : Jvm.Cond → Bool} (h1 : L.all (fun c => isCode c || P c) = true) (h2 : ∀ c ∈ L.filter isCode, P c = true) : L.all P = true := by
  refine List.all_eq_true.mpr fun c hc => ?_
  have h := List.all_eq_true.mp h1 c hc
  rcases Bool.eq_false_or_eq_true (isCode c) with hi | hi
  · exact h2 c (List.mem_filter.mpr ⟨hc, hi⟩)
  · simpa [hi] using h
set_option maxRecDepth 65536 in
theorem w_c0 : (Jvm.Cond.code x code maxLocals ret).before args0 about1 = true := code_word (m := ⟨1, 1⟩) (meth := k1m1) (c := k1c1) (by decide +kernel) rfl rfl rfl (by decide +kernel)
set_option maxRecDepth 65536 in
theorem w_c1 : (Jvm.Cond.code ({ cls := "java/util/ArrayList", name := "<init>", desc := "()V" } : Jvm.MethodName) jdk_38_method_2_code (1 : Nat) (Option.none : Option Jvm.ClassFile.FieldType)).before args0 about1 = true := code_word (m := ⟨17, 0⟩) (meth := k17m0) (c := k17c0) (by decide +kernel) rfl rfl rfl (by decide +kernel)
set_option maxRecDepth 65536 in
theorem w_c2 : (Jvm.Cond.code ({ cls := "java/util/AbstractList", name := "<init>", desc := "()V" } : Jvm.MethodName) jdk_39_method_1_code (1 : Nat) (Option.none : Option Jvm.ClassFile.FieldType)).before args0 about1 = true := code_word (m := ⟨14, 0⟩) (meth := k14m0) (c := k14c0) (by decide +kernel) rfl rfl rfl (by decide +kernel)
set_option maxRecDepth 65536 in
theorem w_c3 : (Jvm.Cond.code ({ cls := "java/util/AbstractCollection", name := "<init>", desc := "()V" } : Jvm.MethodName) jdk_22_method_1_code (1 : Nat) (Option.none : Option Jvm.ClassFile.FieldType)).before args0 about1 = true := code_word (m := ⟨11, 0⟩) (meth := k11m0) (c := k11c0) (by decide +kernel) rfl rfl rfl (by decide +kernel)
set_option maxRecDepth 65536 in
theorem w_c4 : (Jvm.Cond.code ({ cls := "java/lang/Object", name := "<init>", desc := "()V" } : Jvm.MethodName) object_method_1_code (1 : Nat) (Option.none : Option Jvm.ClassFile.FieldType)).before args0 about1 = true := code_word (m := ⟨0, 0⟩) (meth := k0m0) (c := k0c0) (by decide +kernel) rfl rfl rfl (by decide +kernel)
set_option maxRecDepth 65536 in
theorem w_c5 : (Jvm.Cond.code ({ cls := "com/example/persistutils/persistutils/engine/PostgresTables$Table", name := "<init>", desc := "(Ljava/lang/String;ZJZILjava/util/List;JZLjava/util/List;Ljava/util/List;IZ)V" } : Jvm.MethodName) prog_51_method_1_code (15 : Nat) (Option.none : Option Jvm.ClassFile.FieldType)).before args0 about1 = true := code_word (m := ⟨2, 0⟩) (meth := k2m0) (c := k2c0) (by decide +kernel) rfl rfl rfl (by decide +kernel)
set_option maxRecDepth 65536 in
theorem w_c6 : (Jvm.Cond.code ({ cls := "com/example/persistutils/persistutils/engine/PostgresTables$Table", name := "triggeredOnDelete", desc := "()Z" } : Jvm.MethodName) prog_51_method_5_code (1 : Nat) (Option.some Jvm.ClassFile.FieldType.boolean)).before args0 about1 = true := code_word (m := ⟨2, 1⟩) (meth := k2m1) (c := k2c1) (by decide +kernel) rfl rfl rfl (by decide +kernel)
def codes1 : List Jvm.Cond := [Jvm.Cond.code x code maxLocals ret, Jvm.Cond.code ({ cls := "java/util/ArrayList", name := "<init>", desc := "()V" } : Jvm.MethodName) jdk_38_method_2_code (1 : Nat) (Option.none : Option Jvm.ClassFile.FieldType), Jvm.Cond.code ({ cls := "java/util/AbstractList", name := "<init>", desc := "()V" } : Jvm.MethodName) jdk_39_method_1_code (1 : Nat) (Option.none : Option Jvm.ClassFile.FieldType), Jvm.Cond.code ({ cls := "java/util/AbstractCollection", name := "<init>", desc := "()V" } : Jvm.MethodName) jdk_22_method_1_code (1 : Nat) (Option.none : Option Jvm.ClassFile.FieldType), Jvm.Cond.code ({ cls := "java/lang/Object", name := "<init>", desc := "()V" } : Jvm.MethodName) object_method_1_code (1 : Nat) (Option.none : Option Jvm.ClassFile.FieldType), Jvm.Cond.code ({ cls := "com/example/persistutils/persistutils/engine/PostgresTables$Table", name := "<init>", desc := "(Ljava/lang/String;ZJZILjava/util/List;JZLjava/util/List;Ljava/util/List;IZ)V" } : Jvm.MethodName) prog_51_method_1_code (15 : Nat) (Option.none : Option Jvm.ClassFile.FieldType), Jvm.Cond.code ({ cls := "com/example/persistutils/persistutils/engine/PostgresTables$Table", name := "triggeredOnDelete", desc := "()Z" } : Jvm.MethodName) prog_51_method_5_code (1 : Nat) (Option.some Jvm.ClassFile.FieldType.boolean)]
set_option maxRecDepth 65536 in
theorem codes_eq : words1.filter isCode = codes1 := rfl
theorem w_codes : ∀ c ∈ words1.filter isCode, c.before args0 about1 = true := by
  rw [codes_eq]
  intro c hc
  simp only [codes1, List.mem_cons, List.not_mem_nil, or_false] at hc
  rcases hc with rfl | rfl | rfl | rfl | rfl | rfl | rfl
  · exact w_c0
  · exact w_c1
  · exact w_c2
  · exact w_c3
  · exact w_c4
  · exact w_c5
  · exact w_c6
set_option maxRecDepth 65536 in
theorem w_t1 : (words1.take 24).all (fun c => isCode c || c.before args0 about1) = true := by decide +kernel
set_option maxRecDepth 65536 in
theorem w_t2 : ((words1.drop 24).take 24).all (fun c => isCode c || c.before args0 about1) = true := by decide +kernel
set_option maxRecDepth 65536 in
theorem w_t3 : ((words1.drop 24).drop 24).all (fun c => isCode c || c.before args0 about1) = true := by decide +kernel
theorem w_tables : (allAtoms (Jvm.Cond.code x code maxLocals ret :: tables_1)).before args0 about1 = true := by
  rw [allAtoms_all]
  show words1.all (fun c => c.before args0 about1) = true
  refine all_split ?_ w_codes
  rw [← List.take_append_drop 24 words1, List.all_append, w_t1, ← List.take_append_drop 24 (words1.drop 24), List.all_append, w_t2, w_t3]
  rfl
set_option maxRecDepth 65536 in
theorem w_rest : rest_1_c.before args0 about1 = true := by decide +kernel
set_option maxRecDepth 65536 in
theorem w_case : (Jvm.Cond.and given_1 narrow_1).before args0 about1 = true := by decide +kernel
theorem w_applies : (headSpec (Jvm.Cond.code x code maxLocals ret :: tables_1) room_1).applies x e0.platform about1 = true :=
  (Spec.applies_iff w_frames).mpr ⟨w_running, w_runnable, w_alone, w_named, w_hears, w_ripe, w_room, w_tables⟩
theorem atStart : AtStart classFile x code maxLocals ret World_1 tables_1 room_1 Calls_1 rest_1 Pre_1 launch0 p0 e0 about1 theMethod args0 below0 :=
  ⟨lists_1, trivial, launch0.admits_env _ _ _, launch0.least_env, fairChoices_fair.cas, fairChoices_fair.clock, w_frames, w_args, w_heap, w_applies, trivial, w_rest, w_case⟩
end start1
theorem witness_1 : WitnessClaimed_1 := ⟨start1.p0, start1.e0, start1.about1, start1.theMethod, start1.args0, start1.below0, start1.atStart⟩
end Jvm.Pilot.@@N@@
