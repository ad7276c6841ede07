import JvmDerived
import JvmDerived.Pilot.@@N@@Statement
import JvmDerived.Pilot.@@N@@Code
set_option linter.unusedVariables false
set_option linter.unusedSimpArgs false
namespace Jvm.RoadKit
open Sem ClassFile Op Lib Jvm.Stand Jvm.Free Jvm.LawKit
section New
variable {p : Program} {l : Launch} {e : Env} {R : Room} {s : State} {m : MethodId} {args : Array Value} {below : List Frame} {meth : Method} {c : Code} {T : State} {locs : List Loc} {cells slots : Nat}
theorem retI (X : Stand p l e R s m args below meth c T locs cells slots) (hx : p.tables.exec = Jvm.exec) {pc : Nat} {Ls : Array Slot} {z : Int32} {rest : List Value} (hret : meth.sig.returnType = some .int) (hd : decode c.code pc = .ok (.ireturn, 1)) {fs : List Frame}
    (hl : ∀ (f : JFrame) (acts : List Action), f.method = m → f.locked = none → f.entered = [] → (doReturn e (T.setTop f) acts (some (.int z))).1 = T.setFrames fs) : Steps p.tables e below (T.setTop (mkF m pc Ls (.int z :: rest))) (T.setFrames fs) := by
  have hm' : T.vm.method? m = some meth := X.method'
  have hn : narrow .int (.int z) = .int z := rfl
  show Steps p.tables e below (T.setTop { method := m, pc := pc, locals := Ls, stack := _ :: rest, locked := none }) _
  jvm_step X.here [X.here.top, hx, hd, hm', hret, hn]
  first | (intro acts; rw [hl _ acts rfl rfl rfl]) | rw [hl _ _ rfl rfl rfl]
  exact Steps.refl _
end New
end Jvm.RoadKit
namespace Jvm.Pilot.@@N@@
open Jvm Jvm.ClassFile Sem Op Lib Jvm.Free Jvm.Stand Jvm.LawKit Jvm.RoadKit Bundle Jvm.Pilot.@@N@@.Jvm.D
/-- the rest of a run, in passing style: some state is come to at which F holds -/
def Go (p : Program) (e : Env) (below : List Frame) (F : State → Outcome → Prop) (t : State) : Prop := ∃ u o, Steps p.tables e below t u ∧ F u o
theorem Go.back {p : Program} {e : Env} {below : List Frame} {F : State → Outcome → Prop} {t t' : State} (k : ∀ u, Steps p.tables e below t' u → Steps p.tables e below t u) (h : Go p e below F t') : Go p e below F t := by
  obtain ⟨u, o, h1, h2⟩ := h
  exact ⟨u, o, k u h1, h2⟩
def own_F (s : State) (below : List Frame) (Q : Option Value → Heap → List Loc → Prop) (cells slots : Nat) (u : State) (o : Outcome) : Prop := u.status = .running ∧ Ended u below o ∧ ∃ v L, o = .returned v ∧ Q v u.heap L ∧ FrameEnd s o u L cells slots
theorem own_field {args : Array Value} {s : State} {t : Term} {C n d : String} {x : Addr} {v : Value} (h : t.eval args s none [] s = some (.ref x)) (h2 : (Term.field t C n d).eval args s none [] s = some v) : s.fieldOf? x C n d = some v := by
  simpa [Term.eval, h] using h2
theorem own_bit {x : Int32} (h : x = 0 ∨ x = 1) : narrow .boolean (.int x) = .int x ∧ fits .boolean (.int x) = true := by
  rcases h with rfl | rfl <;> decide
theorem own_pn0 : plainName "com/example/countersign/countersign/checksum/ChecksumAlgorithm" = true := by first | (simp [plainName, overriddenIn]; done) | decide +kernel
theorem own_d1_0 : decode prog_34_method_8_code 0 = .ok (.aload_n 0, 1) := by decide +kernel
theorem own_d1_1 : decode prog_34_method_8_code 1 = .ok (.getfield 57, 3) := by decide +kernel
theorem own_d1_4 : decode prog_34_method_8_code 4 = .ok (.ifnull 7, 3) := by decide +kernel
theorem own_d1_7 : decode prog_34_method_8_code 7 = .ok (.iconst 1, 1) := by decide +kernel
theorem own_d1_8 : decode prog_34_method_8_code 8 = .ok (.goto 4, 3) := by decide +kernel
theorem own_d1_11 : decode prog_34_method_8_code 11 = .ok (.iconst 0, 1) := by decide +kernel
theorem own_d1_12 : decode prog_34_method_8_code 12 = .ok (.ireturn, 1) := by decide +kernel
theorem own_ef_own_full1 (m : MethodId) (x0 : Addr) : entryFrame m #[(.ref x0)] 1 = mkF m 0 #[.val (.ref x0)] [] := by first | (simp [entryFrame, mkF, argsToLocals, Value.category]; done) | rfl
def Q_own_full1 (Z : State) (a : Addr) (w : Addr) (h0 : Heap) (n0 : Nat) (v : Option Value) (h : Heap) (L : List Loc) : Prop := v = some (.int (1 : Int32)) ∧ Fr n0 L ∧ h = h0
set_option maxRecDepth 65536 in
set_option maxHeartbeats 40000000 in
theorem own_full1 (l : Launch) (Z : State) (a0 : Array Value) (hw : ∀ d ∈ tables_1, d.before a0 Z = true) (ws : List Jvm.Cond) (a : Addr) (w : Addr) (h0 : Heap) (n0 : Nat) (Z0 : n0 ≤ h0.size) (F_a : Fld Z h0 a "com/example/countersign/countersign/checksum/ChecksumAlgorithm" "combination" "Lcom/example/countersign/countersign/checksum/CrcCombination;" (.ref w)) :
    MetFree l (⟨"com/example/countersign/countersign/checksum/ChecksumAlgorithm", "hasFullObjectForm", "()Z"⟩ : MethodName) (head1 (Jvm.Cond.code (⟨"com/example/countersign/countersign/checksum/ChecksumAlgorithm", "hasFullObjectForm", "()Z"⟩ : MethodName) prog_34_method_8_code 1 (some .boolean) :: ws) ({ frames := 0, cells := 0, slots := 0, locals := 0 } : Room)) (fun as_ U => as_ = #[(.ref a)] ∧ Z.Warmed39 U.vm ∧ U.heap = h0) (fun _ _ _ _ _ => True) (fun _ U o U' => ∃ v L, o = .returned v ∧ Q_own_full1 Z a w h0 n0 v U'.heap L ∧ FrameEnd U o U' L ({ frames := 0, cells := 0, slots := 0, locals := 0 } : Room).cells ({ frames := 0, cells := 0, slots := 0, locals := 0 } : Room).slots) := by
  refine MetFree.of_bodySF (plainFor_of_name own_pn0) hisR ?_
  intro p e s m args below meth c s₁ Bd hml0 hP hK
  obtain ⟨rfl, hZ, hh⟩ := hP
  have hx := Bd.exec
  have hby := Bd.bytes
  have hml : c.maxLocals = 1 := hml0
  have hown : s.vm.findClass "com/example/countersign/countersign/checksum/ChecksumAlgorithm" = some m.cls := findClass_of_methodNamed Bd.named
  have hnm := (name_of_methodNamed Bd.named Bd.method).1
  have X0 : Stand p l e ({ frames := 0, cells := 0, slots := 0, locals := 0 } : Room) s m #[(.ref a)] below meth c s₁ [] 0 0 := Stand.of_body Bd
  have e0 : s₁.heap = h0 := by rw [← hh, Bd.state]; rfl
  have N0 := Fr.nil n0
  have K0 := Keep.refl h0 []
  show Go p e below (own_F s below (Q_own_full1 Z a w h0 n0) ({ frames := 0, cells := 0, slots := 0, locals := 0 } : Room).cells ({ frames := 0, cells := 0, slots := 0, locals := 0 } : Room).slots) (s₁.setTop (entryFrame m #[(.ref a)] 1))
  rw [own_ef_own_full1 m a]
  refine Go.back (t' := (s₁.setTop (mkF m 1 #[.val (.ref a)] [(.ref a)]))) (fun u k => XS.aloadN X0.here hx rfl (hb hby own_d1_0) rfl rfl k) ?_
  obtain ⟨T1, X1, e1, st1⟩ := getF X0 hx hZ hown (host := "") (Or.inl (hw _ (List.mem_of_getElem? (i := 9) rfl))) Via.refl e0 F_a (g := (mkF m 1 #[.val (.ref a)] [(.ref a)])) rfl rfl (hb hby own_d1_1)
  refine Go.back (t' := (T1.setTop (mkF m 4 #[.val (.ref a)] [(.ref w)]))) st1 ?_
  refine Go.back (t' := (T1.setTop (mkF m 7 #[.val (.ref a)] []))) (fun u k => XS.ifnullNo X1.here hx rfl (hb hby own_d1_4) rfl k) ?_
  refine Go.back (t' := (T1.setTop (mkF m 8 #[.val (.ref a)] [(.int (1 : Int32))]))) (fun u k => XT.iconstV X1.here hx rfl (1 : Int32) (hb hby own_d1_7) (by decide) k) ?_
  refine Go.back (t' := (T1.setTop (mkF m 12 #[.val (.ref a)] [(.int (1 : Int32))]))) (fun u k => XS.goto X1.here hx rfl (pc0 := 8) (pc' := 12) rfl (hb hby own_d1_8) (by decide) (by decide) k) ?_
  obtain ⟨fs, hr, hrun, hended, hW, hsame⟩ := X1.leave (v := some (.int (1 : Int32))) (fun h => by rw [Bd.returns] at h; cases h)
  refine ⟨_, _, retN X1 hx (t := .boolean) Bd.returns (by simp) (hb hby own_d1_12) hr, hrun, hended, _, _, rfl, ?_, ⟨_, rfl⟩, hW, hsame.mono (by decide) (by decide)⟩
  show Q_own_full1 Z a w h0 n0 _ T1.heap _
  rw [e1]
  exact ⟨rfl, N0, rfl⟩
theorem own_ef_own_full0 (m : MethodId) (x0 : Addr) : entryFrame m #[(.ref x0)] 1 = mkF m 0 #[.val (.ref x0)] [] := by first | (simp [entryFrame, mkF, argsToLocals, Value.category]; done) | rfl
def Q_own_full0 (Z : State) (a : Addr) (h0 : Heap) (n0 : Nat) (v : Option Value) (h : Heap) (L : List Loc) : Prop := v = some (.int (0 : Int32)) ∧ Fr n0 L ∧ h = h0
set_option maxRecDepth 65536 in
set_option maxHeartbeats 40000000 in
theorem own_full0 (l : Launch) (Z : State) (a0 : Array Value) (hw : ∀ d ∈ tables_1, d.before a0 Z = true) (ws : List Jvm.Cond) (a : Addr) (h0 : Heap) (n0 : Nat) (Z0 : n0 ≤ h0.size) (F_a : Fld Z h0 a "com/example/countersign/countersign/checksum/ChecksumAlgorithm" "combination" "Lcom/example/countersign/countersign/checksum/CrcCombination;" .null) :
    MetFree l (⟨"com/example/countersign/countersign/checksum/ChecksumAlgorithm", "hasFullObjectForm", "()Z"⟩ : MethodName) (head1 (Jvm.Cond.code (⟨"com/example/countersign/countersign/checksum/ChecksumAlgorithm", "hasFullObjectForm", "()Z"⟩ : MethodName) prog_34_method_8_code 1 (some .boolean) :: ws) ({ frames := 0, cells := 0, slots := 0, locals := 0 } : Room)) (fun as_ U => as_ = #[(.ref a)] ∧ Z.Warmed39 U.vm ∧ U.heap = h0) (fun _ _ _ _ _ => True) (fun _ U o U' => ∃ v L, o = .returned v ∧ Q_own_full0 Z a h0 n0 v U'.heap L ∧ FrameEnd U o U' L ({ frames := 0, cells := 0, slots := 0, locals := 0 } : Room).cells ({ frames := 0, cells := 0, slots := 0, locals := 0 } : Room).slots) := by
  refine MetFree.of_bodySF (plainFor_of_name own_pn0) hisR ?_
  intro p e s m args below meth c s₁ Bd hml0 hP hK
  obtain ⟨rfl, hZ, hh⟩ := hP
  have hx := Bd.exec
  have hby := Bd.bytes
  have hml : c.maxLocals = 1 := hml0
  have hown : s.vm.findClass "com/example/countersign/countersign/checksum/ChecksumAlgorithm" = some m.cls := findClass_of_methodNamed Bd.named
  have hnm := (name_of_methodNamed Bd.named Bd.method).1
  have X0 : Stand p l e ({ frames := 0, cells := 0, slots := 0, locals := 0 } : Room) s m #[(.ref a)] below meth c s₁ [] 0 0 := Stand.of_body Bd
  have e0 : s₁.heap = h0 := by rw [← hh, Bd.state]; rfl
  have N0 := Fr.nil n0
  have K0 := Keep.refl h0 []
  show Go p e below (own_F s below (Q_own_full0 Z a h0 n0) ({ frames := 0, cells := 0, slots := 0, locals := 0 } : Room).cells ({ frames := 0, cells := 0, slots := 0, locals := 0 } : Room).slots) (s₁.setTop (entryFrame m #[(.ref a)] 1))
  rw [own_ef_own_full0 m a]
  refine Go.back (t' := (s₁.setTop (mkF m 1 #[.val (.ref a)] [(.ref a)]))) (fun u k => XS.aloadN X0.here hx rfl (hb hby own_d1_0) rfl rfl k) ?_
  obtain ⟨T1, X1, e1, st1⟩ := getF X0 hx hZ hown (host := "") (Or.inl (hw _ (List.mem_of_getElem? (i := 9) rfl))) Via.refl e0 F_a (g := (mkF m 1 #[.val (.ref a)] [(.ref a)])) rfl rfl (hb hby own_d1_1)
  refine Go.back (t' := (T1.setTop (mkF m 4 #[.val (.ref a)] [.null]))) st1 ?_
  refine Go.back (t' := (T1.setTop (mkF m 11 #[.val (.ref a)] []))) (fun u k => XS.ifnullYes X1.here hx rfl (pc0 := 4) (pc' := 11) rfl (hb hby own_d1_4) rfl (by decide) (by decide) k) ?_
  refine Go.back (t' := (T1.setTop (mkF m 12 #[.val (.ref a)] [(.int (0 : Int32))]))) (fun u k => XT.iconstV X1.here hx rfl (0 : Int32) (hb hby own_d1_11) (by decide) k) ?_
  obtain ⟨fs, hr, hrun, hended, hW, hsame⟩ := X1.leave (v := some (.int (0 : Int32))) (fun h => by rw [Bd.returns] at h; cases h)
  refine ⟨_, _, retN X1 hx (t := .boolean) Bd.returns (by simp) (hb hby own_d1_12) hr, hrun, hended, _, _, rfl, ?_, ⟨_, rfl⟩, hW, hsame.mono (by decide) (by decide)⟩
  show Q_own_full0 Z a h0 n0 _ T1.heap _
  rw [e1]
  exact ⟨rfl, N0, rfl⟩
theorem own_pd0 : parseMethodDescriptor "()Z" = some ⟨[], some .boolean⟩ := by decide +kernel
theorem own_pn1 : plainName "com/example/countersign/countersign/checksum/ChecksumAlgorithmHasFullObjectFormPinLaw" = true := by first | (simp [plainName, overriddenIn]; done) | decide +kernel
theorem own_ef_own_law0 (m : MethodId) (x0 : Int32) : entryFrame m #[(.int x0)] maxLocals = mkF m 0 #[.val (.int x0), .unset, .unset, .unset] [] := by first | (simp [entryFrame, mkF, argsToLocals, Value.category, maxLocals]; done) | rfl
def Q_own_law0 (Z : State) (p0 : Int32) (a_CRC32 : Addr) (w_CRC32 : Addr) (a_SHA1 : Addr) (a_CRC64NVME : Addr) (w_CRC64NVME : Addr) (a_CRC32C : Addr) (w_CRC32C : Addr) (a_MD5 : Addr) (a_SHA256 : Addr) (h0 : Heap) (n0 : Nat) (v : Option Value) (h : Heap) (L : List Loc) : Prop := v = some (.int 1) ∧ Fr n0 L ∧ h = h0
set_option maxRecDepth 65536 in
set_option maxHeartbeats 40000000 in
theorem own_law0 (l : Launch) (Z : State) (a0 : Array Value) (hw : ∀ d ∈ tables_1, d.before a0 Z = true) (ws : List Jvm.Cond) (p0 : Int32) (a_CRC32 : Addr) (w_CRC32 : Addr) (a_SHA1 : Addr) (a_CRC64NVME : Addr) (w_CRC64NVME : Addr) (a_CRC32C : Addr) (w_CRC32C : Addr) (a_MD5 : Addr) (a_SHA256 : Addr) (h0 : Heap) (n0 : Nat) (Z0 : n0 ≤ h0.size) (Old0 : Old Z n0 h0) (S_CRC32 : Sta Z Z.heap "com/example/countersign/countersign/checksum/ChecksumAlgorithm" "CRC32" "Lcom/example/countersign/countersign/checksum/ChecksumAlgorithm;" (.ref a_CRC32)) (E_CRC32 : Exa Z h0 a_CRC32 "com/example/countersign/countersign/checksum/ChecksumAlgorithm") (F_CRC32 : Fld Z h0 a_CRC32 "com/example/countersign/countersign/checksum/ChecksumAlgorithm" "combination" "Lcom/example/countersign/countersign/checksum/CrcCombination;" (.ref w_CRC32)) (S_SHA1 : Sta Z Z.heap "com/example/countersign/countersign/checksum/ChecksumAlgorithm" "SHA1" "Lcom/example/countersign/countersign/checksum/ChecksumAlgorithm;" (.ref a_SHA1)) (E_SHA1 : Exa Z h0 a_SHA1 "com/example/countersign/countersign/checksum/ChecksumAlgorithm") (F_SHA1 : Fld Z h0 a_SHA1 "com/example/countersign/countersign/checksum/ChecksumAlgorithm" "combination" "Lcom/example/countersign/countersign/checksum/CrcCombination;" .null) (S_CRC64NVME : Sta Z Z.heap "com/example/countersign/countersign/checksum/ChecksumAlgorithm" "CRC64NVME" "Lcom/example/countersign/countersign/checksum/ChecksumAlgorithm;" (.ref a_CRC64NVME)) (E_CRC64NVME : Exa Z h0 a_CRC64NVME "com/example/countersign/countersign/checksum/ChecksumAlgorithm") (F_CRC64NVME : Fld Z h0 a_CRC64NVME "com/example/countersign/countersign/checksum/ChecksumAlgorithm" "combination" "Lcom/example/countersign/countersign/checksum/CrcCombination;" (.ref w_CRC64NVME)) (S_CRC32C : Sta Z Z.heap "com/example/countersign/countersign/checksum/ChecksumAlgorithm" "CRC32C" "Lcom/example/countersign/countersign/checksum/ChecksumAlgorithm;" (.ref a_CRC32C)) (E_CRC32C : Exa Z h0 a_CRC32C "com/example/countersign/countersign/checksum/ChecksumAlgorithm") (F_CRC32C : Fld Z h0 a_CRC32C "com/example/countersign/countersign/checksum/ChecksumAlgorithm" "combination" "Lcom/example/countersign/countersign/checksum/CrcCombination;" (.ref w_CRC32C)) (S_MD5 : Sta Z Z.heap "com/example/countersign/countersign/checksum/ChecksumAlgorithm" "MD5" "Lcom/example/countersign/countersign/checksum/ChecksumAlgorithm;" (.ref a_MD5)) (E_MD5 : Exa Z h0 a_MD5 "com/example/countersign/countersign/checksum/ChecksumAlgorithm") (F_MD5 : Fld Z h0 a_MD5 "com/example/countersign/countersign/checksum/ChecksumAlgorithm" "combination" "Lcom/example/countersign/countersign/checksum/CrcCombination;" .null) (S_SHA256 : Sta Z Z.heap "com/example/countersign/countersign/checksum/ChecksumAlgorithm" "SHA256" "Lcom/example/countersign/countersign/checksum/ChecksumAlgorithm;" (.ref a_SHA256)) (E_SHA256 : Exa Z h0 a_SHA256 "com/example/countersign/countersign/checksum/ChecksumAlgorithm") (F_SHA256 : Fld Z h0 a_SHA256 "com/example/countersign/countersign/checksum/ChecksumAlgorithm" "combination" "Lcom/example/countersign/countersign/checksum/CrcCombination;" .null) :
    MetFree l x (head1 (Jvm.Cond.code x code maxLocals ret :: ws) room_1) (fun as_ U => as_ = #[(.int p0)] ∧ Z.Warmed39 U.vm ∧ U.heap = h0) (fun _ _ _ _ _ => True) (fun _ U o U' => ∃ v L, o = .returned v ∧ Q_own_law0 Z p0 a_CRC32 w_CRC32 a_SHA1 a_CRC64NVME w_CRC64NVME a_CRC32C w_CRC32C a_MD5 a_SHA256 h0 n0 v U'.heap L ∧ FrameEnd U o U' L 0 0) := by
  refine MetFree.of_bodySF (plainFor_of_name own_pn1) hisR ?_
  intro p e s m args below meth c s₁ Bd hml0 hP hK
  obtain ⟨rfl, hZ, hh⟩ := hP
  have hx := Bd.exec
  have hby := Bd.bytes
  have hml : c.maxLocals = 4 := hml0
  have hown : s.vm.findClass "com/example/countersign/countersign/checksum/ChecksumAlgorithmHasFullObjectFormPinLaw" = some m.cls := findClass_of_methodNamed Bd.named
  have hnm := (name_of_methodNamed Bd.named Bd.method).1
  have X0 : Stand p l e room_1 s m #[(.int p0)] below meth c s₁ [] 0 0 := Stand.of_body Bd
  have e0 : s₁.heap = h0 := by rw [← hh, Bd.state]; rfl
  have N0 := Fr.nil n0
  have K0 := Keep.refl h0 []
  show Go p e below (own_F s below (Q_own_law0 Z p0 a_CRC32 w_CRC32 a_SHA1 a_CRC64NVME w_CRC64NVME a_CRC32C w_CRC32C a_MD5 a_SHA256 h0 n0) 0 0) (s₁.setTop (entryFrame m #[(.int p0)] maxLocals))
  rw [own_ef_own_law0 m p0]
  refine Go.back (t' := (s₁.setTop (mkF m 1 #[.val (.int p0), .unset, .unset, .unset] [(.int p0)]))) (fun u k => XS.iloadN X0.here hx rfl (hb hby at_0) rfl k) ?_
  refine Go.back (t' := (s₁.setTop (mkF m 3 #[.val (.int p0), .unset, .unset, .unset] [(.int (2147483647 : Int32)), (.int p0)]))) (fun u k => X0.ldcI hx hown (mvT hZ (hw _ (List.mem_of_getElem? (i := 0) rfl))) rfl (hb hby at_1) k) ?_
  refine Go.back (t' := (s₁.setTop (mkF m 4 #[.val (.int p0), .unset, .unset, .unset] [(.int (p0 &&& (2147483647 : Int32)))]))) (fun u k => XS.iand X0.here hx rfl (hb hby at_3) rfl k) ?_
  refine Go.back (t' := (s₁.setTop (mkF m 6 #[.val (.int p0), .unset, .unset, .unset] [(.int (6 : Int32)), (.int (p0 &&& (2147483647 : Int32)))]))) (fun u k => XT.bipushV X0.here hx rfl (6 : Int32) (hb hby at_4) (by decide) k) ?_
  refine Go.back (t' := (s₁.setTop (mkF m 7 #[.val (.int p0), .unset, .unset, .unset] [(.int ((p0 &&& (2147483647 : Int32)) % (6 : Int32)))]))) (fun u k => iremM X0 hx rfl (hb hby at_6) rfl (by decide) k) ?_
  obtain ⟨i0, h_i0⟩ : ∃ z : Int32, z = ((p0 &&& (2147483647 : Int32)) % (6 : Int32)) := ⟨_, rfl⟩
  rw [← h_i0]
  refine Go.back (t' := (s₁.setTop (mkF m 8 #[.val (.int p0), .val (.int i0), .unset, .unset] []))) (fun u k => XS.istoreN X0.here hx rfl (hb hby at_7) rfl (l' := #[.val (.int p0), .val (.int i0), .unset, .unset]) rfl k) ?_
  refine Go.back (t' := (s₁.setTop (mkF m 9 #[.val (.int p0), .val (.int i0), .unset, .unset] [(.int i0)]))) (fun u k => XS.iloadN X0.here hx rfl (hb hby at_8) rfl k) ?_
  by_cases hc1 : i0 = (0 : Int32)
  · skip
    refine Go.back (t' := (s₁.setTop (mkF m 12 #[.val (.int p0), .val (.int i0), .unset, .unset] []))) (fun u k => XS.ifNo X0.here hx rfl (hb hby at_9) rfl (XT.i0_ne_f hc1) k) ?_
    obtain ⟨T2, X2, e2, st2⟩ := getS2 X0 hx hZ hown (host := "") (Or.inl (hw _ (List.mem_of_getElem? (i := 1) rfl))) Via.refl e0 (S_CRC32.ext Old0.2) (g := (mkF m 12 #[.val (.int p0), .val (.int i0), .unset, .unset] [])) rfl (hb hby at_12)
    refine Go.back (t' := (T2.setTop (mkF m 15 #[.val (.int p0), .val (.int i0), .unset, .unset] [(.ref a_CRC32)]))) st2 ?_
    refine Go.back (t' := (T2.setTop (mkF m 16 #[.val (.int p0), .val (.int i0), .val (.ref a_CRC32), .unset] []))) (fun u k => XS.astoreN X2.here hx rfl (hb hby at_15) rfl rfl (l' := #[.val (.int p0), .val (.int i0), .val (.ref a_CRC32), .unset]) rfl k) ?_
    refine Go.back (t' := (T2.setTop (mkF m 17 #[.val (.int p0), .val (.int i0), .val (.ref a_CRC32), .unset] [(.int (1 : Int32))]))) (fun u k => XT.iconstV X2.here hx rfl (1 : Int32) (hb hby at_16) (by decide) k) ?_
    refine Go.back (t' := (T2.setTop (mkF m 18 #[.val (.int p0), .val (.int i0), .val (.ref a_CRC32), .val (.int (1 : Int32))] []))) (fun u k => XS.istoreN X2.here hx rfl (hb hby at_17) rfl (l' := #[.val (.int p0), .val (.int i0), .val (.ref a_CRC32), .val (.int (1 : Int32))]) rfl k) ?_
    refine Go.back (t' := (T2.setTop (mkF m 83 #[.val (.int p0), .val (.int i0), .val (.ref a_CRC32), .val (.int (1 : Int32))] []))) (fun u k => XS.goto X2.here hx rfl (pc0 := 18) (pc' := 83) rfl (hb hby at_18) (by decide) (by decide) k) ?_
    refine Go.back (t' := (T2.setTop (mkF m 84 #[.val (.int p0), .val (.int i0), .val (.ref a_CRC32), .val (.int (1 : Int32))] [(.ref a_CRC32)]))) (fun u k => XS.aloadN X2.here hx rfl (hb hby at_83) rfl rfl k) ?_
    obtain ⟨cq4, kq4, qa4, qb4, qc4⟩ := isOf hZ e2 E_CRC32
    obtain ⟨_, _, ⟨T3, L3, k3, n3⟩, -, X3, ⟨Lc3, hQ3, l3, y3, z3⟩, st3⟩ := X2.virtualBack hx (y := (⟨"com/example/countersign/countersign/checksum/ChecksumAlgorithm", "hasFullObjectForm", "()Z"⟩ : MethodName)) (z := (⟨"com/example/countersign/countersign/checksum/ChecksumAlgorithm", "hasFullObjectForm", "()Z"⟩ : MethodName)) hown (mvT hZ (hw _ (List.mem_of_getElem? (i := 4) rfl))) (mvT hZ (hw _ (List.mem_of_getElem? (i := 5) rfl))) (notFace_of_selects (args := #[]) (mvT hZ (hw _ (List.mem_of_getElem? (i := 7) rfl)))) (mvT hZ (hw _ (List.mem_of_getElem? (i := 7) rfl))) (mvT hZ (hw _ (List.mem_of_getElem? (i := 6) rfl))) (by decide) (backOf (W := 0) (own_full1 l Z a0 hw [] a_CRC32 w_CRC32 h0 n0 Z0 F_CRC32) hZ (hw _ (List.mem_of_getElem? (i := 8) rfl)) (hw _ (List.mem_of_getElem? (i := 2) rfl)) (by decide) (by decide)) qa4 qc4 (g := (mkF m 84 #[.val (.int p0), .val (.int i0), .val (.ref a_CRC32), .val (.int (1 : Int32))] [(.ref a_CRC32)])) rfl (by rw [hml]; rfl) (Steps.refl _) (argsL := []) (rest := []) (lenOf own_pd0 rfl) rfl (by show 2 * 0 + _ ≤ _; exact Nat.le_of_eq rfl) (hb hby at_84) (fun _ _ => ⟨rfl, e2, (by decide : 0 + 0 ≤ _), (by decide : 0 + 0 ≤ _)⟩)
    dsimp only [Pt.U, Pt.locs, Pt.cells, Pt.slots] at X3 l3 y3 z3 st3 hQ3
    subst l3 y3 z3
    obtain ⟨rfl, N3, e3⟩ := hQ3
    have NA3 := Fr.app N0 N3
    refine Go.back (t' := (T3.setTop (mkF m 87 #[.val (.int p0), .val (.int i0), .val (.ref a_CRC32), .val (.int (1 : Int32))] [(.int (1 : Int32))]))) (fun u k => st3.trans k) ?_
    refine Go.back (t' := (T3.setTop (mkF m 88 #[.val (.int p0), .val (.int i0), .val (.ref a_CRC32), .val (.int (1 : Int32))] [(.int (1 : Int32)), (.int (1 : Int32))]))) (fun u k => XS.iloadN X3.here hx rfl (hb hby at_87) rfl k) ?_
    refine Go.back (t' := (T3.setTop (mkF m 91 #[.val (.int p0), .val (.int i0), .val (.ref a_CRC32), .val (.int (1 : Int32))] []))) (fun u k => XS.icmpNo X3.here hx rfl (hb hby at_88) rfl (XT.ii_ne_f (by decide)) k) ?_
    refine Go.back (t' := (T3.setTop (mkF m 92 #[.val (.int p0), .val (.int i0), .val (.ref a_CRC32), .val (.int (1 : Int32))] [(.int (1 : Int32))]))) (fun u k => XT.iconstV X3.here hx rfl (1 : Int32) (hb hby at_91) (by decide) k) ?_
    refine Go.back (t' := (T3.setTop (mkF m 96 #[.val (.int p0), .val (.int i0), .val (.ref a_CRC32), .val (.int (1 : Int32))] [(.int (1 : Int32))]))) (fun u k => XS.goto X3.here hx rfl (pc0 := 92) (pc' := 96) rfl (hb hby at_92) (by decide) (by decide) k) ?_
    obtain ⟨fs, hr, hrun, hended, hW, hsame⟩ := X3.leave (v := some (.int (1 : Int32))) (fun h => by rw [Bd.returns] at h; cases h)
    refine ⟨_, _, retN X3 hx (t := .boolean) Bd.returns (by simp) (hb hby at_96) hr, hrun, hended, _, _, rfl, ?_, ⟨_, rfl⟩, hW, hsame.mono (by decide) (by decide)⟩
    show Q_own_law0 Z p0 a_CRC32 w_CRC32 a_SHA1 a_CRC64NVME w_CRC64NVME a_CRC32C w_CRC32C a_MD5 a_SHA256 h0 n0 _ T3.heap _
    rw [e3]
    exact ⟨rfl, NA3, rfl⟩
  · skip
    refine Go.back (t' := (s₁.setTop (mkF m 21 #[.val (.int p0), .val (.int i0), .unset, .unset] []))) (fun u k => XS.ifYes X0.here hx rfl (pc0 := 9) (pc' := 21) rfl (hb hby at_9) rfl (XT.i0_ne_t hc1) (by decide) (by decide) k) ?_
    refine Go.back (t' := (s₁.setTop (mkF m 22 #[.val (.int p0), .val (.int i0), .unset, .unset] [(.int i0)]))) (fun u k => XS.iloadN X0.here hx rfl (hb hby at_21) rfl k) ?_
    refine Go.back (t' := (s₁.setTop (mkF m 23 #[.val (.int p0), .val (.int i0), .unset, .unset] [(.int (1 : Int32)), (.int i0)]))) (fun u k => XT.iconstV X0.here hx rfl (1 : Int32) (hb hby at_22) (by decide) k) ?_
    by_cases hc5 : i0 = (1 : Int32)
    · skip
      refine Go.back (t' := (s₁.setTop (mkF m 26 #[.val (.int p0), .val (.int i0), .unset, .unset] []))) (fun u k => XS.icmpNo X0.here hx rfl (hb hby at_23) rfl (XT.ii_ne_f hc5) k) ?_
      obtain ⟨T6, X6, e6, st6⟩ := getS2 X0 hx hZ hown (host := "") (Or.inl (hw _ (List.mem_of_getElem? (i := 15) rfl))) Via.refl e0 (S_CRC32C.ext Old0.2) (g := (mkF m 26 #[.val (.int p0), .val (.int i0), .unset, .unset] [])) rfl (hb hby at_26)
      refine Go.back (t' := (T6.setTop (mkF m 29 #[.val (.int p0), .val (.int i0), .unset, .unset] [(.ref a_CRC32C)]))) st6 ?_
      refine Go.back (t' := (T6.setTop (mkF m 30 #[.val (.int p0), .val (.int i0), .val (.ref a_CRC32C), .unset] []))) (fun u k => XS.astoreN X6.here hx rfl (hb hby at_29) rfl rfl (l' := #[.val (.int p0), .val (.int i0), .val (.ref a_CRC32C), .unset]) rfl k) ?_
      refine Go.back (t' := (T6.setTop (mkF m 31 #[.val (.int p0), .val (.int i0), .val (.ref a_CRC32C), .unset] [(.int (1 : Int32))]))) (fun u k => XT.iconstV X6.here hx rfl (1 : Int32) (hb hby at_30) (by decide) k) ?_
      refine Go.back (t' := (T6.setTop (mkF m 32 #[.val (.int p0), .val (.int i0), .val (.ref a_CRC32C), .val (.int (1 : Int32))] []))) (fun u k => XS.istoreN X6.here hx rfl (hb hby at_31) rfl (l' := #[.val (.int p0), .val (.int i0), .val (.ref a_CRC32C), .val (.int (1 : Int32))]) rfl k) ?_
      refine Go.back (t' := (T6.setTop (mkF m 83 #[.val (.int p0), .val (.int i0), .val (.ref a_CRC32C), .val (.int (1 : Int32))] []))) (fun u k => XS.goto X6.here hx rfl (pc0 := 32) (pc' := 83) rfl (hb hby at_32) (by decide) (by decide) k) ?_
      refine Go.back (t' := (T6.setTop (mkF m 84 #[.val (.int p0), .val (.int i0), .val (.ref a_CRC32C), .val (.int (1 : Int32))] [(.ref a_CRC32C)]))) (fun u k => XS.aloadN X6.here hx rfl (hb hby at_83) rfl rfl k) ?_
      obtain ⟨cq8, kq8, qa8, qb8, qc8⟩ := isOf hZ e6 E_CRC32C
      obtain ⟨_, _, ⟨T7, L7, k7, n7⟩, -, X7, ⟨Lc7, hQ7, l7, y7, z7⟩, st7⟩ := X6.virtualBack hx (y := (⟨"com/example/countersign/countersign/checksum/ChecksumAlgorithm", "hasFullObjectForm", "()Z"⟩ : MethodName)) (z := (⟨"com/example/countersign/countersign/checksum/ChecksumAlgorithm", "hasFullObjectForm", "()Z"⟩ : MethodName)) hown (mvT hZ (hw _ (List.mem_of_getElem? (i := 4) rfl))) (mvT hZ (hw _ (List.mem_of_getElem? (i := 5) rfl))) (notFace_of_selects (args := #[]) (mvT hZ (hw _ (List.mem_of_getElem? (i := 7) rfl)))) (mvT hZ (hw _ (List.mem_of_getElem? (i := 7) rfl))) (mvT hZ (hw _ (List.mem_of_getElem? (i := 6) rfl))) (by decide) (backOf (W := 0) (own_full1 l Z a0 hw [] a_CRC32C w_CRC32C h0 n0 Z0 F_CRC32C) hZ (hw _ (List.mem_of_getElem? (i := 8) rfl)) (hw _ (List.mem_of_getElem? (i := 2) rfl)) (by decide) (by decide)) qa8 qc8 (g := (mkF m 84 #[.val (.int p0), .val (.int i0), .val (.ref a_CRC32C), .val (.int (1 : Int32))] [(.ref a_CRC32C)])) rfl (by rw [hml]; rfl) (Steps.refl _) (argsL := []) (rest := []) (lenOf own_pd0 rfl) rfl (by show 2 * 0 + _ ≤ _; exact Nat.le_of_eq rfl) (hb hby at_84) (fun _ _ => ⟨rfl, e6, (by decide : 0 + 0 ≤ _), (by decide : 0 + 0 ≤ _)⟩)
      dsimp only [Pt.U, Pt.locs, Pt.cells, Pt.slots] at X7 l7 y7 z7 st7 hQ7
      subst l7 y7 z7
      obtain ⟨rfl, N7, e7⟩ := hQ7
      have NA7 := Fr.app N0 N7
      refine Go.back (t' := (T7.setTop (mkF m 87 #[.val (.int p0), .val (.int i0), .val (.ref a_CRC32C), .val (.int (1 : Int32))] [(.int (1 : Int32))]))) (fun u k => st7.trans k) ?_
      refine Go.back (t' := (T7.setTop (mkF m 88 #[.val (.int p0), .val (.int i0), .val (.ref a_CRC32C), .val (.int (1 : Int32))] [(.int (1 : Int32)), (.int (1 : Int32))]))) (fun u k => XS.iloadN X7.here hx rfl (hb hby at_87) rfl k) ?_
      refine Go.back (t' := (T7.setTop (mkF m 91 #[.val (.int p0), .val (.int i0), .val (.ref a_CRC32C), .val (.int (1 : Int32))] []))) (fun u k => XS.icmpNo X7.here hx rfl (hb hby at_88) rfl (XT.ii_ne_f (by decide)) k) ?_
      refine Go.back (t' := (T7.setTop (mkF m 92 #[.val (.int p0), .val (.int i0), .val (.ref a_CRC32C), .val (.int (1 : Int32))] [(.int (1 : Int32))]))) (fun u k => XT.iconstV X7.here hx rfl (1 : Int32) (hb hby at_91) (by decide) k) ?_
      refine Go.back (t' := (T7.setTop (mkF m 96 #[.val (.int p0), .val (.int i0), .val (.ref a_CRC32C), .val (.int (1 : Int32))] [(.int (1 : Int32))]))) (fun u k => XS.goto X7.here hx rfl (pc0 := 92) (pc' := 96) rfl (hb hby at_92) (by decide) (by decide) k) ?_
      obtain ⟨fs, hr, hrun, hended, hW, hsame⟩ := X7.leave (v := some (.int (1 : Int32))) (fun h => by rw [Bd.returns] at h; cases h)
      refine ⟨_, _, retN X7 hx (t := .boolean) Bd.returns (by simp) (hb hby at_96) hr, hrun, hended, _, _, rfl, ?_, ⟨_, rfl⟩, hW, hsame.mono (by decide) (by decide)⟩
      show Q_own_law0 Z p0 a_CRC32 w_CRC32 a_SHA1 a_CRC64NVME w_CRC64NVME a_CRC32C w_CRC32C a_MD5 a_SHA256 h0 n0 _ T7.heap _
      rw [e7]
      exact ⟨rfl, NA7, rfl⟩
    · skip
      refine Go.back (t' := (s₁.setTop (mkF m 35 #[.val (.int p0), .val (.int i0), .unset, .unset] []))) (fun u k => XS.icmpYes X0.here hx rfl (pc0 := 23) (pc' := 35) rfl (hb hby at_23) rfl (XT.ii_ne_t hc5) (by decide) (by decide) k) ?_
      refine Go.back (t' := (s₁.setTop (mkF m 36 #[.val (.int p0), .val (.int i0), .unset, .unset] [(.int i0)]))) (fun u k => XS.iloadN X0.here hx rfl (hb hby at_35) rfl k) ?_
      refine Go.back (t' := (s₁.setTop (mkF m 37 #[.val (.int p0), .val (.int i0), .unset, .unset] [(.int (2 : Int32)), (.int i0)]))) (fun u k => XT.iconstV X0.here hx rfl (2 : Int32) (hb hby at_36) (by decide) k) ?_
      by_cases hc9 : i0 = (2 : Int32)
      · skip
        refine Go.back (t' := (s₁.setTop (mkF m 40 #[.val (.int p0), .val (.int i0), .unset, .unset] []))) (fun u k => XS.icmpNo X0.here hx rfl (hb hby at_37) rfl (XT.ii_ne_f hc9) k) ?_
        obtain ⟨T10, X10, e10, st10⟩ := getS2 X0 hx hZ hown (host := "") (Or.inl (hw _ (List.mem_of_getElem? (i := 13) rfl))) Via.refl e0 (S_CRC64NVME.ext Old0.2) (g := (mkF m 40 #[.val (.int p0), .val (.int i0), .unset, .unset] [])) rfl (hb hby at_40)
        refine Go.back (t' := (T10.setTop (mkF m 43 #[.val (.int p0), .val (.int i0), .unset, .unset] [(.ref a_CRC64NVME)]))) st10 ?_
        refine Go.back (t' := (T10.setTop (mkF m 44 #[.val (.int p0), .val (.int i0), .val (.ref a_CRC64NVME), .unset] []))) (fun u k => XS.astoreN X10.here hx rfl (hb hby at_43) rfl rfl (l' := #[.val (.int p0), .val (.int i0), .val (.ref a_CRC64NVME), .unset]) rfl k) ?_
        refine Go.back (t' := (T10.setTop (mkF m 45 #[.val (.int p0), .val (.int i0), .val (.ref a_CRC64NVME), .unset] [(.int (1 : Int32))]))) (fun u k => XT.iconstV X10.here hx rfl (1 : Int32) (hb hby at_44) (by decide) k) ?_
        refine Go.back (t' := (T10.setTop (mkF m 46 #[.val (.int p0), .val (.int i0), .val (.ref a_CRC64NVME), .val (.int (1 : Int32))] []))) (fun u k => XS.istoreN X10.here hx rfl (hb hby at_45) rfl (l' := #[.val (.int p0), .val (.int i0), .val (.ref a_CRC64NVME), .val (.int (1 : Int32))]) rfl k) ?_
        refine Go.back (t' := (T10.setTop (mkF m 83 #[.val (.int p0), .val (.int i0), .val (.ref a_CRC64NVME), .val (.int (1 : Int32))] []))) (fun u k => XS.goto X10.here hx rfl (pc0 := 46) (pc' := 83) rfl (hb hby at_46) (by decide) (by decide) k) ?_
        refine Go.back (t' := (T10.setTop (mkF m 84 #[.val (.int p0), .val (.int i0), .val (.ref a_CRC64NVME), .val (.int (1 : Int32))] [(.ref a_CRC64NVME)]))) (fun u k => XS.aloadN X10.here hx rfl (hb hby at_83) rfl rfl k) ?_
        obtain ⟨cq12, kq12, qa12, qb12, qc12⟩ := isOf hZ e10 E_CRC64NVME
        obtain ⟨_, _, ⟨T11, L11, k11, n11⟩, -, X11, ⟨Lc11, hQ11, l11, y11, z11⟩, st11⟩ := X10.virtualBack hx (y := (⟨"com/example/countersign/countersign/checksum/ChecksumAlgorithm", "hasFullObjectForm", "()Z"⟩ : MethodName)) (z := (⟨"com/example/countersign/countersign/checksum/ChecksumAlgorithm", "hasFullObjectForm", "()Z"⟩ : MethodName)) hown (mvT hZ (hw _ (List.mem_of_getElem? (i := 4) rfl))) (mvT hZ (hw _ (List.mem_of_getElem? (i := 5) rfl))) (notFace_of_selects (args := #[]) (mvT hZ (hw _ (List.mem_of_getElem? (i := 7) rfl)))) (mvT hZ (hw _ (List.mem_of_getElem? (i := 7) rfl))) (mvT hZ (hw _ (List.mem_of_getElem? (i := 6) rfl))) (by decide) (backOf (W := 0) (own_full1 l Z a0 hw [] a_CRC64NVME w_CRC64NVME h0 n0 Z0 F_CRC64NVME) hZ (hw _ (List.mem_of_getElem? (i := 8) rfl)) (hw _ (List.mem_of_getElem? (i := 2) rfl)) (by decide) (by decide)) qa12 qc12 (g := (mkF m 84 #[.val (.int p0), .val (.int i0), .val (.ref a_CRC64NVME), .val (.int (1 : Int32))] [(.ref a_CRC64NVME)])) rfl (by rw [hml]; rfl) (Steps.refl _) (argsL := []) (rest := []) (lenOf own_pd0 rfl) rfl (by show 2 * 0 + _ ≤ _; exact Nat.le_of_eq rfl) (hb hby at_84) (fun _ _ => ⟨rfl, e10, (by decide : 0 + 0 ≤ _), (by decide : 0 + 0 ≤ _)⟩)
        dsimp only [Pt.U, Pt.locs, Pt.cells, Pt.slots] at X11 l11 y11 z11 st11 hQ11
        subst l11 y11 z11
        obtain ⟨rfl, N11, e11⟩ := hQ11
        have NA11 := Fr.app N0 N11
        refine Go.back (t' := (T11.setTop (mkF m 87 #[.val (.int p0), .val (.int i0), .val (.ref a_CRC64NVME), .val (.int (1 : Int32))] [(.int (1 : Int32))]))) (fun u k => st11.trans k) ?_
        refine Go.back (t' := (T11.setTop (mkF m 88 #[.val (.int p0), .val (.int i0), .val (.ref a_CRC64NVME), .val (.int (1 : Int32))] [(.int (1 : Int32)), (.int (1 : Int32))]))) (fun u k => XS.iloadN X11.here hx rfl (hb hby at_87) rfl k) ?_
        refine Go.back (t' := (T11.setTop (mkF m 91 #[.val (.int p0), .val (.int i0), .val (.ref a_CRC64NVME), .val (.int (1 : Int32))] []))) (fun u k => XS.icmpNo X11.here hx rfl (hb hby at_88) rfl (XT.ii_ne_f (by decide)) k) ?_
        refine Go.back (t' := (T11.setTop (mkF m 92 #[.val (.int p0), .val (.int i0), .val (.ref a_CRC64NVME), .val (.int (1 : Int32))] [(.int (1 : Int32))]))) (fun u k => XT.iconstV X11.here hx rfl (1 : Int32) (hb hby at_91) (by decide) k) ?_
        refine Go.back (t' := (T11.setTop (mkF m 96 #[.val (.int p0), .val (.int i0), .val (.ref a_CRC64NVME), .val (.int (1 : Int32))] [(.int (1 : Int32))]))) (fun u k => XS.goto X11.here hx rfl (pc0 := 92) (pc' := 96) rfl (hb hby at_92) (by decide) (by decide) k) ?_
        obtain ⟨fs, hr, hrun, hended, hW, hsame⟩ := X11.leave (v := some (.int (1 : Int32))) (fun h => by rw [Bd.returns] at h; cases h)
        refine ⟨_, _, retN X11 hx (t := .boolean) Bd.returns (by simp) (hb hby at_96) hr, hrun, hended, _, _, rfl, ?_, ⟨_, rfl⟩, hW, hsame.mono (by decide) (by decide)⟩
        show Q_own_law0 Z p0 a_CRC32 w_CRC32 a_SHA1 a_CRC64NVME w_CRC64NVME a_CRC32C w_CRC32C a_MD5 a_SHA256 h0 n0 _ T11.heap _
        rw [e11]
        exact ⟨rfl, NA11, rfl⟩
      · skip
        refine Go.back (t' := (s₁.setTop (mkF m 49 #[.val (.int p0), .val (.int i0), .unset, .unset] []))) (fun u k => XS.icmpYes X0.here hx rfl (pc0 := 37) (pc' := 49) rfl (hb hby at_37) rfl (XT.ii_ne_t hc9) (by decide) (by decide) k) ?_
        refine Go.back (t' := (s₁.setTop (mkF m 50 #[.val (.int p0), .val (.int i0), .unset, .unset] [(.int i0)]))) (fun u k => XS.iloadN X0.here hx rfl (hb hby at_49) rfl k) ?_
        refine Go.back (t' := (s₁.setTop (mkF m 51 #[.val (.int p0), .val (.int i0), .unset, .unset] [(.int (3 : Int32)), (.int i0)]))) (fun u k => XT.iconstV X0.here hx rfl (3 : Int32) (hb hby at_50) (by decide) k) ?_
        by_cases hc13 : i0 = (3 : Int32)
        · skip
          refine Go.back (t' := (s₁.setTop (mkF m 54 #[.val (.int p0), .val (.int i0), .unset, .unset] []))) (fun u k => XS.icmpNo X0.here hx rfl (hb hby at_51) rfl (XT.ii_ne_f hc13) k) ?_
          obtain ⟨T14, X14, e14, st14⟩ := getS2 X0 hx hZ hown (host := "") (Or.inl (hw _ (List.mem_of_getElem? (i := 11) rfl))) Via.refl e0 (S_SHA1.ext Old0.2) (g := (mkF m 54 #[.val (.int p0), .val (.int i0), .unset, .unset] [])) rfl (hb hby at_54)
          refine Go.back (t' := (T14.setTop (mkF m 57 #[.val (.int p0), .val (.int i0), .unset, .unset] [(.ref a_SHA1)]))) st14 ?_
          refine Go.back (t' := (T14.setTop (mkF m 58 #[.val (.int p0), .val (.int i0), .val (.ref a_SHA1), .unset] []))) (fun u k => XS.astoreN X14.here hx rfl (hb hby at_57) rfl rfl (l' := #[.val (.int p0), .val (.int i0), .val (.ref a_SHA1), .unset]) rfl k) ?_
          refine Go.back (t' := (T14.setTop (mkF m 59 #[.val (.int p0), .val (.int i0), .val (.ref a_SHA1), .unset] [(.int (0 : Int32))]))) (fun u k => XT.iconstV X14.here hx rfl (0 : Int32) (hb hby at_58) (by decide) k) ?_
          refine Go.back (t' := (T14.setTop (mkF m 60 #[.val (.int p0), .val (.int i0), .val (.ref a_SHA1), .val (.int (0 : Int32))] []))) (fun u k => XS.istoreN X14.here hx rfl (hb hby at_59) rfl (l' := #[.val (.int p0), .val (.int i0), .val (.ref a_SHA1), .val (.int (0 : Int32))]) rfl k) ?_
          refine Go.back (t' := (T14.setTop (mkF m 83 #[.val (.int p0), .val (.int i0), .val (.ref a_SHA1), .val (.int (0 : Int32))] []))) (fun u k => XS.goto X14.here hx rfl (pc0 := 60) (pc' := 83) rfl (hb hby at_60) (by decide) (by decide) k) ?_
          refine Go.back (t' := (T14.setTop (mkF m 84 #[.val (.int p0), .val (.int i0), .val (.ref a_SHA1), .val (.int (0 : Int32))] [(.ref a_SHA1)]))) (fun u k => XS.aloadN X14.here hx rfl (hb hby at_83) rfl rfl k) ?_
          obtain ⟨cq16, kq16, qa16, qb16, qc16⟩ := isOf hZ e14 E_SHA1
          obtain ⟨_, _, ⟨T15, L15, k15, n15⟩, -, X15, ⟨Lc15, hQ15, l15, y15, z15⟩, st15⟩ := X14.virtualBack hx (y := (⟨"com/example/countersign/countersign/checksum/ChecksumAlgorithm", "hasFullObjectForm", "()Z"⟩ : MethodName)) (z := (⟨"com/example/countersign/countersign/checksum/ChecksumAlgorithm", "hasFullObjectForm", "()Z"⟩ : MethodName)) hown (mvT hZ (hw _ (List.mem_of_getElem? (i := 4) rfl))) (mvT hZ (hw _ (List.mem_of_getElem? (i := 5) rfl))) (notFace_of_selects (args := #[]) (mvT hZ (hw _ (List.mem_of_getElem? (i := 7) rfl)))) (mvT hZ (hw _ (List.mem_of_getElem? (i := 7) rfl))) (mvT hZ (hw _ (List.mem_of_getElem? (i := 6) rfl))) (by decide) (backOf (W := 0) (own_full0 l Z a0 hw [] a_SHA1 h0 n0 Z0 F_SHA1) hZ (hw _ (List.mem_of_getElem? (i := 8) rfl)) (hw _ (List.mem_of_getElem? (i := 2) rfl)) (by decide) (by decide)) qa16 qc16 (g := (mkF m 84 #[.val (.int p0), .val (.int i0), .val (.ref a_SHA1), .val (.int (0 : Int32))] [(.ref a_SHA1)])) rfl (by rw [hml]; rfl) (Steps.refl _) (argsL := []) (rest := []) (lenOf own_pd0 rfl) rfl (by show 2 * 0 + _ ≤ _; exact Nat.le_of_eq rfl) (hb hby at_84) (fun _ _ => ⟨rfl, e14, (by decide : 0 + 0 ≤ _), (by decide : 0 + 0 ≤ _)⟩)
          dsimp only [Pt.U, Pt.locs, Pt.cells, Pt.slots] at X15 l15 y15 z15 st15 hQ15
          subst l15 y15 z15
          obtain ⟨rfl, N15, e15⟩ := hQ15
          have NA15 := Fr.app N0 N15
          refine Go.back (t' := (T15.setTop (mkF m 87 #[.val (.int p0), .val (.int i0), .val (.ref a_SHA1), .val (.int (0 : Int32))] [(.int (0 : Int32))]))) (fun u k => st15.trans k) ?_
          refine Go.back (t' := (T15.setTop (mkF m 88 #[.val (.int p0), .val (.int i0), .val (.ref a_SHA1), .val (.int (0 : Int32))] [(.int (0 : Int32)), (.int (0 : Int32))]))) (fun u k => XS.iloadN X15.here hx rfl (hb hby at_87) rfl k) ?_
          refine Go.back (t' := (T15.setTop (mkF m 91 #[.val (.int p0), .val (.int i0), .val (.ref a_SHA1), .val (.int (0 : Int32))] []))) (fun u k => XS.icmpNo X15.here hx rfl (hb hby at_88) rfl (XT.ii_ne_f (by decide)) k) ?_
          refine Go.back (t' := (T15.setTop (mkF m 92 #[.val (.int p0), .val (.int i0), .val (.ref a_SHA1), .val (.int (0 : Int32))] [(.int (1 : Int32))]))) (fun u k => XT.iconstV X15.here hx rfl (1 : Int32) (hb hby at_91) (by decide) k) ?_
          refine Go.back (t' := (T15.setTop (mkF m 96 #[.val (.int p0), .val (.int i0), .val (.ref a_SHA1), .val (.int (0 : Int32))] [(.int (1 : Int32))]))) (fun u k => XS.goto X15.here hx rfl (pc0 := 92) (pc' := 96) rfl (hb hby at_92) (by decide) (by decide) k) ?_
          obtain ⟨fs, hr, hrun, hended, hW, hsame⟩ := X15.leave (v := some (.int (1 : Int32))) (fun h => by rw [Bd.returns] at h; cases h)
          refine ⟨_, _, retN X15 hx (t := .boolean) Bd.returns (by simp) (hb hby at_96) hr, hrun, hended, _, _, rfl, ?_, ⟨_, rfl⟩, hW, hsame.mono (by decide) (by decide)⟩
          show Q_own_law0 Z p0 a_CRC32 w_CRC32 a_SHA1 a_CRC64NVME w_CRC64NVME a_CRC32C w_CRC32C a_MD5 a_SHA256 h0 n0 _ T15.heap _
          rw [e15]
          exact ⟨rfl, NA15, rfl⟩
        · skip
          refine Go.back (t' := (s₁.setTop (mkF m 63 #[.val (.int p0), .val (.int i0), .unset, .unset] []))) (fun u k => XS.icmpYes X0.here hx rfl (pc0 := 51) (pc' := 63) rfl (hb hby at_51) rfl (XT.ii_ne_t hc13) (by decide) (by decide) k) ?_
          refine Go.back (t' := (s₁.setTop (mkF m 64 #[.val (.int p0), .val (.int i0), .unset, .unset] [(.int i0)]))) (fun u k => XS.iloadN X0.here hx rfl (hb hby at_63) rfl k) ?_
          refine Go.back (t' := (s₁.setTop (mkF m 65 #[.val (.int p0), .val (.int i0), .unset, .unset] [(.int (4 : Int32)), (.int i0)]))) (fun u k => XT.iconstV X0.here hx rfl (4 : Int32) (hb hby at_64) (by decide) k) ?_
          by_cases hc17 : i0 = (4 : Int32)
          · skip
            refine Go.back (t' := (s₁.setTop (mkF m 68 #[.val (.int p0), .val (.int i0), .unset, .unset] []))) (fun u k => XS.icmpNo X0.here hx rfl (hb hby at_65) rfl (XT.ii_ne_f hc17) k) ?_
            obtain ⟨T18, X18, e18, st18⟩ := getS2 X0 hx hZ hown (host := "") (Or.inl (hw _ (List.mem_of_getElem? (i := 19) rfl))) Via.refl e0 (S_SHA256.ext Old0.2) (g := (mkF m 68 #[.val (.int p0), .val (.int i0), .unset, .unset] [])) rfl (hb hby at_68)
            refine Go.back (t' := (T18.setTop (mkF m 71 #[.val (.int p0), .val (.int i0), .unset, .unset] [(.ref a_SHA256)]))) st18 ?_
            refine Go.back (t' := (T18.setTop (mkF m 72 #[.val (.int p0), .val (.int i0), .val (.ref a_SHA256), .unset] []))) (fun u k => XS.astoreN X18.here hx rfl (hb hby at_71) rfl rfl (l' := #[.val (.int p0), .val (.int i0), .val (.ref a_SHA256), .unset]) rfl k) ?_
            refine Go.back (t' := (T18.setTop (mkF m 73 #[.val (.int p0), .val (.int i0), .val (.ref a_SHA256), .unset] [(.int (0 : Int32))]))) (fun u k => XT.iconstV X18.here hx rfl (0 : Int32) (hb hby at_72) (by decide) k) ?_
            refine Go.back (t' := (T18.setTop (mkF m 74 #[.val (.int p0), .val (.int i0), .val (.ref a_SHA256), .val (.int (0 : Int32))] []))) (fun u k => XS.istoreN X18.here hx rfl (hb hby at_73) rfl (l' := #[.val (.int p0), .val (.int i0), .val (.ref a_SHA256), .val (.int (0 : Int32))]) rfl k) ?_
            refine Go.back (t' := (T18.setTop (mkF m 83 #[.val (.int p0), .val (.int i0), .val (.ref a_SHA256), .val (.int (0 : Int32))] []))) (fun u k => XS.goto X18.here hx rfl (pc0 := 74) (pc' := 83) rfl (hb hby at_74) (by decide) (by decide) k) ?_
            refine Go.back (t' := (T18.setTop (mkF m 84 #[.val (.int p0), .val (.int i0), .val (.ref a_SHA256), .val (.int (0 : Int32))] [(.ref a_SHA256)]))) (fun u k => XS.aloadN X18.here hx rfl (hb hby at_83) rfl rfl k) ?_
            obtain ⟨cq20, kq20, qa20, qb20, qc20⟩ := isOf hZ e18 E_SHA256
            obtain ⟨_, _, ⟨T19, L19, k19, n19⟩, -, X19, ⟨Lc19, hQ19, l19, y19, z19⟩, st19⟩ := X18.virtualBack hx (y := (⟨"com/example/countersign/countersign/checksum/ChecksumAlgorithm", "hasFullObjectForm", "()Z"⟩ : MethodName)) (z := (⟨"com/example/countersign/countersign/checksum/ChecksumAlgorithm", "hasFullObjectForm", "()Z"⟩ : MethodName)) hown (mvT hZ (hw _ (List.mem_of_getElem? (i := 4) rfl))) (mvT hZ (hw _ (List.mem_of_getElem? (i := 5) rfl))) (notFace_of_selects (args := #[]) (mvT hZ (hw _ (List.mem_of_getElem? (i := 7) rfl)))) (mvT hZ (hw _ (List.mem_of_getElem? (i := 7) rfl))) (mvT hZ (hw _ (List.mem_of_getElem? (i := 6) rfl))) (by decide) (backOf (W := 0) (own_full0 l Z a0 hw [] a_SHA256 h0 n0 Z0 F_SHA256) hZ (hw _ (List.mem_of_getElem? (i := 8) rfl)) (hw _ (List.mem_of_getElem? (i := 2) rfl)) (by decide) (by decide)) qa20 qc20 (g := (mkF m 84 #[.val (.int p0), .val (.int i0), .val (.ref a_SHA256), .val (.int (0 : Int32))] [(.ref a_SHA256)])) rfl (by rw [hml]; rfl) (Steps.refl _) (argsL := []) (rest := []) (lenOf own_pd0 rfl) rfl (by show 2 * 0 + _ ≤ _; exact Nat.le_of_eq rfl) (hb hby at_84) (fun _ _ => ⟨rfl, e18, (by decide : 0 + 0 ≤ _), (by decide : 0 + 0 ≤ _)⟩)
            dsimp only [Pt.U, Pt.locs, Pt.cells, Pt.slots] at X19 l19 y19 z19 st19 hQ19
            subst l19 y19 z19
            obtain ⟨rfl, N19, e19⟩ := hQ19
            have NA19 := Fr.app N0 N19
            refine Go.back (t' := (T19.setTop (mkF m 87 #[.val (.int p0), .val (.int i0), .val (.ref a_SHA256), .val (.int (0 : Int32))] [(.int (0 : Int32))]))) (fun u k => st19.trans k) ?_
            refine Go.back (t' := (T19.setTop (mkF m 88 #[.val (.int p0), .val (.int i0), .val (.ref a_SHA256), .val (.int (0 : Int32))] [(.int (0 : Int32)), (.int (0 : Int32))]))) (fun u k => XS.iloadN X19.here hx rfl (hb hby at_87) rfl k) ?_
            refine Go.back (t' := (T19.setTop (mkF m 91 #[.val (.int p0), .val (.int i0), .val (.ref a_SHA256), .val (.int (0 : Int32))] []))) (fun u k => XS.icmpNo X19.here hx rfl (hb hby at_88) rfl (XT.ii_ne_f (by decide)) k) ?_
            refine Go.back (t' := (T19.setTop (mkF m 92 #[.val (.int p0), .val (.int i0), .val (.ref a_SHA256), .val (.int (0 : Int32))] [(.int (1 : Int32))]))) (fun u k => XT.iconstV X19.here hx rfl (1 : Int32) (hb hby at_91) (by decide) k) ?_
            refine Go.back (t' := (T19.setTop (mkF m 96 #[.val (.int p0), .val (.int i0), .val (.ref a_SHA256), .val (.int (0 : Int32))] [(.int (1 : Int32))]))) (fun u k => XS.goto X19.here hx rfl (pc0 := 92) (pc' := 96) rfl (hb hby at_92) (by decide) (by decide) k) ?_
            obtain ⟨fs, hr, hrun, hended, hW, hsame⟩ := X19.leave (v := some (.int (1 : Int32))) (fun h => by rw [Bd.returns] at h; cases h)
            refine ⟨_, _, retN X19 hx (t := .boolean) Bd.returns (by simp) (hb hby at_96) hr, hrun, hended, _, _, rfl, ?_, ⟨_, rfl⟩, hW, hsame.mono (by decide) (by decide)⟩
            show Q_own_law0 Z p0 a_CRC32 w_CRC32 a_SHA1 a_CRC64NVME w_CRC64NVME a_CRC32C w_CRC32C a_MD5 a_SHA256 h0 n0 _ T19.heap _
            rw [e19]
            exact ⟨rfl, NA19, rfl⟩
          · skip
            refine Go.back (t' := (s₁.setTop (mkF m 77 #[.val (.int p0), .val (.int i0), .unset, .unset] []))) (fun u k => XS.icmpYes X0.here hx rfl (pc0 := 65) (pc' := 77) rfl (hb hby at_65) rfl (XT.ii_ne_t hc17) (by decide) (by decide) k) ?_
            obtain ⟨T21, X21, e21, st21⟩ := getS2 X0 hx hZ hown (host := "") (Or.inl (hw _ (List.mem_of_getElem? (i := 17) rfl))) Via.refl e0 (S_MD5.ext Old0.2) (g := (mkF m 77 #[.val (.int p0), .val (.int i0), .unset, .unset] [])) rfl (hb hby at_77)
            refine Go.back (t' := (T21.setTop (mkF m 80 #[.val (.int p0), .val (.int i0), .unset, .unset] [(.ref a_MD5)]))) st21 ?_
            refine Go.back (t' := (T21.setTop (mkF m 81 #[.val (.int p0), .val (.int i0), .val (.ref a_MD5), .unset] []))) (fun u k => XS.astoreN X21.here hx rfl (hb hby at_80) rfl rfl (l' := #[.val (.int p0), .val (.int i0), .val (.ref a_MD5), .unset]) rfl k) ?_
            refine Go.back (t' := (T21.setTop (mkF m 82 #[.val (.int p0), .val (.int i0), .val (.ref a_MD5), .unset] [(.int (0 : Int32))]))) (fun u k => XT.iconstV X21.here hx rfl (0 : Int32) (hb hby at_81) (by decide) k) ?_
            refine Go.back (t' := (T21.setTop (mkF m 83 #[.val (.int p0), .val (.int i0), .val (.ref a_MD5), .val (.int (0 : Int32))] []))) (fun u k => XS.istoreN X21.here hx rfl (hb hby at_82) rfl (l' := #[.val (.int p0), .val (.int i0), .val (.ref a_MD5), .val (.int (0 : Int32))]) rfl k) ?_
            refine Go.back (t' := (T21.setTop (mkF m 84 #[.val (.int p0), .val (.int i0), .val (.ref a_MD5), .val (.int (0 : Int32))] [(.ref a_MD5)]))) (fun u k => XS.aloadN X21.here hx rfl (hb hby at_83) rfl rfl k) ?_
            obtain ⟨cq23, kq23, qa23, qb23, qc23⟩ := isOf hZ e21 E_MD5
            obtain ⟨_, _, ⟨T22, L22, k22, n22⟩, -, X22, ⟨Lc22, hQ22, l22, y22, z22⟩, st22⟩ := X21.virtualBack hx (y := (⟨"com/example/countersign/countersign/checksum/ChecksumAlgorithm", "hasFullObjectForm", "()Z"⟩ : MethodName)) (z := (⟨"com/example/countersign/countersign/checksum/ChecksumAlgorithm", "hasFullObjectForm", "()Z"⟩ : MethodName)) hown (mvT hZ (hw _ (List.mem_of_getElem? (i := 4) rfl))) (mvT hZ (hw _ (List.mem_of_getElem? (i := 5) rfl))) (notFace_of_selects (args := #[]) (mvT hZ (hw _ (List.mem_of_getElem? (i := 7) rfl)))) (mvT hZ (hw _ (List.mem_of_getElem? (i := 7) rfl))) (mvT hZ (hw _ (List.mem_of_getElem? (i := 6) rfl))) (by decide) (backOf (W := 0) (own_full0 l Z a0 hw [] a_MD5 h0 n0 Z0 F_MD5) hZ (hw _ (List.mem_of_getElem? (i := 8) rfl)) (hw _ (List.mem_of_getElem? (i := 2) rfl)) (by decide) (by decide)) qa23 qc23 (g := (mkF m 84 #[.val (.int p0), .val (.int i0), .val (.ref a_MD5), .val (.int (0 : Int32))] [(.ref a_MD5)])) rfl (by rw [hml]; rfl) (Steps.refl _) (argsL := []) (rest := []) (lenOf own_pd0 rfl) rfl (by show 2 * 0 + _ ≤ _; exact Nat.le_of_eq rfl) (hb hby at_84) (fun _ _ => ⟨rfl, e21, (by decide : 0 + 0 ≤ _), (by decide : 0 + 0 ≤ _)⟩)
            dsimp only [Pt.U, Pt.locs, Pt.cells, Pt.slots] at X22 l22 y22 z22 st22 hQ22
            subst l22 y22 z22
            obtain ⟨rfl, N22, e22⟩ := hQ22
            have NA22 := Fr.app N0 N22
            refine Go.back (t' := (T22.setTop (mkF m 87 #[.val (.int p0), .val (.int i0), .val (.ref a_MD5), .val (.int (0 : Int32))] [(.int (0 : Int32))]))) (fun u k => st22.trans k) ?_
            refine Go.back (t' := (T22.setTop (mkF m 88 #[.val (.int p0), .val (.int i0), .val (.ref a_MD5), .val (.int (0 : Int32))] [(.int (0 : Int32)), (.int (0 : Int32))]))) (fun u k => XS.iloadN X22.here hx rfl (hb hby at_87) rfl k) ?_
            refine Go.back (t' := (T22.setTop (mkF m 91 #[.val (.int p0), .val (.int i0), .val (.ref a_MD5), .val (.int (0 : Int32))] []))) (fun u k => XS.icmpNo X22.here hx rfl (hb hby at_88) rfl (XT.ii_ne_f (by decide)) k) ?_
            refine Go.back (t' := (T22.setTop (mkF m 92 #[.val (.int p0), .val (.int i0), .val (.ref a_MD5), .val (.int (0 : Int32))] [(.int (1 : Int32))]))) (fun u k => XT.iconstV X22.here hx rfl (1 : Int32) (hb hby at_91) (by decide) k) ?_
            refine Go.back (t' := (T22.setTop (mkF m 96 #[.val (.int p0), .val (.int i0), .val (.ref a_MD5), .val (.int (0 : Int32))] [(.int (1 : Int32))]))) (fun u k => XS.goto X22.here hx rfl (pc0 := 92) (pc' := 96) rfl (hb hby at_92) (by decide) (by decide) k) ?_
            obtain ⟨fs, hr, hrun, hended, hW, hsame⟩ := X22.leave (v := some (.int (1 : Int32))) (fun h => by rw [Bd.returns] at h; cases h)
            refine ⟨_, _, retN X22 hx (t := .boolean) Bd.returns (by simp) (hb hby at_96) hr, hrun, hended, _, _, rfl, ?_, ⟨_, rfl⟩, hW, hsame.mono (by decide) (by decide)⟩
            show Q_own_law0 Z p0 a_CRC32 w_CRC32 a_SHA1 a_CRC64NVME w_CRC64NVME a_CRC32C w_CRC32C a_MD5 a_SHA256 h0 n0 _ T22.heap _
            rw [e22]
            exact ⟨rfl, NA22, rfl⟩
set_option maxRecDepth 65536 in
set_option maxHeartbeats 40000000 in
theorem own_comes {Post : Tables → Env → Array Value → State → Outcome → State → Prop} (hpost : ∀ tb e args s v u, (limb_1_1.after args s (.returned v) u = true ∧ limb_1_2.after args s (.returned v) u = true ∧ True) → FrameEnd s (.returned v) u (Jvm.fieldLocs frame_1_writes args s ++ Jvm.arrayLocs frame_1_arrays args s ++ Jvm.staticLocs frame_1_statics s) 0 0 → Post tb e args s (.returned v) u) :
    ArmFor flags0 classFile x code maxLocals ret World_1 tables_1 room_1 Calls_1 rest_1 Pre_1 Post := by
  intro l hfl _ _ p e ha hc hk s m args below hf hA hF happ hP
  obtain ⟨hcalls, hrest, hpre⟩ := hP
  obtain ⟨-, -, -, hnamed, -, -, -, hat⟩ := (Spec.applies_iff hf).mp happ
  obtain ⟨hg, hn⟩ := and_e (Cond.before_iff.mp (show (Jvm.Cond.and given_1 narrow_1).before args s = true from hpre))
  obtain ⟨hg1, hg2⟩ := and_e hg
  obtain ⟨w0, rfl⟩ : ∃ w0 : Value, args = #[w0] := by
    have hs : args.size = 1 := by simpa [Cond.value, given_1] using hg1
    obtain ⟨L⟩ := args
    match L, hs with
    | [w0], _ => exact ⟨w0, rfl⟩
  have hw := fun d (hd : d ∈ tables_1) => atoms_spec (ws := Jvm.Cond.code x code maxLocals ret :: tables_1) hat d (List.mem_cons_of_mem _ hd)
  have hfit : Fit s := fun {y c} hc i hi => by
    obtain ⟨ha, rfl⟩ := Array.getElem?_eq_some_iff.mp hc
    have q := List.all_eq_true.mp ((Array.all_eq_true_iff_forall_mem.mp hF) _ (Array.getElem_mem ha)) i (List.mem_range.mpr hi)
    simpa [Array.getElem?_eq_getElem hi] using q
  obtain ⟨i0, ei0⟩ := is_v hg2
  obtain rfl : w0 = (.int i0) := Option.some.inj ei0
  obtain ⟨hA0, hn0⟩ := and_e hn
  obtain ⟨hB0, hm0⟩ := and_e hn0
  obtain ⟨x0, ex0⟩ := exa_v hA0
  have XE0 := Exa.start ex0 hA0
  have XS0 := Sta.start ex0 (Or.inr ⟨(hw _ (List.mem_of_getElem? (i := 2) rfl)), (hw _ (List.mem_of_getElem? (i := 3) rfl))⟩)
  obtain ⟨y0, ey0⟩ := exa_v hB0
  have XF0 : Fld s s.heap x0 "com/example/countersign/countersign/checksum/ChecksumAlgorithm" "combination" "Lcom/example/countersign/countersign/checksum/CrcCombination;" (.ref y0) := Fld.start (own_field ex0 ey0)
  obtain ⟨hA1, hn1⟩ := and_e hm0
  obtain ⟨hB1, hm1⟩ := and_e hn1
  obtain ⟨x1, ex1⟩ := exa_v hA1
  have XE1 := Exa.start ex1 hA1
  have XS1 := Sta.start ex1 (Or.inr ⟨(hw _ (List.mem_of_getElem? (i := 2) rfl)), (hw _ (List.mem_of_getElem? (i := 12) rfl))⟩)
  have ey1 := null_v hB1
  have XF1 : Fld s s.heap x1 "com/example/countersign/countersign/checksum/ChecksumAlgorithm" "combination" "Lcom/example/countersign/countersign/checksum/CrcCombination;" .null := Fld.start (own_field ex1 ey1)
  obtain ⟨hA2, hn2⟩ := and_e hm1
  obtain ⟨hB2, hm2⟩ := and_e hn2
  obtain ⟨x2, ex2⟩ := exa_v hA2
  have XE2 := Exa.start ex2 hA2
  have XS2 := Sta.start ex2 (Or.inr ⟨(hw _ (List.mem_of_getElem? (i := 2) rfl)), (hw _ (List.mem_of_getElem? (i := 14) rfl))⟩)
  obtain ⟨y2, ey2⟩ := exa_v hB2
  have XF2 : Fld s s.heap x2 "com/example/countersign/countersign/checksum/ChecksumAlgorithm" "combination" "Lcom/example/countersign/countersign/checksum/CrcCombination;" (.ref y2) := Fld.start (own_field ex2 ey2)
  obtain ⟨hA3, hn3⟩ := and_e hm2
  obtain ⟨hB3, hm3⟩ := and_e hn3
  obtain ⟨x3, ex3⟩ := exa_v hA3
  have XE3 := Exa.start ex3 hA3
  have XS3 := Sta.start ex3 (Or.inr ⟨(hw _ (List.mem_of_getElem? (i := 2) rfl)), (hw _ (List.mem_of_getElem? (i := 16) rfl))⟩)
  obtain ⟨y3, ey3⟩ := exa_v hB3
  have XF3 : Fld s s.heap x3 "com/example/countersign/countersign/checksum/ChecksumAlgorithm" "combination" "Lcom/example/countersign/countersign/checksum/CrcCombination;" (.ref y3) := Fld.start (own_field ex3 ey3)
  obtain ⟨hA4, hn4⟩ := and_e hm3
  obtain ⟨hB4, hm4⟩ := and_e hn4
  obtain ⟨x4, ex4⟩ := exa_v hA4
  have XE4 := Exa.start ex4 hA4
  have XS4 := Sta.start ex4 (Or.inr ⟨(hw _ (List.mem_of_getElem? (i := 2) rfl)), (hw _ (List.mem_of_getElem? (i := 18) rfl))⟩)
  have ey4 := null_v hB4
  have XF4 : Fld s s.heap x4 "com/example/countersign/countersign/checksum/ChecksumAlgorithm" "combination" "Lcom/example/countersign/countersign/checksum/CrcCombination;" .null := Fld.start (own_field ex4 ey4)
  obtain ⟨hA5, hn5⟩ := and_e hm4
  have hB5 := hn5
  obtain ⟨x5, ex5⟩ := exa_v hA5
  have XE5 := Exa.start ex5 hA5
  have XS5 := Sta.start ex5 (Or.inr ⟨(hw _ (List.mem_of_getElem? (i := 2) rfl)), (hw _ (List.mem_of_getElem? (i := 20) rfl))⟩)
  have ey5 := null_v hB5
  have XF5 : Fld s s.heap x5 "com/example/countersign/countersign/checksum/ChecksumAlgorithm" "combination" "Lcom/example/countersign/countersign/checksum/CrcCombination;" .null := Fld.start (own_field ex5 ey5)
  obtain ⟨n, o, h1, h2, h3, _, L, rfl, ⟨rfl, N, -⟩, hq⟩ := own_law0 l s _ hw tables_1 i0 x0 y0 x1 x2 y2 x3 y3 x4 x5 s.heap s.heap.size (Nat.le_refl _) (Old.start s) XS0 XE0 XF0 XS1 XE1 XF1 XS2 XE2 XF2 XS3 XE3 XF3 XS4 XE4 XF4 XS5 XE5 XF5 p e ha hc hk s m _ below hf ((Spec.applies_iff_loose hf).mp happ).1 ⟨rfl, State.Warmed39.refl s, rfl⟩ trivial
  refine ⟨n, _, h1, h2, h3, hpost _ _ _ _ _ _ ⟨Cond.after_iff.mpr rfl, Cond.after_iff.mpr (eq_i res_at (Term.int_eval (1)) rfl), trivial⟩ ⟨hq.1, hq.2.1, (hq.2.2.sift fun y hy => Or.inr (N y hy)).mono (by decide) (by decide)⟩⟩
theorem main_1_1 : Claimed_1_1 := own_comes fun _ _ _ _ _ _ h hF => ⟨h.1, hF⟩
theorem main_1_2 : Claimed_1_2 := own_comes fun _ _ _ _ _ _ h hF => ⟨h.2.1, hF⟩
end Jvm.Pilot.@@N@@
namespace Jvm.Pilot.@@N@@
open Jvm Jvm.ClassFile Sem Op Lib Jvm.Free Jvm.Stand Jvm.Pilot.@@N@@.Jvm.D
/-! MADE BY PROGRAM (witnessworld.py) out of the Statement's table words and the real class files: 13 classes; the members and pool entries that the words name. The judged class is class 1, her method 1. -/
namespace start1
open Jvm.ClassFile
def u (s : String) : CpInfo := .utf8 (stringToUtf16 s)
/-- a pool by its gaps: so many unusable entries, then the entry; so many at the end -/
def gap : Nat → List CpInfo → List CpInfo
  | 0, r => r
  | n + 1, r => .unusable :: gap n r
def poolList (es : List (Nat × CpInfo)) (last : Nat) : List CpInfo := es.foldr (fun e r => gap e.1 (e.2 :: r)) (gap last [])
def pool (es : List (Nat × CpInfo)) (last : Nat) : Array CpInfo := ⟨poolList es last⟩
def fileOf (pool : Array CpInfo) (this : Nat) (attrs : Array Attribute := #[]) (ms : Array MethodInfo := #[]) (fl : Nat := 33) (sup : Nat := 0) (ifs : Array Nat := #[]) (fds : Array FieldInfo := #[]) : ClassFile where
  minorVersion := 0
  majorVersion := 65
  constantPool := pool
  accessFlags := fl
  thisClass := this
  superClass := sup
  interfaces := ifs
  fields := fds
  methods := ms
  attributes := attrs
def plain (name : String) (sup : Option ClassId) : Class where
  name := name
  kind := .ordinary
  loader := none
  accessFlags := 33
  super := sup
  interfaces := #[]
  cf := none
  fields := #[]
  methods := #[]
  instanceTypes := #[]
  staticTypes := #[]
  resolved := #[]
  callSites := []
  init := .initialized
  statics := none
  mirror := none

def pool0 : Array CpInfo := pool [(5, u "<init>"), (0, u "()V"), (1, .class_ 10), (1, u "java/lang/Object")] 113

def k0m0 : Method := { name := "<init>", desc := "()V", sig := { parameters := [], returnType := none }, accessFlags := 1, code := none }
/-- java/lang/Object -/
def k0 : Class := { plain "java/lang/Object" none with
  accessFlags := 33
  interfaces := #[]
  cf := some (fileOf pool0 8 #[] #[{ accessFlags := 1, nameIndex := 5, descriptorIndex := 6, attributes := #[] }] 33 0 #[] #[])
  fields := #[]
  methods := #[k0m0]
  instanceTypes := #[]
  staticTypes := #[]
  resolved := Array.replicate 124 none
  statics := none }

def pool1 : Array CpInfo := pool [(2, .class_ 4), (1, u "java/lang/Object"), (0, u "<init>"), (0, u "()V"), (0, .integer 2147483647), (0, .fieldref 9 10), (0, .class_ 11), (0, .nameAndType 12 13), (0, u "com/example/countersign/countersign/checksum/ChecksumAlgorithm"), (0, u "CRC32"), (0, u "Lcom/example/countersign/countersign/checksum/ChecksumAlgorithm;"), (0, .fieldref 9 15), (0, .nameAndType 16 13), (0, u "CRC32C"), (0, .fieldref 9 18), (0, .nameAndType 19 13), (0, u "CRC64NVME"), (0, .fieldref 9 21), (0, .nameAndType 22 13), (0, u "SHA1"), (0, .fieldref 9 24), (0, .nameAndType 25 13), (0, u "SHA256"), (0, .fieldref 9 27), (0, .nameAndType 28 13), (0, u "MD5"), (0, .methodref 9 30), (0, .nameAndType 31 32), (0, u "hasFullObjectForm"), (0, u "()Z"), (0, .class_ 34), (0, u "com/example/countersign/countersign/checksum/ChecksumAlgorithmHasFullObjectFormPinLaw"), (2, u "law"), (0, u "(I)Z")] 3

def k1m0 : Method := { name := "<init>", desc := "()V", sig := { parameters := [], returnType := none }, accessFlags := 1, code := none }
def k1c1 : Code := { maxStack := 2, maxLocals := 4, code := code, exceptionTable := #[], attributes := #[] }
def k1m1 : Method := { name := "law", desc := "(I)Z", sig := { parameters := [.int], returnType := some .boolean }, accessFlags := 9, code := some k1c1 }
/-- com/example/countersign/countersign/checksum/ChecksumAlgorithmHasFullObjectFormPinLaw -/
def k1 : Class := { plain "com/example/countersign/countersign/checksum/ChecksumAlgorithmHasFullObjectFormPinLaw" (some 0) with
  accessFlags := 49
  interfaces := #[]
  cf := some (fileOf pool1 33 #[] #[{ accessFlags := 1, nameIndex := 5, descriptorIndex := 6, attributes := #[] }, { accessFlags := 9, nameIndex := 37, descriptorIndex := 38, attributes := #[] }] 49 2 #[] #[])
  fields := #[]
  methods := #[k1m0, k1m1]
  instanceTypes := #[]
  staticTypes := #[]
  resolved := Array.replicate 42 none
  statics := none }

def pool2 : Array CpInfo := pool [(1, .class_ 2), (0, u "java/lang/constant/Constable"), (0, .class_ 4), (0, u "java/lang/Object")] 6

/-- java/lang/constant/Constable -/
def k2 : Class := { plain "java/lang/constant/Constable" (some 0) with
  accessFlags := 1537
  interfaces := #[]
  cf := some (fileOf pool2 1 #[] #[] 1537 3 #[] #[])
  fields := #[]
  methods := #[]
  instanceTypes := #[]
  staticTypes := #[]
  resolved := Array.replicate 11 none
  statics := none }

def pool3 : Array CpInfo := pool [(1, .class_ 2), (0, u "java/lang/Comparable"), (0, .class_ 4), (0, u "java/lang/Object")] 7

/-- java/lang/Comparable -/
def k3 : Class := { plain "java/lang/Comparable" (some 0) with
  accessFlags := 1537
  interfaces := #[]
  cf := some (fileOf pool3 1 #[] #[] 1537 3 #[] #[])
  fields := #[]
  methods := #[]
  instanceTypes := #[]
  staticTypes := #[]
  resolved := Array.replicate 12 none
  statics := none }

def pool4 : Array CpInfo := pool [(1, .class_ 2), (0, u "java/io/Serializable"), (0, .class_ 4), (0, u "java/lang/Object")] 2

/-- java/io/Serializable -/
def k4 : Class := { plain "java/io/Serializable" (some 0) with
  accessFlags := 1537
  interfaces := #[]
  cf := some (fileOf pool4 1 #[] #[] 1537 3 #[] #[])
  fields := #[]
  methods := #[]
  instanceTypes := #[]
  staticTypes := #[]
  resolved := Array.replicate 7 none
  statics := none }

def pool5 : Array CpInfo := pool [(2, .class_ 4), (1, u "java/lang/Enum"), (0, u "name"), (0, u "Ljava/lang/String;"), (2, u "ordinal"), (0, u "I"), (1, .class_ 14), (1, u "java/lang/Object"), (4, u "hash"), (86, .class_ 108), (1, u "java/lang/Enum$EnumDesc"), (2, .class_ 112), (0, u "java/lang/constant/Constable"), (0, .class_ 114), (0, u "java/lang/Comparable"), (0, .class_ 116), (0, u "java/io/Serializable")] 87

/-- java/lang/Enum -/
def k5 : Class := { plain "java/lang/Enum" (some 0) with
  accessFlags := 1057
  interfaces := #[2, 3, 4]
  cf := some (fileOf pool5 2 #[.nestMembers #[106]] #[] 1057 12 #[111, 113, 115] #[{ accessFlags := 18, nameIndex := 5, descriptorIndex := 6, attributes := #[] }, { accessFlags := 18, nameIndex := 9, descriptorIndex := 10, attributes := #[] }, { accessFlags := 2, nameIndex := 19, descriptorIndex := 10, attributes := #[] }])
  fields := #[{ name := "name", type := (.object "java/lang/String"), accessFlags := 18, slot := 0, constantValue := 0 }, { name := "ordinal", type := .int, accessFlags := 18, slot := 1, constantValue := 0 }, { name := "hash", type := .int, accessFlags := 2, slot := 2, constantValue := 0 }]
  methods := #[]
  instanceTypes := #[(.object "java/lang/String"), .int, .int]
  staticTypes := #[]
  resolved := Array.replicate 204 none
  statics := none }

def pool6 : Array CpInfo := pool [(1, .class_ 2), (0, u "com/example/countersign/countersign/checksum/ChecksumAlgorithm"), (2, u "CRC32"), (0, u "Lcom/example/countersign/countersign/checksum/ChecksumAlgorithm;"), (2, u "CRC32C"), (2, u "CRC64NVME"), (2, u "SHA1"), (2, u "SHA256"), (2, u "MD5"), (2, u "$VALUES"), (0, u "[Lcom/example/countersign/countersign/checksum/ChecksumAlgorithm;"), (6, .class_ 34), (1, u "java/lang/Enum"), (8, u "id"), (0, u "Ljava/lang/String;"), (2, u "length"), (0, u "I"), (2, u "factory"), (0, u "Ljava/util/function/Supplier;"), (2, u "composite"), (0, u "Z"), (0, .fieldref 1 58), (0, .nameAndType 59 60), (0, u "combination"), (0, u "Lcom/example/countersign/countersign/checksum/CrcCombination;"), (187, u "BUFFER_SIZE"), (13, u "()Z"), (0, u "hasFullObjectForm")] 64

def k6c0 : Code := { maxStack := 1, maxLocals := 1, code := prog_34_method_8_code, exceptionTable := #[], attributes := #[] }
def k6m0 : Method := { name := "hasFullObjectForm", desc := "()Z", sig := { parameters := [], returnType := some .boolean }, accessFlags := 1, code := some k6c0 }
/-- com/example/countersign/countersign/checksum/ChecksumAlgorithm -/
def k6 : Class := { plain "com/example/countersign/countersign/checksum/ChecksumAlgorithm" (some 5) with
  accessFlags := 16433
  interfaces := #[]
  cf := some (fileOf pool6 1 #[] #[{ accessFlags := 1, nameIndex := 263, descriptorIndex := 262, attributes := #[] }] 16433 32 #[] #[{ accessFlags := 16409, nameIndex := 5, descriptorIndex := 6, attributes := #[] }, { accessFlags := 16409, nameIndex := 9, descriptorIndex := 6, attributes := #[] }, { accessFlags := 16409, nameIndex := 12, descriptorIndex := 6, attributes := #[] }, { accessFlags := 16409, nameIndex := 15, descriptorIndex := 6, attributes := #[] }, { accessFlags := 16409, nameIndex := 18, descriptorIndex := 6, attributes := #[] }, { accessFlags := 16409, nameIndex := 21, descriptorIndex := 6, attributes := #[] }, { accessFlags := 26, nameIndex := 248, descriptorIndex := 48, attributes := #[] }, { accessFlags := 18, nameIndex := 43, descriptorIndex := 44, attributes := #[] }, { accessFlags := 18, nameIndex := 47, descriptorIndex := 48, attributes := #[] }, { accessFlags := 18, nameIndex := 51, descriptorIndex := 52, attributes := #[] }, { accessFlags := 18, nameIndex := 55, descriptorIndex := 56, attributes := #[] }, { accessFlags := 18, nameIndex := 59, descriptorIndex := 60, attributes := #[] }, { accessFlags := 4122, nameIndex := 24, descriptorIndex := 25, attributes := #[] }])
  fields := #[{ name := "CRC32", type := (.object "com/example/countersign/countersign/checksum/ChecksumAlgorithm"), accessFlags := 16409, slot := 0, constantValue := 0 }, { name := "CRC32C", type := (.object "com/example/countersign/countersign/checksum/ChecksumAlgorithm"), accessFlags := 16409, slot := 1, constantValue := 0 }, { name := "CRC64NVME", type := (.object "com/example/countersign/countersign/checksum/ChecksumAlgorithm"), accessFlags := 16409, slot := 2, constantValue := 0 }, { name := "SHA1", type := (.object "com/example/countersign/countersign/checksum/ChecksumAlgorithm"), accessFlags := 16409, slot := 3, constantValue := 0 }, { name := "SHA256", type := (.object "com/example/countersign/countersign/checksum/ChecksumAlgorithm"), accessFlags := 16409, slot := 4, constantValue := 0 }, { name := "MD5", type := (.object "com/example/countersign/countersign/checksum/ChecksumAlgorithm"), accessFlags := 16409, slot := 5, constantValue := 0 }, { name := "BUFFER_SIZE", type := .int, accessFlags := 26, slot := 6, constantValue := 0 }, { name := "id", type := (.object "java/lang/String"), accessFlags := 18, slot := 3, constantValue := 0 }, { name := "length", type := .int, accessFlags := 18, slot := 4, constantValue := 0 }, { name := "factory", type := (.object "java/util/function/Supplier"), accessFlags := 18, slot := 5, constantValue := 0 }, { name := "composite", type := .boolean, accessFlags := 18, slot := 6, constantValue := 0 }, { name := "combination", type := (.object "com/example/countersign/countersign/checksum/CrcCombination"), accessFlags := 18, slot := 7, constantValue := 0 }, { name := "$VALUES", type := (.array (.object "com/example/countersign/countersign/checksum/ChecksumAlgorithm")), accessFlags := 4122, slot := 7, constantValue := 0 }]
  methods := #[k6m0]
  instanceTypes := #[(.object "java/lang/String"), .int, .int, (.object "java/lang/String"), .int, (.object "java/util/function/Supplier"), .boolean, (.object "com/example/countersign/countersign/checksum/CrcCombination")]
  staticTypes := #[(.object "com/example/countersign/countersign/checksum/ChecksumAlgorithm"), (.object "com/example/countersign/countersign/checksum/ChecksumAlgorithm"), (.object "com/example/countersign/countersign/checksum/ChecksumAlgorithm"), (.object "com/example/countersign/countersign/checksum/ChecksumAlgorithm"), (.object "com/example/countersign/countersign/checksum/ChecksumAlgorithm"), (.object "com/example/countersign/countersign/checksum/ChecksumAlgorithm"), .int, (.array (.object "com/example/countersign/countersign/checksum/ChecksumAlgorithm"))]
  resolved := Array.replicate 328 none
  statics := some 0 }

def pool7 : Array CpInfo := pool [(2, .class_ 4), (1, u "java/lang/Object"), (16, .class_ 23), (1, u "com/example/countersign/countersign/checksum/CrcCombination"), (0, u "width"), (0, u "I"), (6, u "reflectedPolynomial"), (0, u "J"), (2, u "one"), (2, u "powers"), (0, u "[J")] 72

/-- com/example/countersign/countersign/checksum/CrcCombination -/
def k7 : Class := { plain "com/example/countersign/countersign/checksum/CrcCombination" (some 0) with
  accessFlags := 48
  interfaces := #[]
  cf := some (fileOf pool7 21 #[] #[] 48 2 #[] #[{ accessFlags := 18, nameIndex := 24, descriptorIndex := 25, attributes := #[] }, { accessFlags := 18, nameIndex := 32, descriptorIndex := 33, attributes := #[] }, { accessFlags := 18, nameIndex := 36, descriptorIndex := 33, attributes := #[] }, { accessFlags := 18, nameIndex := 39, descriptorIndex := 40, attributes := #[] }])
  fields := #[{ name := "width", type := .int, accessFlags := 18, slot := 0, constantValue := 0 }, { name := "reflectedPolynomial", type := .long, accessFlags := 18, slot := 1, constantValue := 0 }, { name := "one", type := .long, accessFlags := 18, slot := 2, constantValue := 0 }, { name := "powers", type := (.array .long), accessFlags := 18, slot := 3, constantValue := 0 }]
  methods := #[]
  instanceTypes := #[.int, .long, .long, (.array .long)]
  staticTypes := #[]
  resolved := Array.replicate 113 none
  statics := none }

def pool8 : Array CpInfo := pool [(1, u "java/lang/Cloneable"), (0, .class_ 1), (0, u "java/lang/Object"), (0, .class_ 3)] 3

/-- java/lang/Cloneable -/
def k8 : Class := { plain "java/lang/Cloneable" (some 0) with
  accessFlags := 1537
  interfaces := #[]
  cf := some (fileOf pool8 2 #[] #[] 1537 4 #[] #[])
  fields := #[]
  methods := #[]
  instanceTypes := #[]
  staticTypes := #[]
  resolved := Array.replicate 8 none
  statics := none }

/-- the primitive byte -/
def k9 : Class := { plain "byte" none with kind := .primitive 'B', accessFlags := 0x411 }
/-- [B -/
def k10 : Class := { plain "[B" (some 0) with kind := .array 9 .byte, interfaces := #[8, 4], accessFlags := 1041 }

/-- the primitive int -/
def k11 : Class := { plain "int" none with kind := .primitive 'I', accessFlags := 0x411 }
/-- [I -/
def k12 : Class := { plain "[I" (some 0) with kind := .array 11 .int, interfaces := #[8, 4], accessFlags := 1041 }

def heap : Heap := #[{ cls := 6, slots := #[.ref 2, .ref 2, .ref 2, .ref 3, .ref 3, .ref 3, .int 0, .null], vm := .statics 6 },
  { cls := 7, slots := #[.int 0, .long 0, .long 0, .null], vm := .none },
  { cls := 6, slots := #[.null, .int 0, .int 0, .null, .int 0, .null, .int 0, .ref 1], vm := .none },
  { cls := 6, slots := #[.null, .int 0, .int 0, .null, .int 0, .null, .int 0, .null], vm := .none }]
def classes : Array Class := #[k0, k1, k2, k3, k4, k5, k6, k7, k8, k9, k10, k11, k12]
def interned : List (Array UInt16 × Addr) := []
def slotsUsed : Nat := 28
def theMethod : MethodId := ⟨1, 1⟩
def args0 : Array Value := #[.int 5]
def aboutOver (below : List Frame) : State where
  vm := { classes := classes, interned := interned.toArray }
  heap := heap
  slotsUsed := slotsUsed
  threads := #[{ frames := .invoking theMethod args0 :: below }]
def below0 : List Frame := [.native { method := ⟨0, 0⟩, args := #[] }]
def about1 : State := aboutOver below0
def p0 : Program := .bare "" "" ""
def e0 : Env := launch0.env 0 0 0
theorem w_frames : about1.frames = Frame.invoking theMethod args0 :: below0 := rfl
set_option maxRecDepth 65536 in
theorem w_args : argsFit about1.vm theMethod args0 = true := by decide +kernel
set_option maxRecDepth 65536 in
theorem w_heap : heapFits about1 = true := by decide +kernel
set_option maxRecDepth 65536 in
theorem w_runnable : about1.curStatus? = some .runnable := by decide +kernel
set_option maxRecDepth 65536 in
theorem w_alone : about1.alone = true := by decide +kernel
set_option maxRecDepth 65536 in
theorem w_named : about1.methodNamed? x = some theMethod := by decide +kernel
set_option maxRecDepth 65536 in
theorem w_hears : about1.hears theMethod below0 = true := by decide +kernel
set_option maxRecDepth 65536 in
theorem w_ripe : about1.ripe theMethod args0 below0 = true := by decide +kernel
theorem w_running : about1.status = .running := rfl
set_option maxRecDepth 65536 in
theorem w_room : about1.hasRoom e0.platform room_1 = true :=
  launch0.hasRoom_least _ room_1 (by decide +kernel) (by decide +kernel) (by decide +kernel) (by decide +kernel) (by decide +kernel) (by decide +kernel)
theorem allAtoms_all (ts : List Jvm.Cond) (a : Array Jvm.Value) (st : Jvm.State) : (allAtoms ts).before a st = ts.all (fun c => c.before a st) := by
  induction ts with
  | nil => rfl
  | cons c t ih =>
    show (Jvm.Cond.and c (allAtoms t)).before a st = _
    rw [Jvm.Cond.before_and, ih, List.all_cons]
def words1 : List Jvm.Cond := Jvm.Cond.code x code maxLocals ret :: tables_1
/-- a 'code' word, met by the world's own term for the bytes: nothing is compared byte by byte -/
theorem code_word {y : MethodName} {bytes : ByteArray} {mx : Nat} {rt : Option FieldType} {a : Array Value} {s : State} {m : MethodId} {meth : Method} {c : Code} (h1 : s.methodNamed? y = some m) (h2 : s.vm.method? m = some meth) (h3 : meth.code = some c) (h4 : c.code = bytes)
    (h5 : (c.maxLocals == mx && c.exceptionTable.isEmpty && decide (c.maxStack ≤ mostOperands) && decide (meth.sig.returnType = rt) && !meth.locks && decide (parseMethodDescriptor y.desc = some meth.sig)) = true) : (Jvm.Cond.code y bytes mx rt).before a s = true := by
  simp only [Bool.and_eq_true, beq_iff_eq, Bool.not_eq_true', decide_eq_true_eq] at h5
  obtain ⟨⟨⟨⟨⟨g1, g2⟩, g3⟩, g4⟩, g5⟩, g6⟩ := h5
  simp [Cond.before, Cond.holds, Cond.value, h1, h2, h3, h4, g1, g2, g3, g4, g5, g6]
def isCode : Jvm.Cond → Bool
  | .code _ _ _ _ => true
  | _ => false
theorem all_split {L : List Jvm.Cond} {P : Jvm.Cond → Bool} (h1 : L.all (fun c => isCode c || P c) = true) (h2 : ∀ c ∈ L.filter isCode, P c = true) : L.all P = true := by
  refine List.all_eq_true.mpr fun c hc => ?_
  have h := List.all_eq_true.mp h1 c hc
  rcases Bool.eq_false_or_eq_true (isCode c) with hi | hi
  · exact h2 c (List.mem_filter.mpr ⟨hc, hi⟩)
  · simpa [hi] using h
set_option maxRecDepth 65536 in
theorem w_c0 : (Jvm.Cond.code x code maxLocals ret).before args0 about1 = true := code_word (m := ⟨1, 1⟩) (meth := k1m1) (c := k1c1) (by decide +kernel) rfl rfl rfl (by decide +kernel)
set_option maxRecDepth 65536 in
theorem w_c1 : (Jvm.Cond.code ({ cls := "com/example/countersign/countersign/checksum/ChecksumAlgorithm", name := "hasFullObjectForm", desc := "()Z" } : Jvm.MethodName) prog_34_method_8_code (1 : Nat) (Option.some Jvm.ClassFile.FieldType.boolean)).before args0 about1 = true := code_word (m := ⟨6, 0⟩) (meth := k6m0) (c := k6c0) (by decide +kernel) rfl rfl rfl (by decide +kernel)
def codes1 : List Jvm.Cond := [Jvm.Cond.code x code maxLocals ret, Jvm.Cond.code ({ cls := "com/example/countersign/countersign/checksum/ChecksumAlgorithm", name := "hasFullObjectForm", desc := "()Z" } : Jvm.MethodName) prog_34_method_8_code (1 : Nat) (Option.some Jvm.ClassFile.FieldType.boolean)]
set_option maxRecDepth 65536 in
theorem codes_eq : words1.filter isCode = codes1 := rfl
theorem w_codes : ∀ c ∈ words1.filter isCode, c.before args0 about1 = true := by
  rw [codes_eq]
  intro c hc
  simp only [codes1, List.mem_cons, List.not_mem_nil, or_false] at hc
  rcases hc with rfl | rfl
  · exact w_c0
  · exact w_c1
set_option maxRecDepth 65536 in
theorem w_t1 : words1.all (fun c => isCode c || c.before args0 about1) = true := by decide +kernel
theorem w_tables : (allAtoms (Jvm.Cond.code x code maxLocals ret :: tables_1)).before args0 about1 = true := by
  rw [allAtoms_all]
  show words1.all (fun c => c.before args0 about1) = true
  refine all_split ?_ w_codes
  rw [w_t1]
set_option maxRecDepth 65536 in
theorem w_case : (Jvm.Cond.and given_1 narrow_1).before args0 about1 = true := by decide +kernel
theorem w_applies : (headSpec (Jvm.Cond.code x code maxLocals ret :: tables_1) room_1).applies x e0.platform about1 = true :=
  (Spec.applies_iff w_frames).mpr ⟨w_running, w_runnable, w_alone, w_named, w_hears, w_ripe, w_room, w_tables⟩
theorem atStart : AtStart classFile x code maxLocals ret World_1 tables_1 room_1 Calls_1 rest_1 Pre_1 launch0 p0 e0 about1 theMethod args0 below0 :=
  ⟨lists_1, trivial, launch0.admits_env _ _ _, launch0.least_env, fairChoices_fair.cas, fairChoices_fair.clock, w_frames, w_args, w_heap, w_applies, trivial, trivial, w_case⟩
end start1
theorem witness_1 : WitnessClaimed_1 := ⟨start1.p0, start1.e0, start1.about1, start1.theMethod, start1.args0, start1.below0, start1.atStart⟩
end Jvm.Pilot.@@N@@
