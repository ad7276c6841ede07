import JvmDerived
import JvmDerived.Pilot.@@N@@Statement
import JvmDerived.Pilot.@@N@@Code
set_option linter.unusedVariables false
set_option linter.unusedSimpArgs false
@@BLOCK:NumsL.lean.txt@@
namespace Jvm.RoadKit
open Sem ClassFile Op Lib Jvm.Stand Jvm.Free Jvm.LawKit
section New
variable {p : Program} {l : Launch} {e : Env} {R : Room} {s : State} {m : MethodId} {args : Array Value} {below : List Frame} {meth : Method} {c : Code} {T : State} {locs : List Loc} {cells slots : Nat}
theorem retI (X : Stand p l e R s m args below meth c T locs cells slots) (hx : p.tables.exec = Jvm.exec) {pc : Nat} {Ls : Array Slot} {z : Int32} {rest : List Value} (hret : meth.sig.returnType = some .int) (hd : decode c.code pc = .ok (.ireturn, 1)) {fs : List Frame}
    (hl : ∀ (f : JFrame) (acts : List Action), f.method = m → f.locked = none → f.entered = [] → (doReturn e (T.setTop f) acts (some (.int z))).1 = T.setFrames fs) : Steps p.tables e below (T.setTop (mkF m pc Ls (.int z :: rest))) (T.setFrames fs) := by
  have hm' : T.vm.method? m = some meth := X.method'
  have hn : narrow .int (.int z) = .int z := rfl
  show Steps p.tables e below (T.setTop { method := m, pc := pc, locals := Ls, stack := _ :: rest, locked := none }) _
  jvm_step X.here [X.here.top, hx, hd, hm', hret, hn]
  first | (intro acts; rw [hl _ acts rfl rfl rfl]) | rw [hl _ _ rfl rfl rfl]
  exact Steps.refl _
end New
end Jvm.RoadKit
namespace Jvm.Pilot.@@N@@
open Jvm Jvm.ClassFile Sem Op Lib Jvm.Free Jvm.Stand Jvm.LawKit Jvm.RoadKit Bundle Jvm.Pilot.@@N@@.Jvm.D
/-- the rest of a run, in passing style: some state is come to at which F holds -/
def Go (p : Program) (e : Env) (below : List Frame) (F : State → Outcome → Prop) (t : State) : Prop := ∃ u o, Steps p.tables e below t u ∧ F u o
theorem Go.back {p : Program} {e : Env} {below : List Frame} {F : State → Outcome → Prop} {t t' : State} (k : ∀ u, Steps p.tables e below t' u → Steps p.tables e below t u) (h : Go p e below F t') : Go p e below F t := by
  obtain ⟨u, o, h1, h2⟩ := h
  exact ⟨u, o, k u h1, h2⟩
abbrev dc (b : ByteArray) (p : Nat) (i : Instr) (n : Nat) : Prop := decode b p = .ok (i, n)
abbrev cd7 : ByteArray := jdk_52_method_21_code
abbrev cd37 : ByteArray := jdk_52_method_4_code
abbrev cd38 : ByteArray := jdk_52_method_5_code
abbrev cd36 : ByteArray := jdk_52_method_3_code
abbrev cd35 : ByteArray := jdk_52_method_2_code
abbrev cd34 : ByteArray := jdk_52_method_14_code
abbrev cd6 : ByteArray := jdk_52_method_16_code
abbrev cd8 : ByteArray := jdk_52_method_15_code
abbrev cd4 : ByteArray := jdk_42_method_149_code
abbrev cd3 : ByteArray := jdk_42_method_3_code
abbrev cd12 : ByteArray := jdk_42_method_154_code
abbrev cd14 : ByteArray := jdk_43_method_49_code
abbrev cd13 : ByteArray := jdk_43_method_9_code
abbrev cd42 : ByteArray := jdk_52_method_6_code
abbrev cd44 : ByteArray := jdk_41_method_13_code
abbrev cd43 : ByteArray := jdk_42_method_157_code
abbrev cd41 : ByteArray := jdk_52_method_94_code
abbrev cd40 : ByteArray := jdk_52_method_26_code
abbrev cd39 : ByteArray := jdk_52_method_13_code
abbrev cd11 : ByteArray := jdk_42_method_129_code
abbrev cd16 : ByteArray := prog_8_method_31_code
abbrev cd19 : ByteArray := jdk_30_method_1_code
abbrev cd18 : ByteArray := prog_9_method_1_code
abbrev cd21 : ByteArray := prog_9_method_7_code
abbrev cd45 : ByteArray := prog_9_method_6_code
abbrev cd17 : ByteArray := prog_8_method_30_code
abbrev cd22 : ByteArray := jdk_29_method_69_code
abbrev cd20 : ByteArray := prog_8_method_29_code
abbrev cd25 : ByteArray := jdk_29_method_65_code
abbrev cd23 : ByteArray := prog_11_method_1_code
abbrev cd24 : ByteArray := prog_8_method_35_code
abbrev cd33 : ByteArray := prog_8_method_34_code
abbrev cd15 : ByteArray := prog_8_method_1_code
abbrev cd10 : ByteArray := jdk_42_method_126_code
abbrev cd9 : ByteArray := prog_8_method_2_code
abbrev cd1 : ByteArray := method_2_code
abbrev cd2 : ByteArray := method_3_code
abbrev cd29 : ByteArray := method_5_code
abbrev cd30 : ByteArray := method_4_code
abbrev cd27 : ByteArray := prog_8_method_23_code
abbrev cd28 : ByteArray := prog_8_method_17_code
abbrev cd32 : ByteArray := prog_8_method_24_code
abbrev cd31 : ByteArray := prog_8_method_18_code
abbrev cd26 : ByteArray := prog_8_method_22_code
abbrev vi (x : Int32) : Slot := .val (.int x)
abbrev vr (a : Addr) : Slot := .val (.ref a)
abbrev un : Slot := .unset
abbrev rm0 : Room := { frames := 0, cells := 0, slots := 0, locals := 0 }
abbrev rm1 : Room := { frames := 1, cells := 1, slots := 10, locals := 12 }
abbrev rm2 : Room := { frames := 2, cells := 1, slots := 10, locals := 24 }
abbrev rm3 : Room := { frames := 3, cells := 2, slots := 15, locals := 40 }
abbrev rm4 : Room := { frames := 4, cells := 2, slots := 15, locals := 57 }
abbrev rm5 : Room := { frames := 5, cells := 2, slots := 15, locals := 74 }
abbrev rm6 : Room := { frames := 1, cells := 4, slots := 8, locals := 12 }
abbrev rm7 : Room := { frames := 2, cells := 4, slots := 8, locals := 29 }
abbrev rm8 : Room := { frames := 1, cells := 1, slots := 5, locals := 17 }
abbrev rm9 : Room := { frames := 1, cells := 0, slots := 0, locals := 15 }
abbrev rm10 : Room := { frames := 2, cells := 0, slots := 0, locals := 29 }
abbrev rm11 : Room := { frames := 3, cells := 0, slots := 0, locals := 43 }
abbrev rm12 : Room := { frames := 4, cells := 1, slots := 5, locals := 60 }
abbrev rm13 : Room := { frames := 2, cells := 1, slots := 5, locals := 30 }
abbrev rm14 : Room := { frames := 5, cells := 1, slots := 5, locals := 73 }
abbrev rm15 : Room := { frames := 1, cells := 0, slots := 0, locals := 12 }
abbrev rm16 : Room := { frames := 2, cells := 0, slots := 0, locals := 24 }
abbrev rm17 : Room := { frames := 3, cells := 1, slots := 4, locals := 42 }
abbrev rm18 : Room := { frames := 4, cells := 9, slots := 1059, locals := 58 }
abbrev rm19 : Room := { frames := 5, cells := 12, slots := 1069, locals := 80 }
abbrev rm20 : Room := { frames := 6, cells := 14, slots := 1084, locals := 105 }
abbrev rm21 : Room := { frames := 0, cells := 1, slots := 5, locals := 0 }
abbrev rm22 : Room := { frames := 1, cells := 0, slots := 0, locals := 14 }
abbrev rm23 : Room := { frames := 1, cells := 1, slots := 5, locals := 24 }
abbrev rm24 : Room := { frames := 1, cells := 0, slots := 0, locals := 13 }
abbrev mn0 : MethodName := ⟨"java/lang/StringUTF16", "compress", "([CI[BII)I"⟩
abbrev mn1 : MethodName := ⟨"java/lang/StringUTF16", "putChar", "([BII)V"⟩
abbrev mn2 : MethodName := ⟨"java/lang/StringUTF16", "getChar", "([BI)C"⟩
abbrev mn3 : MethodName := ⟨"java/lang/StringUTF16", "newBytesLength", "(I)I"⟩
abbrev mn4 : MethodName := ⟨"java/lang/StringUTF16", "newBytesFor", "(I)[B"⟩
abbrev mn5 : MethodName := ⟨"java/lang/StringUTF16", "toBytes", "([CII)[B"⟩
abbrev mn6 : MethodName := ⟨"java/lang/StringUTF16", "compress", "([CII)[B"⟩
abbrev mn7 : MethodName := ⟨"java/lang/StringUTF16", "coderFromArrayLen", "([BI)B"⟩
abbrev mn8 : MethodName := ⟨"java/lang/String", "<init>", "([CIILjava/lang/Void;)V"⟩
abbrev mn9 : MethodName := ⟨"java/lang/String", "<init>", "([C)V"⟩
abbrev mn10 : MethodName := ⟨"java/lang/String", "isLatin1", "()Z"⟩
abbrev mn11 : MethodName := ⟨"java/lang/StringLatin1", "inflate", "([BI[CII)V"⟩
abbrev mn12 : MethodName := ⟨"java/lang/StringLatin1", "toChars", "([B)[C"⟩
abbrev mn13 : MethodName := ⟨"java/lang/StringUTF16", "length", "([B)I"⟩
abbrev mn14 : MethodName := ⟨"jdk/internal/util/Preconditions", "checkFromIndexSize", "(IIILjava/util/function/BiFunction;)I"⟩
abbrev mn15 : MethodName := ⟨"java/lang/String", "checkBoundsOffCount", "(III)I"⟩
abbrev mn16 : MethodName := ⟨"java/lang/StringUTF16", "checkBoundsOffCount", "(II[B)V"⟩
abbrev mn17 : MethodName := ⟨"java/lang/StringUTF16", "getChars", "([BII[CI)V"⟩
abbrev mn18 : MethodName := ⟨"java/lang/StringUTF16", "toChars", "([B)[C"⟩
abbrev mn19 : MethodName := ⟨"java/lang/String", "toCharArray", "()[C"⟩
abbrev mn20 : MethodName := ⟨"backstitch/Needle", "rarity", "(C)I"⟩
abbrev mn21 : MethodName := ⟨"java/lang/Record", "<init>", "()V"⟩
abbrev mn22 : MethodName := ⟨"backstitch/Needle$Anchor", "<init>", "(ICJI)V"⟩
abbrev mn23 : MethodName := ⟨"backstitch/Needle$Anchor", "unit", "()C"⟩
abbrev mn24 : MethodName := ⟨"backstitch/Needle$Anchor", "index", "()I"⟩
abbrev mn25 : MethodName := ⟨"backstitch/Needle", "anchorAt", "(I)Lbackstitch/Needle$Anchor;"⟩
abbrev mn26 : MethodName := ⟨"java/lang/Math", "min", "(II)I"⟩
abbrev mn27 : MethodName := ⟨"backstitch/Needle", "listCandidates", "()[Lbackstitch/Needle$Anchor;"⟩
abbrev mn28 : MethodName := ⟨"java/lang/Math", "max", "(II)I"⟩
abbrev mn29 : MethodName := ⟨"backstitch/Needle$Tally", "<init>", "()V"⟩
abbrev mn30 : MethodName := ⟨"backstitch/Needle", "begin", "(C)I"⟩
abbrev mn31 : MethodName := ⟨"backstitch/Needle", "advance", "(ICLbackstitch/Needle$Tally;)I"⟩
abbrev mn32 : MethodName := ⟨"backstitch/Needle", "<init>", "([CZ)V"⟩
abbrev mn33 : MethodName := ⟨"java/lang/String", "toString", "()Ljava/lang/String;"⟩
abbrev mn34 : MethodName := ⟨"backstitch/Needle", "of", "(Ljava/lang/CharSequence;)Lbackstitch/Needle;"⟩
abbrev mn35 : MethodName := ⟨"java/lang/CharSequence", "toString", "()Ljava/lang/String;"⟩
abbrev mn36 : MethodName := ⟨"backstitch/NeedleOfPinLaw", "unit", "(I)C"⟩
abbrev mn37 : MethodName := ⟨"backstitch/NeedleOfPinLaw", "pattern", "(ICCCCC)[C"⟩
abbrev mn38 : MethodName := ⟨"backstitch/NeedleOfPinLaw", "border", "([CI)I"⟩
abbrev mn39 : MethodName := ⟨"backstitch/NeedleOfPinLaw", "same", "([CII)Z"⟩
abbrev mn40 : MethodName := ⟨"backstitch/Needle", "length", "()I"⟩
abbrev mn41 : MethodName := ⟨"backstitch/Needle", "borders", "()[I"⟩
abbrev mn42 : MethodName := ⟨"backstitch/Needle", "lastBorder", "()I"⟩
abbrev mn43 : MethodName := ⟨"backstitch/Needle", "period", "()I"⟩
abbrev mn44 : MethodName := ⟨"backstitch/Needle", "requireKind", "(Z)V"⟩
set_option maxRecDepth 65536
set_option maxHeartbeats 40000000
theorem gb {p : Program} {e : Env} {below : List Frame} {F : State → Outcome → Prop} {t : State} (T : State) (m : MethodId) (pc : Nat) (L : Array Slot) (S : List Value) (k : ∀ u, Steps p.tables e below (T.setTop (mkF m pc L S)) u → Steps p.tables e below t u) (h : Go p e below F (T.setTop (mkF m pc L S))) : Go p e below F t := Go.back k h
theorem own_w0 {n W : Nat} (h : n = W) : 2 * 0 + n ≤ W := by omega
theorem own_hw {Z : State} {a0 : Array Value} (hw : ∀ d ∈ tables_1, d.before a0 Z = true) {d : Jvm.Cond} (i : Nat) (h : tables_1[i]? = some d) : d.before a0 Z = true := hw d (List.mem_of_getElem? h)
def own_F (s : State) (below : List Frame) (Q : Option Value → Heap → List Loc → Prop) (cells slots : Nat) (u : State) (o : Outcome) : Prop := u.status = .running ∧ Ended u below o ∧ ∃ v L, o = .returned v ∧ Q v u.heap L ∧ FrameEnd s o u L cells slots
def own_FW (s : State) (below : List Frame) (Q : Option Value → Heap → List Loc → Prop) (cells slots : Nat) (u : State) (o : Outcome) : Prop := u.status = .running ∧ Ended u below o ∧ ∃ v L, o = .returned v ∧ Q v u.heap L ∧ ReturnedEndW s o u L cells slots
theorem own_field {args : Array Value} {s : State} {t : Term} {C n d : String} {x : Addr} {v : Value} (h : t.eval args s none [] s = some (.ref x)) (h2 : (Term.field t C n d).eval args s none [] s = some v) : s.fieldOf? x C n d = some v := by
  simpa [Term.eval, h] using h2
theorem own_bit {x : Int32} (h : x = 0 ∨ x = 1) : narrow .boolean (.int x) = .int x ∧ fits .boolean (.int x) = true := by
  rcases h with rfl | rfl <;> decide
/-- the String constant that is read: "", of java.lang.String's own pool -/
abbrev own_EL : List (String × Nat) := [("java/lang/String", 7)]
theorem own_hEL {Z : State} {a0 : Array Value} (hw : ∀ d ∈ tables_1, d.before a0 Z = true) : EW Z a0 own_EL := EW.cons (own_hw hw 205 rfl) (by decide) EW.nil
def own_FH (Z s : State) (below : List Frame) (Q : Option Value → Heap → List Loc → Prop) (cells slots : Nat) (u : State) (o : Outcome) : Prop := u.status = .running ∧ Ended u below o ∧ ∃ v L, o = .returned v ∧ Q v u.heap L ∧ CHr Z own_EL s.vm s.heap u.vm u.heap ∧ ReturnedEndW s o u L cells slots
/-- a String under construction (no bytes yet) is none of the booked ones -/
theorem own_safe_null {Z : State} {EL : List (String × Nat)} {vm : Vm} {h : Heap} {x : Addr} (hal : Z.vm.Alike vm) (E : Exa Z h x "java/lang/String") (F : Fld Z h x "java/lang/String" "value" "[B" .null) : Safe Z EL vm h x := by
  rintro ⟨p, hp, u, a, hb, q, hq, G, hy⟩
  obtain ⟨cS, ⟨⟨s1, s2, s3, ⟨cv, kv, iv, s4, s4'⟩, -, s6, -, s8, -, s10, -⟩, -⟩, -, hB, -⟩ := G
  rcases hy with rfl | rfl
  · obtain ⟨kv', z4⟩ := ff_back (U := Wst Z vm h) hal s4
    have F2 : Fld Z h q.sa "java/lang/String" "value" "[B" (.ref q.sd) := ⟨q.sC, cv, kv', iv, q.fSV, s1, z4, s6, s2, s3, by rw [← hal.assignable]; exact s4', s8⟩
    exact Fld.ne F F2 (fun q => nomatch q) rfl
  · obtain ⟨c1, k1, e1, e2, -⟩ := E
    cases e1.symm.trans s10
    exact ids_ne e2 (by rw [← hal.findClass]; exact hB) (by decide) rfl
/-- an 'invokevirtual' of a private method, where the sheet has its class instantiable in the stead of a 'selects' word -/
theorem own_priv {p : Program} {l : Launch} {e : Env} {R : Room} {s : State} {m : MethodId} {args : Array Value} {below : List Frame} {meth : Method} {c : Code} {T : State} {locs : List Loc} {cells slots : Nat}
    (X : Stand p l e R s m args below meth c T locs cells slots) (hexec : p.tables.exec = Jvm.exec) {own : String} {index kI : Nat} {y : MethodName} {bytes : ByteArray} {maxL : Nat} {ret : Option FieldType}
    (hown : s.vm.findClass own = some m.cls) (hlink : (Jvm.Cond.methodLink own index y).before args s = true) (hinst : (Jvm.Cond.instanceMethod y).before args s = true) (hI : (Jvm.Cond.instantiable y.cls kI).before args s = true)
    (hpriv : s.PrivateAt y) (hcode : (Jvm.Cond.code y bytes maxL ret).before args s = true) (hy : y.cls ≠ "java/lang/invoke/MethodHandle" ∧ y.cls ≠ "java/lang/invoke/VarHandle")
    {W : Nat} {Pre : Pt → Array Value → Prop} {Post : Pt → Array Value → Option Value → Pt → Prop} (hK : Back l R p e below s args y 3 W Pre Post)
    {g : JFrame} (hg : g.method = m) (hsize : g.locals.size = c.maxLocals) {a : Addr} {cell : Cell} (hcell : T.heap[a]? = some cell) (hobj : ∀ q, cell.vm ≠ .statics q)
    {argsL rest : List Value} (hlen : ∀ sig, parseMethodDescriptor y.desc = some sig → argsL.length = sig.parameters.length)
    (hstack : g.stack = argsL.reverse ++ .ref a :: rest) (hW : 2 * g.monitorRoom + (rest.map fun v => v.category).sum ≤ W) (hdg : decode c.code g.pc = .ok (.invokevirtual index, 3))
    (hpre : ∀ vm₁, s.WarmedH vm₁ → Pre ⟨T.setVm vm₁, locs, cells, slots⟩ (.ref a :: argsL).toArray) :
    ∃ (v : Option Value) (vm₁ : Vm) (B : Pt), s.WarmedH vm₁ ∧ Stand p l e R s m args below meth c B.U B.locs B.cells B.slots ∧ Post ⟨T.setVm vm₁, locs, cells, slots⟩ (.ref a :: argsL).toArray v B ∧
      Steps p.tables e below (T.setTop g) (B.U.setTop { g with pc := g.pc + 3, stack := v.toList ++ rest }) := by
  obtain ⟨mk, mm, nm, hm, hs, ha⟩ := Cond.instanceMethod_spec hinst
  obtain ⟨mm', cM, hm', -, -, -, -, -, -, sg⟩ := Cond.code_spec nm hcode
  cases hm.symm.trans hm'
  obtain ⟨cI, kk, f1, f2, -, f4, -⟩ := Cond.instantiable_spec hI
  obtain rfl : cI = mk.cls := Option.some.inj (f1.symm.trans (findClass_of_methodNamed nm))
  have ni : kk.isInterface = false := by
    cases hh : kk.isInterface
    · rfl
    · rw [hh] at f4; simp at f4
  obtain ⟨vm₁, X₁, st⟩ := X.invokevirtual hexec hown hlink nm hm hs f2 ni hy (a := a) (cell := cell) hcell hobj (selectMethod_private hm (hpriv mk mm nm hm)) hm ha f2 ni (g := g) hg (argsL := argsL) (rest := rest) (hlen _ sg) hstack hdg
  obtain ⟨v, B, X', hq, go⟩ := hK m meth c ⟨T.setVm vm₁, locs, cells, slots⟩ { g with stack := rest } (.invokevirtual index) mk (.ref a :: argsL).toArray X₁ hg hsize hdg hW (X₁.named nm) (hpre vm₁ X₁.warmed)
  exact ⟨v, vm₁, B, X₁.warmed, X', hq, (st _ fun acts => by rw [doInvoke_state]; exact Steps.refl _).trans go⟩
/-- the contract, as nearly every body here has it -/
abbrev own_Met (l : Launch) (Z : State) (y : MethodName) (code : ByteArray) (ml : Nat) (rt : Option FieldType) (ws : List Jvm.Cond) (R : Room) (A : Array Value) (h0 : Heap) (Q : Option Value → Heap → List Loc → Prop) : Prop :=
  MetFree l y (head1 (Jvm.Cond.code y code ml rt :: ws) R) (fun as_ U => as_ = A ∧ Z.Warmed39 U.vm ∧ U.heap = h0) (fun _ _ _ _ _ => True) (fun _ U o U' => ∃ v L, o = .returned v ∧ Q v U'.heap L ∧ FrameEnd U o U' L R.cells R.slots)
theorem own_start {l : Launch} {Z : State} {y : MethodName} {code : ByteArray} {ml : Nat} {rt : Option FieldType} {ws : List Jvm.Cond} {R : Room} {A : Array Value} {h0 : Heap} {Q : Option Value → Heap → List Loc → Prop} (hp : plainFor y = true)
    (G : ∀ p e s m below meth c s₁, BodyLoose p l y (head1 (Jvm.Cond.code y code ml rt :: ws) R) code ml rt e s m A below meth c s₁ → p.tables.exec = Jvm.exec → c.code = code → c.maxLocals = ml → Z.Warmed39 s.vm → s.vm.findClass y.cls = some m.cls → meth.name = y.name → Stand p l e R s m A below meth c s₁ [] 0 0 → s₁.heap = h0 → Go p e below (own_F s below Q R.cells R.slots) (s₁.setTop (entryFrame m A ml))) :
    own_Met l Z y code ml rt ws R A h0 Q := by
  refine MetFree.of_bodySF hp hisR ?_
  intro p e s m args below meth c s₁ Bd hml0 hP hK
  obtain ⟨rfl, hZ, hh⟩ := hP
  exact G p e s m below meth c s₁ Bd Bd.exec Bd.bytes hml0 hZ (findClass_of_methodNamed Bd.named) (name_of_methodNamed Bd.named Bd.method).1 (Stand.of_body Bd) (by rw [← hh, Bd.state]; rfl)
theorem own_i8 (x : Int32) : x.toInt8.toInt32.toInt8.toInt32 = x.toInt8.toInt32 := by rw [Int8.toInt8_toInt32]
theorem own_cc (x : Int32) : nar .char (x.toUInt32.toUInt16.toUInt32.toInt32) = x.toUInt32.toUInt16.toUInt32.toInt32 := by
  show (x.toUInt32.toUInt16.toUInt32.toInt32).toUInt32.toUInt16.toUInt32.toInt32 = x.toUInt32.toUInt16.toUInt32.toInt32
  rw [UInt32.toUInt32_toInt32, UInt16.toUInt16_toUInt32]
theorem own_cput {c : Int32} (h : nar .char c = c) : narrow .char (.int c) = .int c ∧ fits .char (.int c) = true := by
  have q := fits_nar_char c
  rw [h] at q
  refine ⟨?_, q⟩
  have : narrow .char (.int c) = .int (nar .char c) := rfl
  rw [this, h]
/-- a char -/
abbrev own_ch (c : Int32) : Prop := (¬ c < 0 ∧ ¬ (65535 : Int32) < c) ∧ nar .char c = c
def own_lo (c : Int32) : Int32 := ((c >>> ((0 : Int32) &&& 31)).toInt8.toInt32)
def own_hi (c : Int32) : Int32 := ((c >>> ((8 : Int32) &&& 31)).toInt8.toInt32)
def own_get (a b : Int32) : Int32 := ((((a &&& (255 : Int32)) <<< ((0 : Int32) &&& 31)) ||| ((b &&& (255 : Int32)) <<< ((8 : Int32) &&& 31))).toUInt32.toUInt16.toUInt32.toInt32)
theorem own_get_c (a b : Int32) : nar .char (own_get a b) = own_get a b := own_cc _
def own_inf (x : Int32) : Int32 := ((x &&& (255 : Int32)).toUInt32.toUInt16.toUInt32.toInt32)
theorem own_getc {c : Int32} (h : own_ch c) : own_get (own_lo c) (own_hi c) = c := by
  obtain ⟨-, h⟩ := h
  have e : c = c.toUInt32.toUInt16.toUInt32.toInt32 := h.symm
  rw [e]
  generalize c.toUInt32.toUInt16 = u
  unfold own_get own_lo own_hi
  apply congrArg UInt32.toInt32
  apply congrArg UInt16.toUInt32
  apply UInt16.toBitVec_inj.mp
  have e0 : ((0 : Int32) &&& 31) = 0 := by decide
  have e8 : ((8 : Int32) &&& 31) = 8 := by decide
  rw [e0, e8]
  ext i hi
  simp
  rcases (by omega : i = 0 ∨ i = 1 ∨ i = 2 ∨ i = 3 ∨ i = 4 ∨ i = 5 ∨ i = 6 ∨ i = 7 ∨ i = 8 ∨ i = 9 ∨ i = 10 ∨ i = 11 ∨ i = 12 ∨ i = 13 ∨ i = 14 ∨ i = 15) with rfl | rfl | rfl | rfl | rfl | rfl | rfl | rfl | rfl | rfl | rfl | rfl | rfl | rfl | rfl | rfl
  all_goals simp [BitVec.getLsbD_signExtend, BitVec.getElem_signExtend, BitVec.getLsbD_sshiftRight, BitVec.getElem_sshiftRight, BitVec.getElem_setWidth, BitVec.getLsbD_setWidth, BitVec.getLsbD_eq_getElem]
theorem own_infc {c : Int32} (h : own_ch c) (h2 : ¬ (255 : Int32) < c) : own_inf (c.toInt8.toInt32) = c := by
  obtain ⟨⟨h0, -⟩, h⟩ := h
  have m := c_mask c (255 : Int32) 8 (by decide) (by decide)
  have e1 : c &&& 255 = c := by
    apply Int32.toInt_inj.mp
    rw [m]
    rw [Int32.lt_iff_toInt_lt] at h0 h2
    have : (255 : Int32).toInt = 255 := by decide
    have : (0 : Int32).toInt = 0 := by decide
    omega
  have e2 : (c.toInt8.toInt32 &&& (255 : Int32)) = c &&& 255 := by
    apply Int32.toBitVec_inj.mp
    ext i hi
    by_cases q : i < 8
    · simp [BitVec.getElem_signExtend, q, hi]
    · have : (255#32)[i] = false := by
        have : 255#32 = BitVec.setWidth 32 (BitVec.allOnes 8) := by decide
        rw [this, BitVec.getElem_setWidth, BitVec.getLsbD_allOnes]; simp; omega
      simp [this]
  unfold own_inf
  rw [e2, e1]
  exact h
def own_RA (ra : List Value) : Prop := ra.length = 128 ∧ ∀ j, j < 128 → ∃ z : Int32, ra.getD j (.int 0) = .int z ∧ ¬ z < 0 ∧ ¬ (28 : Int32) < z
theorem own_nat {x y : Int32} {n : Nat} (h0 : ¬ x < 0) (h : x < y) (hy : y.toNatClampNeg = n) : x.toNatClampNeg < n := by
  subst hy
  rw [Int32.lt_iff_toInt_lt] at h h0
  have : (0 : Int32).toInt = 0 := by decide
  simp only [Int32.toNatClampNeg]; omega
theorem own_j (k : Nat) (h : k < 64) : ¬ Int32.ofNat k < 0 ∧ (Int32.ofNat k).toNatClampNeg = k ∧ (Int32.ofNat k) + (1 : Int32) = Int32.ofNat (k + 1) := by
  have q : ∀ k : Fin 64, ¬ Int32.ofNat k.val < 0 ∧ (Int32.ofNat k.val).toNatClampNeg = k.val ∧ (Int32.ofNat k.val) + (1 : Int32) = Int32.ofNat (k.val + 1) := by decide +kernel
  exact q ⟨k, h⟩
theorem own_lt {a b : Nat} (ha : a < 64) (hb : b < 64) : Int32.ofNat a < Int32.ofNat b ↔ a < b := by
  have q : ∀ a b : Fin 64, Int32.ofNat a.val < Int32.ofNat b.val ↔ a.val < b.val := by decide +kernel
  exact q ⟨a, ha⟩ ⟨b, hb⟩
theorem own_of {x : Int32} {n : Nat} (h0 : ¬ x < 0) (h : x < Int32.ofNat n) (hn : n < 64) : x.toNatClampNeg < n := own_nat h0 h (own_j n hn).2.1
/-- the chars of a needle -/
def own_U (n : Nat) (us : List Value) : Prop := us.length = n ∧ ∀ j, j < n → ∃ c : Int32, us.getD j (.int 0) = .int c ∧ own_ch c
/-- longs -/
def own_L (n : Nat) (vs : List Value) : Prop := vs.length = n ∧ ∀ j, j < n → ∃ z : Int64, vs.getD j (.long 0) = .long z
theorem own_L.set {n : Nat} {vs : List Value} (h : own_L n vs) (i : Nat) (z : Int64) : own_L n (vs.set i (.long z)) := by
  refine ⟨(List.length_set ..).trans h.1, fun j hj => ?_⟩
  by_cases q : i = j
  · subst q
    exact ⟨z, by rw [List.getD_eq_getElem?_getD, List.getElem?_set_self (by rw [h.1]; exact hj)]; rfl⟩
  · obtain ⟨y, hy⟩ := h.2 j hj
    exact ⟨y, by rw [List.getD_eq_getElem?_getD, List.getElem?_set_ne q, ← List.getD_eq_getElem?_getD]; exact hy⟩
theorem own_L0 (n : Nat) : own_L n (([] : List Value) ++ List.replicate n ((.long 0) : Value)) := by
  refine ⟨by simp, fun j hj => ⟨0, ?_⟩⟩
  rw [List.nil_append, List.getD_eq_getElem?_getD, List.getElem?_replicate, if_pos hj]; rfl
theorem own_set_self {vs : List Value} {i : Nat} {v d : Value} (h : i < vs.length) : (vs.set i v).getD i d = v := by
  rw [List.getD_eq_getElem?_getD, List.getElem?_set_self h]; rfl
theorem own_set_ne {vs : List Value} {i j : Nat} {v d : Value} (h : i ≠ j) : (vs.set i v).getD j d = vs.getD j d := by
  rw [List.getD_eq_getElem?_getD, List.getElem?_set_ne h, ← List.getD_eq_getElem?_getD]
theorem own_u6 {c : Int32} (h : own_ch c) : ¬ (Jvm.Free.XT.ushr c (6 : Int32)) < 0 ∧ (Jvm.Free.XT.ushr c (6 : Int32)) < (1024 : Int32) := by
  obtain ⟨⟨h0, h1⟩, -⟩ := h
  rw [Int32.lt_iff_toInt_lt] at h0 h1
  have e0 : (0 : Int32).toInt = 0 := by decide
  have e1 : (65535 : Int32).toInt = 65535 := by decide
  have e2 : (1024 : Int32).toInt = 1024 := by decide
  rw [e0] at h0; rw [e1] at h1
  have q : (Jvm.Free.XT.ushr c (6 : Int32)).toInt = c.toInt / 64 := by
    unfold Jvm.Free.XT.ushr
    have e6 : ((6 : Int32) &&& 31).toUInt32 = 6 := by decide
    rw [e6]
    have a1 : c.toInt = c.toBitVec.toInt := rfl
    rw [BitVec.toInt_eq_toNat_cond] at a1
    have lt := c.toBitVec.isLt
    have a2 : c.toInt = c.toBitVec.toNat := by
      split at a1 <;> omega
    have a3 : (c.toUInt32 >>> (6 : UInt32)).toNat = c.toBitVec.toNat / 64 := by
      rw [UInt32.toNat_shiftRight]
      show c.toBitVec.toNat >>> (6 % 32) = _
      rw [Nat.shiftRight_eq_div_pow]
    show (c.toUInt32 >>> (6 : UInt32)).toBitVec.toInt = _
    rw [BitVec.toInt_eq_toNat_cond]
    have a4 : (c.toUInt32 >>> (6 : UInt32)).toBitVec.toNat = c.toBitVec.toNat / 64 := a3
    rw [a4, if_pos (by omega), a2]; omega
  rw [Int32.lt_iff_toInt_lt, Int32.lt_iff_toInt_lt, q, e0, e2]
  omega
def own_bitI (q : Int32) : Int32 := (1 : Int32) <<< (q &&& 31)
theorem own_small (q : Int32) (h0 : ¬ q < 0) (h1 : ¬ (28 : Int32) < q) : ∃ k : Nat, k < 29 ∧ q = Int32.ofNat k := by
  rw [Int32.lt_iff_toInt_lt] at h0 h1
  have e0 : (0 : Int32).toInt = 0 := by decide
  have e1 : (28 : Int32).toInt = 28 := by decide
  refine ⟨q.toInt.toNat, by omega, ?_⟩
  apply Int32.toInt_inj.mp
  rw [Int32.toInt_ofNat_of_lt (by omega)]; omega
/-- the places and the classes of the distinct chars -/
def own_PC (n k : Nat) (mask : Int32) (ql : List Int32) (ps cl : List Value) : Prop := ps.length = n ∧ cl.length = n ∧ ql.length = k ∧ k ≤ n ∧ (∀ j, j < k → ∃ p : Int32, ps.getD j (.int 0) = .int p ∧ ¬ p < 0 ∧ p < Int32.ofNat n) ∧
  (∀ j, j < k → cl.getD j (.int 0) = .int (ql.getD j 0)) ∧ ∀ q ∈ ql, ¬ q < 0 ∧ ¬ (28 : Int32) < q ∧ ¬ (mask &&& ((1 : Int32) <<< (q &&& 31))) = 0
theorem own_or0 {a b c : Int32} (h : ¬ (a &&& c) = 0) : ¬ ((a ||| b) &&& c) = 0 := by
  intro q
  apply h
  apply Int32.toBitVec_inj.mp
  have q := congrArg Int32.toBitVec q
  simp only [Int32.toBitVec_and, Int32.toBitVec_or] at q ⊢
  ext i hi
  have := congrArg (fun b => b[i]'hi) q
  simp at this ⊢
  intro h1
  exact this (Or.inl h1)
theorem own_or1 {a b : Int32} (h : ¬ b = 0) : ¬ ((a ||| b) &&& b) = 0 := by
  intro q
  apply h
  apply Int32.toBitVec_inj.mp
  have q := congrArg Int32.toBitVec q
  simp only [Int32.toBitVec_and, Int32.toBitVec_or] at q ⊢
  ext i hi
  have := congrArg (fun b => b[i]'hi) q
  simp at this ⊢
  cases hb : b.toBitVec[i]
  · rfl
  · have := this (Or.inr hb)
    rw [hb] at this; cases this
theorem own_bit1 (q : Int32) (h0 : ¬ q < 0) (h1 : ¬ (28 : Int32) < q) : ¬ ((1 : Int32) <<< (q &&& 31)) = 0 := by
  obtain ⟨k, hk, rfl⟩ := own_small q h0 h1
  have : ∀ k : Fin 29, ¬ ((1 : Int32) <<< (Int32.ofNat k.val &&& 31)) = 0 := by decide +kernel
  exact this ⟨k, hk⟩
theorem own_PC0 (n : Nat) : own_PC n 0 0 [] (([] : List Value) ++ List.replicate n (.int 0)) (([] : List Value) ++ List.replicate n (.int 0)) :=
  ⟨by simp, by simp, rfl, by omega, fun j hj => absurd hj (by omega), fun j hj => absurd hj (by omega), fun q hq => absurd hq (by simp)⟩
theorem own_PC.step {n k i : Nat} {mask rv : Int32} {ql : List Int32} {ps cl : List Value} (h : own_PC n k mask ql ps cl) (hk : k < n) (hi : i < n) (hn : n < 64) (h0 : ¬ rv < 0) (h1 : ¬ (28 : Int32) < rv) :
    own_PC n (k + 1) (mask ||| ((1 : Int32) <<< (rv &&& 31))) (ql ++ [rv]) (ps.set k (.int (Int32.ofNat i))) (cl.set k (.int rv)) := by
  obtain ⟨a1, a2, a3, a4, a5, a6, a7⟩ := h
  refine ⟨by simp [a1], by simp [a2], by simp [a3], by omega, fun j hj => ?_, fun j hj => ?_, fun q hq => ?_⟩
  · by_cases e : k = j
    · subst e
      exact ⟨_, own_set_self (by omega), (own_j i (by omega)).1, (own_lt (by omega) hn).mpr hi⟩
    · rw [own_set_ne e]; exact a5 j (by omega)
  · by_cases e : k = j
    · subst e
      rw [own_set_self (by omega)]
      rw [List.getD_eq_getElem?_getD, List.getElem?_append_right (by omega)]
      simp [a3]
    · rw [own_set_ne e, a6 j (by omega), List.getD_eq_getElem?_getD, List.getD_eq_getElem?_getD, List.getElem?_append_left (by omega)]
  · rcases List.mem_append.mp hq with hq | hq
    · obtain ⟨b1, b2, b3⟩ := a7 q hq
      exact ⟨b1, b2, own_or0 b3⟩
    · obtain rfl := List.mem_singleton.mp hq
      exact ⟨h0, h1, own_or1 (own_bit1 _ h0 h1)⟩
/-- how many classes are c or above; how many of the first j are c -/
def own_cnt (ql : List Int32) (c : Nat) : Nat := ql.countP fun q => decide (c ≤ q.toNatClampNeg)
def own_eqn (ql : List Int32) (j c : Nat) : Nat := (ql.take j).countP fun q => decide (q.toNatClampNeg = c)
theorem own_cnt0 (ql : List Int32) : own_cnt ql 0 = ql.length := by
  unfold own_cnt
  rw [List.countP_eq_length]
  intro a _; simp
theorem own_cnt29 {n k : Nat} {mask : Int32} {ql : List Int32} {ps cl : List Value} (h : own_PC n k mask ql ps cl) : own_cnt ql 29 = 0 := by
  unfold own_cnt
  rw [List.countP_eq_zero]
  intro q hq
  obtain ⟨b1, b2, -⟩ := h.2.2.2.2.2.2 q hq
  obtain ⟨k, hk, rfl⟩ := own_small q b1 b2
  rw [(own_j k (by omega)).2.1]; simp; omega
theorem own_cnt_le (ql : List Int32) (c : Nat) : own_cnt ql c ≤ ql.length := List.countP_le_length
theorem own_cnt_succ (ql : List Int32) (c : Nat) : own_cnt ql (c + 1) + own_eqn ql ql.length c = own_cnt ql c := by
  unfold own_cnt own_eqn
  rw [List.take_length]
  induction ql with
  | nil => rfl
  | cons q r ih =>
    simp only [List.countP_cons, decide_eq_true_eq]
    by_cases h1 : q.toNatClampNeg = c
    · simp [h1, show ¬ (c + 1 ≤ c) by omega]; omega
    · by_cases h2 : c + 1 ≤ q.toNatClampNeg
      · simp [h1, h2, show c ≤ q.toNatClampNeg by omega]; omega
      · simp [h1, h2, show ¬ c ≤ q.toNatClampNeg by omega]; omega
theorem own_eqn_le (ql : List Int32) (j c : Nat) : own_eqn ql j c ≤ own_eqn ql ql.length c := by
  unfold own_eqn
  rw [List.take_length]
  exact List.Sublist.countP_le (List.take_sublist j ql)
theorem own_eqn_z (ql : List Int32) (c : Nat) : own_eqn ql 0 c = 0 := by simp [own_eqn]
theorem own_eqn_step {ql : List Int32} {j : Nat} (c : Nat) (hj : j < ql.length) : own_eqn ql (j + 1) c = own_eqn ql j c + (if (ql.getD j 0).toNatClampNeg = c then 1 else 0) := by
  unfold own_eqn
  rw [List.take_add_one, List.getElem?_eq_getElem hj]
  simp only [Option.toList, List.countP_append, List.countP_cons, List.countP_nil, decide_eq_true_eq, List.getD_eq_getElem?_getD, List.getElem?_eq_getElem hj, Option.getD_some]
  omega
theorem own_at_eq {q : Int32} {c : Nat} (h0 : ¬ q < 0) (h1 : ¬ (28 : Int32) < q) (hc : c < 29) : q = Int32.ofNat c ↔ q.toNatClampNeg = c := by
  obtain ⟨k, hk, rfl⟩ := own_small q h0 h1
  rw [(own_j k (by omega)).2.1]
  constructor
  · intro h
    have := congrArg Int32.toNatClampNeg h
    rwa [(own_j k (by omega)).2.1, (own_j c (by omega)).2.1] at this
  · intro h; rw [h]
theorem own_nobit {n k c : Nat} {mask : Int32} {ql : List Int32} {ps cl : List Value} (h : own_PC n k mask ql ps cl) (hc : c < 29) (hm : (mask &&& ((1 : Int32) <<< ((Int32.ofNat c) &&& 31))) = 0) : own_cnt ql c = own_cnt ql (c + 1) := by
  have : own_eqn ql ql.length c = 0 := by
    unfold own_eqn
    rw [List.take_length, List.countP_eq_zero]
    intro q hq e
    obtain ⟨b1, b2, b3⟩ := h.2.2.2.2.2.2 q hq
    apply b3
    rw [(own_at_eq b1 b2 hc).mpr (by simpa using e)]; exact hm
  have q := own_cnt_succ ql c
  omega
def own_cl : Nat → Int32
  | 0 => -1
  | c + 1 => Int32.ofNat c
theorem own_cl_step (c : Nat) (h : c < 29) : (own_cl (c + 1)) + (-1 : Int32) = own_cl c := by
  have : ∀ c : Fin 29, (own_cl (c.val + 1)) + (-1 : Int32) = own_cl c.val := by decide +kernel
  exact this ⟨c, h⟩
/-- n ints, as an array holds them -/
def own_l (n : Nat) (g : Nat → Int32) : List Value := (List.range n).map fun j => Value.int (g j)
theorem own_l_len (n : Nat) (g : Nat → Int32) : (own_l n g).length = n := by simp [own_l]
theorem own_l_at {n j : Nat} (g : Nat → Int32) (h : j < n) : (own_l n g).getD j (.int 0) = .int (g j) := by
  rw [List.getD_eq_getElem?_getD]
  simp [own_l, h]
theorem own_l_congr {n : Nat} {f g : Nat → Int32} (h : ∀ j, j < n → f j = g j) : own_l n f = own_l n g := by
  unfold own_l
  apply List.map_congr_left
  intro j hj
  rw [h j (List.mem_range.mp hj)]
theorem own_ib {i n : Nat} (h : i < n) (hn : n < 64) : ¬ Int32.ofNat i < 0 ∧ Int32.ofNat i < Int32.ofNat n := ⟨(own_j i (by omega)).1, (own_lt (by omega) hn).mpr h⟩
theorem own_ld (g : Nat → Int32) {i n : Nat} (h : i < n) (hn : n < 64) : (own_l n g).getD (Int32.ofNat i).toNatClampNeg (.int 0) = .int (g i) := by
  rw [(own_j i (by omega)).2.1]; exact own_l_at g h
theorem own_ilt {i n : Nat} (h : i < n) (hn : n < 64) : Int32.ofNat i < Int32.ofNat n := (own_ib h hn).2
theorem own_nlt {i n : Nat} (h : n ≤ i) (hi : i < 64) : ¬ Int32.ofNat i < Int32.ofNat n := fun q => absurd ((own_lt hi (by omega)).mp q) (by omega)
theorem own_inj {i n : Nat} (h : i < 64) (hn : n < 64) (q : Int32.ofNat i = Int32.ofNat n) : i = n := by
  have e := congrArg Int32.toNatClampNeg q
  rwa [(own_j i h).2.1, (own_j n hn).2.1] at e
theorem own_n0 {n : Nat} (h : 0 < n) (hn : n < 64) : ¬ Int32.ofNat n = (0 : Int32) := fun q => absurd (own_inj (i := n) (n := 0) hn (by decide) q) (by omega)
theorem own_pos {n : Nat} (h : ¬ Int32.ofNat n = (0 : Int32)) : 0 < n := Nat.pos_of_ne_zero fun q => h (by rw [q]; rfl)
theorem own_is0 {n : Nat} (h : Int32.ofNat n = (0 : Int32)) (hn : n < 64) : n = 0 := own_inj (i := n) (n := 0) hn (by decide) h
theorem own_pred {n : Nat} (h : 0 < n) (hn : n < 64) : Int32.ofNat n - (1 : Int32) = Int32.ofNat (n - 1) := by
  have q : ∀ k : Fin 64, 0 < k.val → Int32.ofNat k.val - (1 : Int32) = Int32.ofNat (k.val - 1) := by decide +kernel
  exact q ⟨n, hn⟩ h
theorem own_shl1 {k : Nat} (h : k < 16) : Int32.ofNat k <<< ((1 : Int32) &&& 31) = Int32.ofNat (2 * k) := by
  have q : ∀ k : Fin 16, Int32.ofNat k.val <<< ((1 : Int32) &&& 31) = Int32.ofNat (2 * k.val) := by decide +kernel
  exact q ⟨k, h⟩
theorem own_shr1 {k : Nat} (h : k < 16) : Int32.ofNat (2 * k) >>> ((1 : Int32) &&& 31) = Int32.ofNat k := by
  have q : ∀ k : Fin 16, Int32.ofNat (2 * k.val) >>> ((1 : Int32) &&& 31) = Int32.ofNat k.val := by decide +kernel
  exact q ⟨k, h⟩
theorem own_or3 {k : Nat} (h : k < 16) : ¬ ((Int32.ofNat k ||| (0 : Int32)) ||| Int32.ofNat k) < (0 : Int32) := by
  have q : ∀ k : Fin 16, ¬ ((Int32.ofNat k.val ||| (0 : Int32)) ||| Int32.ofNat k.val) < (0 : Int32) := by decide +kernel
  exact q ⟨k, h⟩
theorem own_sub0 {k : Nat} (h : k < 16) : Int32.ofNat k - (0 : Int32) = Int32.ofNat k := by
  have q : ∀ k : Fin 16, Int32.ofNat k.val - (0 : Int32) = Int32.ofNat k.val := by decide +kernel
  exact q ⟨k, h⟩
theorem own_sub0n {k : Nat} (h : k < 16) : ¬ (Int32.ofNat k - (0 : Int32)) < Int32.ofNat k := by rw [own_sub0 h]; exact Int32.lt_irrefl
theorem own_big {k : Nat} (h : k < 16) : Int32.ofNat k < (1073741823 : Int32) := by
  have q : ∀ k : Fin 16, Int32.ofNat k.val < (1073741823 : Int32) := by decide +kernel
  exact q ⟨k, h⟩
theorem own_cod0 {k : Nat} (h : k < 6) : (Jvm.Free.XT.ushr (Int32.ofNat k - Int32.ofNat k) (31 : Int32)).toInt8.toInt32 = (0 : Int32) := by
  have q : ∀ k : Fin 6, (Jvm.Free.XT.ushr (Int32.ofNat k.val - Int32.ofNat k.val) (31 : Int32)).toInt8.toInt32 = (0 : Int32) := by decide +kernel
  exact q ⟨k, h⟩
theorem own_cod1 {k : Nat} (h0 : 0 < k) (h : k < 6) : (Jvm.Free.XT.ushr (Int32.ofNat k - Int32.ofNat (2 * k)) (31 : Int32)).toInt8.toInt32 = (1 : Int32) := by
  have q : ∀ k : Fin 6, 0 < k.val → (Jvm.Free.XT.ushr (Int32.ofNat k.val - Int32.ofNat (2 * k.val)) (31 : Int32)).toInt8.toInt32 = (1 : Int32) := by decide +kernel
  exact q ⟨k, h⟩ h0
theorem own_ext1 {p : Nat → Prop} {i : Nat} (h : ∀ j, j < i → p j) (q : p i) : ∀ j, j < i + 1 → p j := fun j hj => by
  by_cases e : j = i
  · rw [e]; exact q
  · exact h j (by omega)
/-- the first i places are as g says -/
def own_pw (n i : Nat) (g : Nat → Int32) (ds : List Value) : Prop := ds.length = n ∧ ∀ j, j < i → ds.getD j (.int 0) = .int (g j)
theorem own_pw0 {n : Nat} (g : Nat → Int32) {ds : List Value} (h : ds.length = n) : own_pw n 0 g ds := ⟨h, fun j hj => absurd hj (by omega)⟩
theorem own_pw.step {n i : Nat} {g : Nat → Int32} {ds : List Value} (h : own_pw n i g ds) (hi : i < n) {v : Int32} (hv : v = g i) : own_pw n (i + 1) g (ds.set i (.int v)) := by
  refine ⟨(List.length_set ..).trans h.1, fun j hj => ?_⟩
  by_cases q : i = j
  · subst q; rw [own_set_self (by rw [h.1]; exact hi), hv]
  · rw [own_set_ne q]; exact h.2 j (by omega)
theorem own_pw.congr {n i : Nat} {g f : Nat → Int32} {ds : List Value} (h : own_pw n i g ds) (q : ∀ j, j < i → f j = g j) : own_pw n i f ds := ⟨h.1, fun j hj => by rw [h.2 j hj, q j hj]⟩
theorem own_pw.ld {n i : Nat} {g : Nat → Int32} {ds : List Value} (h : own_pw n i g ds) {j : Nat} (hj : j < i) (h6 : j < 64) : ds.getD (Int32.ofNat j).toNatClampNeg (.int 0) = .int (g j) := by
  rw [(own_j j h6).2.1]; exact h.2 j hj
theorem own_pw.fin {n i : Nat} {g : Nat → Int32} {ds : List Value} (h : own_pw n i g ds) (hi : n ≤ i) : ds = own_l n g := by
  apply List.ext_getElem?
  intro j
  by_cases q : j < n
  · have a := h.2 j (by omega)
    have b := own_l_at g q
    rw [List.getD_eq_getElem?_getD, List.getElem?_eq_getElem (by rw [h.1]; exact q)] at a
    rw [List.getD_eq_getElem?_getD, List.getElem?_eq_getElem (by rw [own_l_len]; exact q)] at b
    rw [List.getElem?_eq_getElem (by rw [h.1]; exact q), List.getElem?_eq_getElem (by rw [own_l_len]; exact q)]
    exact congrArg some (a.trans b.symm)
  · rw [List.getElem?_eq_none (by rw [h.1]; omega), List.getElem?_eq_none (by rw [own_l_len]; omega)]
def own_lo8 (cf : Nat → Int32) (j : Nat) : Int32 := (cf j).toInt8.toInt32
def own_w (cf : Nat → Int32) (j : Nat) : Int32 := if j % 2 = 0 then own_lo (cf (j / 2)) else own_hi (cf (j / 2))
def own_infF (xf : Nat → Int32) (j : Nat) : Int32 := own_inf (xf j)
def own_getF (ef : Nat → Int32) (j : Nat) : Int32 := own_get (ef (2 * j)) (ef (2 * j + 1))
theorem own_w_e (cf : Nat → Int32) (i : Nat) : own_w cf (2 * i) = own_lo (cf i) := by
  unfold own_w
  rw [if_pos (by omega), show 2 * i / 2 = i by omega]
theorem own_w_o (cf : Nat → Int32) (i : Nat) : own_w cf (2 * i + 1) = own_hi (cf i) := by
  unfold own_w
  rw [if_neg (by omega), show (2 * i + 1) / 2 = i by omega]
theorem own_getw {cf : Nat → Int32} {i : Nat} (h : own_ch (cf i)) : own_get (own_w cf (2 * i)) (own_w cf (2 * i + 1)) = cf i := by
  rw [own_w_e, own_w_o]; exact own_getc h
theorem own_pw.step2 {n i : Nat} {cf : Nat → Int32} {ds : List Value} (h : own_pw (2 * n) (2 * i) (own_w cf) ds) (hi : i < n) : own_pw (2 * n) (2 * (i + 1)) (own_w cf) ((ds.set (2 * i) (.int (own_lo (cf i)))).set (2 * i + 1) (.int (own_hi (cf i)))) :=
  (h.step (by omega) (own_w_e cf i).symm).step (by omega) (own_w_o cf i).symm
theorem own_U_l {n : Nat} {cf : Nat → Int32} (h : ∀ j, j < n → own_ch (cf j)) : own_U n (own_l n cf) := ⟨own_l_len n cf, fun j hj => ⟨cf j, own_l_at cf hj, h j hj⟩⟩
theorem own_pn0 : plainName "java/lang/StringUTF16" = true := by first | (simp [plainName, overriddenIn]; done) | decide +kernel
theorem d7_0 : dc cd7 0 (.iconst 0) 1 := by decide +kernel
theorem d7_1 : dc cd7 1 (.istore 5) 2 := by decide +kernel
theorem d7_3 : dc cd7 3 (.iload 5) 2 := by decide +kernel
theorem d7_5 : dc cd7 5 (.iload 4) 2 := by decide +kernel
theorem d7_7 : dc cd7 7 (.if_icmp .ge 37) 3 := by decide +kernel
theorem d7_10 : dc cd7 10 (.aload_n 0) 1 := by decide +kernel
theorem d7_11 : dc cd7 11 (.iload_n 1) 1 := by decide +kernel
theorem d7_12 : dc cd7 12 .caload 1 := by decide +kernel
theorem d7_13 : dc cd7 13 (.istore 6) 2 := by decide +kernel
theorem d7_15 : dc cd7 15 (.iload 6) 2 := by decide +kernel
theorem d7_17 : dc cd7 17 (.sipush 255) 3 := by decide +kernel
theorem d7_20 : dc cd7 20 (.if_icmp .le 6) 3 := by decide +kernel
theorem d7_23 : dc cd7 23 (.iload 5) 2 := by decide +kernel
theorem d7_25 : dc cd7 25 .ireturn 1 := by decide +kernel
theorem d7_26 : dc cd7 26 (.aload_n 2) 1 := by decide +kernel
theorem d7_27 : dc cd7 27 (.iload_n 3) 1 := by decide +kernel
theorem d7_28 : dc cd7 28 (.iload 6) 2 := by decide +kernel
theorem d7_30 : dc cd7 30 .i2b 1 := by decide +kernel
theorem d7_31 : dc cd7 31 .bastore 1 := by decide +kernel
theorem d7_32 : dc cd7 32 (.iinc 1 1) 3 := by decide +kernel
theorem d7_35 : dc cd7 35 (.iinc 3 1) 3 := by decide +kernel
theorem d7_38 : dc cd7 38 (.iinc 5 1) 3 := by decide +kernel
theorem d7_41 : dc cd7 41 (.goto (-38)) 3 := by decide +kernel
theorem d7_44 : dc cd7 44 (.iload 4) 2 := by decide +kernel
theorem d7_46 : dc cd7 46 .ireturn 1 := by decide +kernel
theorem own_ef_own_cmp5 (m : MethodId) (x0 : Addr) (x2 : Addr) (x4 : Int32) : entryFrame m #[(.ref x0), (.int 0), (.ref x2), (.int 0), (.int x4)] 7 = mkF m 0 #[.val (.ref x0), .val (.int 0), .val (.ref x2), .val (.int 0), .val (.int x4), .unset, .unset] [] := by first | (simp [entryFrame, mkF, argsToLocals, Value.category]; done) | rfl
def Q_own_cmp5 (Z : State) (b : Addr) (d : Addr) (nz : Nat) (cf : Nat → Int32) (kb : ClassId) (kd : ClassId) (ds : List Value) (h0 : Heap) (n0 : Nat) (v : Option Value) (h : Heap) (L : List Loc) : Prop := ∃ rv : Int32, v = some (.int rv) ∧ Fr n0 L ∧ Keep h0 h [d] ∧ ((rv = (Int32.ofNat nz) ∧ Arv Z h d kd .byte (Int32.ofNat nz) (own_l nz (own_lo8 cf)) (.int 0) ∧ ∀ j, j < nz → ¬ (255 : Int32) < cf j) ∨ (∃ i, i < nz ∧ rv = (Int32.ofNat i) ∧ (255 : Int32) < cf i))
theorem own_cmp5 (l : Launch) (Z : State) (a0 : Array Value) (hw : ∀ d ∈ tables_1, d.before a0 Z = true) (ws : List Jvm.Cond) (b : Addr) (d : Addr) (nz : Nat) (cf : Nat → Int32) (kb : ClassId) (kd : ClassId) (ds : List Value) (h0 : Heap) (n0 : Nat) (Z0 : n0 ≤ h0.size) (g_d : n0 ≤ d) (ne_b_d : b ≠ d) (V_b : Arv Z h0 b kb .char (Int32.ofNat nz) (own_l nz cf) (.int 0)) (V_d : Arv Z h0 d kd .byte (Int32.ofNat nz) ds (.int 0)) (hl_ds : ds.length = nz) (hnz : nz < 6) :
    own_Met l Z mn0 jdk_52_method_21_code 7 (some .int) ws rm0 #[(.ref b), (.int 0), (.ref d), (.int 0), (.int (Int32.ofNat nz))] h0 (Q_own_cmp5 Z b d nz cf kb kd ds h0 n0) := by
  refine own_start (plainFor_of_name own_pn0) fun p e s m below meth c s₁ Bd hx hby hml hZ hown hnm X0 e0 => ?_
  have H := @own_hw Z a0 hw
  have D := @hb _ _ hby
  have hown : s.vm.findClass "java/lang/StringUTF16" = some m.cls := hown
  have N0 := Fr.nil n0
  have K0 := Keep.refl h0 [d]
  rw [own_ef_own_cmp5 m b d (Int32.ofNat nz)]
  refine gb s₁ m 3 #[vr b, vi 0, vr d, vi 0, vi (Int32.ofNat nz), vi 0, un] [] (fun u k => XT.iconstV X0.here hx rfl (0 : Int32) (D d7_0) (by decide) (XS.istore X0.here hx rfl (D d7_1) rfl (l' := #[vr b, vi 0, vr d, vi 0, vi (Int32.ofNat nz), vi 0, un]) rfl k)) ?_
  have loop : ∀ (d9 : Nat) (i9 : Nat) (o9 : Slot) (ds9 : List Value) (T9 : State) (L9 : List Loc), (d9 = nz - i9) → (i9 ≤ nz) → ((o9 = un ∨ ∃ v : Int32, o9 = vi v)) → (own_pw nz i9 (own_lo8 cf) ds9) → (∀ j, j < i9 → ¬ (255 : Int32) < cf j) → Stand p l e rm0 s m #[(.ref b), (.int 0), (.ref d), (.int 0), (.int (Int32.ofNat nz))] below meth c T9 L9 0 0 → Fr n0 L9 → n0 ≤ T9.heap.size → Keep h0 T9.heap [d] → Arv Z T9.heap b kb .char (Int32.ofNat nz) (own_l nz cf) (.int 0) → Arv Z T9.heap d kd .byte (Int32.ofNat nz) ds9 (.int 0) → Go p e below (own_F s below (Q_own_cmp5 Z b d nz cf kb kd ds h0 n0) rm0.cells rm0.slots) (T9.setTop (mkF m 3 #[vr b, vi (Int32.ofNat i9), vr d, vi (Int32.ofNat i9), vi (Int32.ofNat nz), vi (Int32.ofNat i9), o9] [])) := by
    intro d9
    induction d9 with
    | zero =>
      intro i9 o9 ds9 T9 L9 hd9 hi9 hs9 hP9 hb9 X9 N9 Z9 K9 G9_0 G9_1
      refine gb T9 m 46 #[vr b, vi (Int32.ofNat i9), vr d, vi (Int32.ofNat i9), vi (Int32.ofNat nz), vi (Int32.ofNat i9), o9] [(.int (Int32.ofNat nz))] (fun u k => XS.iload X9.here hx rfl (D d7_3) rfl (XS.iload X9.here hx rfl (D d7_5) rfl (XS.icmpYes X9.here hx rfl (pc0 := 7) (pc' := 44) rfl (D d7_7) rfl (XT.ii_ge_t (own_nlt (by omega) (by omega))) (by decide) (by decide) (XS.iload X9.here hx rfl (D d7_44) rfl k)))) ?_
      have VF : Arv Z T9.heap d kd .byte (Int32.ofNat nz) (own_l nz (own_lo8 cf)) (.int 0) := by rw [← hP9.fin (by omega)]; exact G9_1
      have hb9 := fun j (q : j < nz) => hb9 j (by omega)
      obtain ⟨fs, hr, hrun, hended, hW, hsame⟩ := X9.leave (v := some (.int (Int32.ofNat nz))) (fun h => by rw [Bd.returns] at h; cases h)
      refine ⟨_, _, retI X9 hx Bd.returns (D d7_46) hr, hrun, hended, _, _, rfl, ?_, ⟨_, rfl⟩, hW, hsame.mono (by decide) (by decide)⟩
      show Q_own_cmp5 Z b d nz cf kb kd ds h0 n0 _ T9.heap _
      exact ⟨(Int32.ofNat nz), rfl, N9, K9, Or.inl ⟨rfl, VF, hb9⟩⟩
    | succ d9 ih9 =>
      intro i9 o9 ds9 T9 L9 hd9 hi9 hs9 hP9 hb9 X9 N9 Z9 K9 G9_0 G9_1
      refine gb T9 m 12 #[vr b, vi (Int32.ofNat i9), vr d, vi (Int32.ofNat i9), vi (Int32.ofNat nz), vi (Int32.ofNat i9), o9] [(.int (Int32.ofNat i9)), (.ref b)] (fun u k => XS.iload X9.here hx rfl (D d7_3) rfl (XS.iload X9.here hx rfl (D d7_5) rfl (XS.icmpNo X9.here hx rfl (D d7_7) rfl (XT.ii_ge_f (own_ilt (by omega) (by omega))) (XS.aloadN X9.here hx rfl (D d7_10) rfl rfl (XS.iloadN X9.here hx rfl (D d7_11) rfl k))))) ?_
      obtain ⟨cl1, Ar1, aq1, aS1, aM1, aH1, aG1⟩ := id G9_0
      refine gb T9 m 13 #[vr b, vi (Int32.ofNat i9), vr d, vi (Int32.ofNat i9), vi (Int32.ofNat nz), vi (Int32.ofNat i9), o9] [(.int (cf i9))] (fun u k => X9.caload hx (j := (Int32.ofNat i9)) (v := (.int (cf i9))) Ar1.1 (State.isArrayOf_alike hZ.alike Ar1.2.1) Ar1.2.2 (inb_of aS1 (own_ib (by omega) (by omega))) (Has.at aH1 (inb_of aS1 (own_ib (by omega) (by omega))) (own_ld _ (by omega) (by omega))) (g := (mkF m 12 #[vr b, vi (Int32.ofNat i9), vr d, vi (Int32.ofNat i9), vi (Int32.ofNat nz), vi (Int32.ofNat i9), o9] [(.int (Int32.ofNat i9)), (.ref b)])) rfl rfl (D d7_12) _ k) ?_
      refine gb T9 m 15 #[vr b, vi (Int32.ofNat i9), vr d, vi (Int32.ofNat i9), vi (Int32.ofNat nz), vi (Int32.ofNat i9), vi (cf i9)] [] (fun u k => by rcases hs9 with rfl | ⟨v9, rfl⟩ <;> exact XS.istore X9.here hx rfl (D d7_13) rfl (l' := #[vr b, vi (Int32.ofNat i9), vr d, vi (Int32.ofNat i9), vi (Int32.ofNat nz), vi (Int32.ofNat i9), vi (cf i9)]) rfl k) ?_
      refine gb T9 m 20 #[vr b, vi (Int32.ofNat i9), vr d, vi (Int32.ofNat i9), vi (Int32.ofNat nz), vi (Int32.ofNat i9), vi (cf i9)] [(.int 255), (.int (cf i9))] (fun u k => XS.iload X9.here hx rfl (D d7_15) rfl (XT.sipushV X9.here hx rfl (255 : Int32) (D d7_17) (by decide) k)) ?_
      by_cases hgt : (255 : Int32) < (cf i9)
      · refine gb T9 m 25 #[vr b, vi (Int32.ofNat i9), vr d, vi (Int32.ofNat i9), vi (Int32.ofNat nz), vi (Int32.ofNat i9), vi (cf i9)] [(.int (Int32.ofNat i9))] (fun u k => XS.icmpNo X9.here hx rfl (D d7_20) rfl (XT.ii_le_f hgt) (XS.iload X9.here hx rfl (D d7_23) rfl k)) ?_
        obtain ⟨fs, hr, hrun, hended, hW, hsame⟩ := X9.leave (v := some (.int (Int32.ofNat i9))) (fun h => by rw [Bd.returns] at h; cases h)
        refine ⟨_, _, retI X9 hx Bd.returns (D d7_25) hr, hrun, hended, _, _, rfl, ?_, ⟨_, rfl⟩, hW, hsame.mono (by decide) (by decide)⟩
        show Q_own_cmp5 Z b d nz cf kb kd ds h0 n0 _ T9.heap _
        exact ⟨(Int32.ofNat i9), rfl, N9, K9, Or.inr ⟨i9, by omega, rfl, hgt⟩⟩
      · refine gb T9 m 31 #[vr b, vi (Int32.ofNat i9), vr d, vi (Int32.ofNat i9), vi (Int32.ofNat nz), vi (Int32.ofNat i9), vi (cf i9)] [(.int ((cf i9).toInt8.toInt32)), (.int (Int32.ofNat i9)), (.ref d)] (fun u k => XS.icmpYes X9.here hx rfl (pc0 := 20) (pc' := 26) rfl (D d7_20) rfl (XT.ii_le_t hgt) (by decide) (by decide) (XS.aloadN X9.here hx rfl (D d7_26) rfl rfl (XS.iloadN X9.here hx rfl (D d7_27) rfl (XS.iload X9.here hx rfl (D d7_28) rfl (XT.i2b X9.here hx rfl (D d7_30) rfl k))))) ?_
        obtain ⟨cl3, Ar3, aq3, aS3, aM3, aH3, aG3⟩ := id G9_1
        obtain ⟨T4, h4, X4, e4, W4, st4⟩ := stB X9 hx hZ rfl Ar3 (j := (Int32.ofNat i9)) (inb_of aS3 (own_ib (by omega) (by omega))) (g := (mkF m 31 #[vr b, vi (Int32.ofNat i9), vr d, vi (Int32.ofNat i9), vi (Int32.ofNat nz), vi (Int32.ofNat i9), vi (cf i9)] [(.int ((cf i9).toInt8.toInt32)), (.int (Int32.ofNat i9)), (.ref d)])) rfl rfl (D d7_31)
        have Z4 : n0 ≤ h4.size := Nat.le_trans Z9 (Keep.of_wr W4).1
        have K4 := K9.wr W4 (Or.inl (List.mem_of_getElem? (i := 0) rfl))
        have N4 := Fr.snoc X4 N9 g_d
        have V4 : Arv Z h4 d kd .byte (Int32.ofNat nz) (ds9.set i9 (.int ((cf i9).toInt8.toInt32).toInt8.toInt32)) (.int 0) := Arv.set Ar3 aq3 aS3 aM3 aH3 aG3 (fits_nar_byte _) W4 (i9) (own_j i9 (by omega)).2.1 (by rw [hP9.1]; omega)
        rw [own_i8 (cf i9)] at V4
        refine gb T4 m 32 #[vr b, vi (Int32.ofNat i9), vr d, vi (Int32.ofNat i9), vi (Int32.ofNat nz), vi (Int32.ofNat i9), vi (cf i9)] [] st4 ?_
        clear st4
        refine gb T4 m 3 #[vr b, vi ((Int32.ofNat i9) + (1 : Int32)), vr d, vi ((Int32.ofNat i9) + (1 : Int32)), vi (Int32.ofNat nz), vi ((Int32.ofNat i9) + (1 : Int32)), vi (cf i9)] [] (fun u k => XT.iincV X4.here hx rfl (1 : Int32) (D d7_32) (by decide) rfl (l' := #[vr b, vi ((Int32.ofNat i9) + (1 : Int32)), vr d, vi (Int32.ofNat i9), vi (Int32.ofNat nz), vi (Int32.ofNat i9), vi (cf i9)]) rfl (XT.iincV X4.here hx rfl (1 : Int32) (D d7_35) (by decide) rfl (l' := #[vr b, vi ((Int32.ofNat i9) + (1 : Int32)), vr d, vi ((Int32.ofNat i9) + (1 : Int32)), vi (Int32.ofNat nz), vi (Int32.ofNat i9), vi (cf i9)]) rfl (XT.iincV X4.here hx rfl (1 : Int32) (D d7_38) (by decide) rfl (l' := #[vr b, vi ((Int32.ofNat i9) + (1 : Int32)), vr d, vi ((Int32.ofNat i9) + (1 : Int32)), vi (Int32.ofNat nz), vi ((Int32.ofNat i9) + (1 : Int32)), vi (cf i9)]) rfl (XS.goto X4.here hx rfl (pc0 := 41) (pc' := 3) rfl (D d7_41) (by decide) (by decide) k)))) ?_
        have rw5 : ((Int32.ofNat i9) + (1 : Int32)) = (Int32.ofNat (i9 + 1)) := (own_j i9 (by omega)).2.2
        rw [rw5]
        have f6 := (G9_0.other W4 ne_b_d)
        subst e4
        exact ih9 (i9 + 1) (.val (.int (cf i9))) _ T4 _ (by omega) (by omega) (Or.inr ⟨_, rfl⟩) (hP9.step (by omega) rfl) (own_ext1 hb9 hgt) X4 N4 Z4 K4 f6 V4 
  show Go p e below (own_F s below (Q_own_cmp5 Z b d nz cf kb kd ds h0 n0) rm0.cells rm0.slots) (s₁.setTop (mkF m 3 #[vr b, vi (Int32.ofNat 0), vr d, vi (Int32.ofNat 0), vi (Int32.ofNat nz), vi (Int32.ofNat 0), un] []))
  subst e0
  exact loop nz 0 .unset ds s₁ _ rfl (by omega) (Or.inl rfl) (own_pw0 _ hl_ds) (fun j hj => absurd hj (by omega)) X0 N0 Z0 K0 V_b V_d 
theorem d37_0 : dc cd37 0 (.getstatic 44) 3 := by decide +kernel
theorem d37_3 : dc cd37 3 (.ifCond .ne 25) 3 := by decide +kernel
theorem d37_28 : dc cd37 28 (.iload_n 1) 1 := by decide +kernel
theorem d37_29 : dc cd37 29 (.iconst 1) 1 := by decide +kernel
theorem d37_30 : dc cd37 30 .ishl 1 := by decide +kernel
theorem d37_31 : dc cd37 31 (.istore_n 1) 1 := by decide +kernel
theorem d37_32 : dc cd37 32 (.aload_n 0) 1 := by decide +kernel
theorem d37_33 : dc cd37 33 (.iload_n 1) 1 := by decide +kernel
theorem d37_34 : dc cd37 34 (.iinc 1 1) 3 := by decide +kernel
theorem d37_37 : dc cd37 37 (.iload_n 2) 1 := by decide +kernel
theorem d37_38 : dc cd37 38 (.getstatic 59) 3 := by decide +kernel
theorem d37_41 : dc cd37 41 .ishr 1 := by decide +kernel
theorem d37_42 : dc cd37 42 .i2b 1 := by decide +kernel
theorem d37_43 : dc cd37 43 .bastore 1 := by decide +kernel
theorem d37_44 : dc cd37 44 (.aload_n 0) 1 := by decide +kernel
theorem d37_45 : dc cd37 45 (.iload_n 1) 1 := by decide +kernel
theorem d37_46 : dc cd37 46 (.iload_n 2) 1 := by decide +kernel
theorem d37_47 : dc cd37 47 (.getstatic 63) 3 := by decide +kernel
theorem d37_50 : dc cd37 50 .ishr 1 := by decide +kernel
theorem d37_51 : dc cd37 51 .i2b 1 := by decide +kernel
theorem d37_52 : dc cd37 52 .bastore 1 := by decide +kernel
theorem d37_53 : dc cd37 53 .return_ 1 := by decide +kernel
theorem own_ef_own_pchr (m : MethodId) (x0 : Addr) (x1 : Int32) (x2 : Int32) : entryFrame m #[(.ref x0), (.int x1), (.int x2)] 3 = mkF m 0 #[.val (.ref x0), .val (.int x1), .val (.int x2)] [] := by first | (simp [entryFrame, mkF, argsToLocals, Value.category]; done) | rfl
def Q_own_pchr (Z : State) (d : Addr) (cc : Int32) (nz : Nat) (iz : Nat) (kd : ClassId) (ds : List Value) (h0 : Heap) (n0 : Nat) (v : Option Value) (h : Heap) (L : List Loc) : Prop := v = none ∧ Fr n0 L ∧ Keep h0 h [d] ∧ Arv Z h d kd .byte (Int32.ofNat (2 * nz)) ((ds.set (2 * iz) (.int (own_lo cc))).set (2 * iz + 1) (.int (own_hi cc))) (.int 0)
theorem own_pchr (l : Launch) (Z : State) (a0 : Array Value) (hw : ∀ d ∈ tables_1, d.before a0 Z = true) (ws : List Jvm.Cond) (d : Addr) (cc : Int32) (nz : Nat) (iz : Nat) (kd : ClassId) (ds : List Value) (h0 : Heap) (n0 : Nat) (Z0 : n0 ≤ h0.size) (g_d : n0 ≤ d) (Old0 : Old Z n0 h0) (Sa : Sta Z Z.heap "java/lang/StringUTF16" "$assertionsDisabled" "Z" (.int 1)) (SHI : Sta Z Z.heap "java/lang/StringUTF16" "HI_BYTE_SHIFT" "I" (.int 0)) (SLO : Sta Z Z.heap "java/lang/StringUTF16" "LO_BYTE_SHIFT" "I" (.int 8)) (V_d : Arv Z h0 d kd .byte (Int32.ofNat (2 * nz)) ds (.int 0)) (hl_ds : ds.length = 2 * nz) (hnz : nz < 6) (hiz : iz < nz) :
    own_Met l Z mn1 jdk_52_method_4_code 3 none ws rm0 #[(.ref d), (.int (Int32.ofNat iz)), (.int cc)] h0 (Q_own_pchr Z d cc nz iz kd ds h0 n0) := by
  refine own_start (plainFor_of_name own_pn0) fun p e s m below meth c s₁ Bd hx hby hml hZ hown hnm X0 e0 => ?_
  have H := @own_hw Z a0 hw
  have D := @hb _ _ hby
  have hown : s.vm.findClass "java/lang/StringUTF16" = some m.cls := hown
  have N0 := Fr.nil n0
  have K0 := Keep.refl h0 [d]
  rw [own_ef_own_pchr m d (Int32.ofNat iz) cc]
  obtain ⟨T1, X1, e1, st1⟩ := getS2 X0 hx hZ hown (host := "") (Or.inl (H 223 rfl)) Via.refl e0 (Sa.ext Old0.2) (g := (mkF m 0 #[vr d, vi (Int32.ofNat iz), vi cc] [])) rfl (D d37_0)
  refine gb T1 m 3 #[vr d, vi (Int32.ofNat iz), vi cc] [(.int 1)] st1 ?_
  clear st1
  refine gb T1 m 31 #[vr d, vi (Int32.ofNat iz), vi cc] [(.int ((Int32.ofNat iz) <<< ((1 : Int32) &&& 31)))] (fun u k => XS.ifYes X1.here hx rfl (pc0 := 3) (pc' := 28) rfl (D d37_3) rfl (XT.i0_ne_t (by decide)) (by decide) (by decide) (XS.iloadN X1.here hx rfl (D d37_28) rfl (XT.iconstV X1.here hx rfl (1 : Int32) (D d37_29) (by decide) (XT.ishl X1.here hx rfl (D d37_30) rfl k)))) ?_
  have rw2 : ((Int32.ofNat iz) <<< ((1 : Int32) &&& 31)) = (Int32.ofNat (2 * iz)) := own_shl1 (by omega)
  rw [rw2]
  refine gb T1 m 38 #[vr d, vi ((Int32.ofNat (2 * iz)) + (1 : Int32)), vi cc] [(.int cc), (.int (Int32.ofNat (2 * iz))), (.ref d)] (fun u k => XS.istoreN X1.here hx rfl (D d37_31) rfl (l' := #[vr d, vi (Int32.ofNat (2 * iz)), vi cc]) rfl (XS.aloadN X1.here hx rfl (D d37_32) rfl rfl (XS.iloadN X1.here hx rfl (D d37_33) rfl (XT.iincV X1.here hx rfl (1 : Int32) (D d37_34) (by decide) rfl (l' := #[vr d, vi ((Int32.ofNat (2 * iz)) + (1 : Int32)), vi cc]) rfl (XS.iloadN X1.here hx rfl (D d37_37) rfl k))))) ?_
  obtain ⟨T3, X3, e3, st3⟩ := getS2 X1 hx hZ hown (host := "") (Or.inl (H 224 rfl)) Via.refl e1 (SHI.ext Old0.2) (g := (mkF m 38 #[vr d, vi ((Int32.ofNat (2 * iz)) + (1 : Int32)), vi cc] [(.int cc), (.int (Int32.ofNat (2 * iz))), (.ref d)])) rfl (D d37_38)
  refine gb T3 m 41 #[vr d, vi ((Int32.ofNat (2 * iz)) + (1 : Int32)), vi cc] [(.int 0), (.int cc), (.int (Int32.ofNat (2 * iz))), (.ref d)] st3 ?_
  clear st3
  refine gb T3 m 43 #[vr d, vi ((Int32.ofNat (2 * iz)) + (1 : Int32)), vi cc] [(.int ((cc >>> ((0 : Int32) &&& 31)).toInt8.toInt32)), (.int (Int32.ofNat (2 * iz))), (.ref d)] (fun u k => XT.ishr X3.here hx rfl (D d37_41) rfl (XT.i2b X3.here hx rfl (D d37_42) rfl k)) ?_
  have rw4 : ((Int32.ofNat (2 * iz)) + (1 : Int32)) = (Int32.ofNat (2 * iz + 1)) := (own_j (2 * iz) (by omega)).2.2
  rw [rw4]
  obtain ⟨cl5, Ar5, aq5, aS5, aM5, aH5, aG5⟩ := id V_d
  obtain ⟨T6, h6, X6, e6, W6, st6⟩ := stB X3 hx hZ e3 Ar5 (j := (Int32.ofNat (2 * iz))) (inb_of aS5 (own_ib (by omega) (by omega))) (g := (mkF m 43 #[vr d, vi (Int32.ofNat (2 * iz + 1)), vi cc] [(.int ((cc >>> ((0 : Int32) &&& 31)).toInt8.toInt32)), (.int (Int32.ofNat (2 * iz))), (.ref d)])) rfl rfl (D d37_43)
  have Z6 : n0 ≤ h6.size := Nat.le_trans Z0 (Keep.of_wr W6).1
  have K6 := K0.wr W6 (Or.inl (List.mem_of_getElem? (i := 0) rfl))
  have N6 := Fr.snoc X6 N0 g_d
  have O6 := Old0.wr W6 g_d
  have V6 : Arv Z h6 d kd .byte (Int32.ofNat (2 * nz)) (ds.set (2 * iz) (.int ((cc >>> ((0 : Int32) &&& 31)).toInt8.toInt32).toInt8.toInt32)) (.int 0) := Arv.set Ar5 aq5 aS5 aM5 aH5 aG5 (fits_nar_byte _) W6 ((2 * iz)) (own_j (2 * iz) (by omega)).2.1 (by rw [hl_ds]; omega)
  rw [own_i8 (cc >>> ((0 : Int32) &&& 31))] at V6
  refine gb T6 m 44 #[vr d, vi (Int32.ofNat (2 * iz + 1)), vi cc] [] st6 ?_
  clear st6
  refine gb T6 m 47 #[vr d, vi (Int32.ofNat (2 * iz + 1)), vi cc] [(.int cc), (.int (Int32.ofNat (2 * iz + 1))), (.ref d)] (fun u k => XS.aloadN X6.here hx rfl (D d37_44) rfl rfl (XS.iloadN X6.here hx rfl (D d37_45) rfl (XS.iloadN X6.here hx rfl (D d37_46) rfl k))) ?_
  obtain ⟨T7, X7, e7, st7⟩ := getS2 X6 hx hZ hown (host := "") (Or.inl (H 225 rfl)) Via.refl e6 (SLO.ext O6.2) (g := (mkF m 47 #[vr d, vi (Int32.ofNat (2 * iz + 1)), vi cc] [(.int cc), (.int (Int32.ofNat (2 * iz + 1))), (.ref d)])) rfl (D d37_47)
  refine gb T7 m 50 #[vr d, vi (Int32.ofNat (2 * iz + 1)), vi cc] [(.int 8), (.int cc), (.int (Int32.ofNat (2 * iz + 1))), (.ref d)] st7 ?_
  clear st7
  refine gb T7 m 52 #[vr d, vi (Int32.ofNat (2 * iz + 1)), vi cc] [(.int ((cc >>> ((8 : Int32) &&& 31)).toInt8.toInt32)), (.int (Int32.ofNat (2 * iz + 1))), (.ref d)] (fun u k => XT.ishr X7.here hx rfl (D d37_50) rfl (XT.i2b X7.here hx rfl (D d37_51) rfl k)) ?_
  obtain ⟨cl8, Ar8, aq8, aS8, aM8, aH8, aG8⟩ := id V6
  obtain ⟨T9, h9, X9, e9, W9, st9⟩ := stB X7 hx hZ e7 Ar8 (j := (Int32.ofNat (2 * iz + 1))) (inb_of aS8 (own_ib (by omega) (by omega))) (g := (mkF m 52 #[vr d, vi (Int32.ofNat (2 * iz + 1)), vi cc] [(.int ((cc >>> ((8 : Int32) &&& 31)).toInt8.toInt32)), (.int (Int32.ofNat (2 * iz + 1))), (.ref d)])) rfl rfl (D d37_52)
  have Z9 : n0 ≤ h9.size := Nat.le_trans Z6 (Keep.of_wr W9).1
  have K9 := K6.wr W9 (Or.inl (List.mem_of_getElem? (i := 0) rfl))
  have N9 := Fr.snoc X9 N6 g_d
  have O9 := O6.wr W9 g_d
  have V9 : Arv Z h9 d kd .byte (Int32.ofNat (2 * nz)) ((ds.set (2 * iz) (.int ((cc >>> ((0 : Int32) &&& 31)).toInt8.toInt32))).set (2 * iz + 1) (.int ((cc >>> ((8 : Int32) &&& 31)).toInt8.toInt32).toInt8.toInt32)) (.int 0) := Arv.set Ar8 aq8 aS8 aM8 aH8 aG8 (fits_nar_byte _) W9 ((2 * iz + 1)) (own_j (2 * iz + 1) (by omega)).2.1 (by rw [((List.length_set ..).trans hl_ds)]; omega)
  rw [own_i8 (cc >>> ((8 : Int32) &&& 31))] at V9
  refine gb T9 m 53 #[vr d, vi (Int32.ofNat (2 * iz + 1)), vi cc] [] st9 ?_
  clear st9
  have VF : Arv Z h9 d kd .byte (Int32.ofNat (2 * nz)) ((ds.set (2 * iz) (.int (own_lo cc))).set (2 * iz + 1) (.int (own_hi cc))) (.int 0) := V9
  obtain ⟨fs, hr, hrun, hended, hW, hsame⟩ := X9.leave (v := none) (fun _ => rfl)
  refine ⟨_, _, X9.returnOut hx Bd.returns (D d37_53) hr, hrun, hended, _, _, rfl, ?_, ⟨_, rfl⟩, hW, hsame.mono (by decide) (by decide)⟩
  show Q_own_pchr Z d cc nz iz kd ds h0 n0 _ T9.heap _
  rw [e9]
  exact ⟨rfl, N9, K9, VF⟩
theorem d38_0 : dc cd38 0 (.getstatic 44) 3 := by decide +kernel
theorem d38_3 : dc cd38 3 (.ifCond .ne 25) 3 := by decide +kernel
theorem d38_28 : dc cd38 28 (.iload_n 1) 1 := by decide +kernel
theorem d38_29 : dc cd38 29 (.iconst 1) 1 := by decide +kernel
theorem d38_30 : dc cd38 30 .ishl 1 := by decide +kernel
theorem d38_31 : dc cd38 31 (.istore_n 1) 1 := by decide +kernel
theorem d38_32 : dc cd38 32 (.aload_n 0) 1 := by decide +kernel
theorem d38_33 : dc cd38 33 (.iload_n 1) 1 := by decide +kernel
theorem d38_34 : dc cd38 34 (.iinc 1 1) 3 := by decide +kernel
theorem d38_37 : dc cd38 37 .baload 1 := by decide +kernel
theorem d38_38 : dc cd38 38 (.sipush 255) 3 := by decide +kernel
theorem d38_41 : dc cd38 41 .iand 1 := by decide +kernel
theorem d38_42 : dc cd38 42 (.getstatic 59) 3 := by decide +kernel
theorem d38_45 : dc cd38 45 .ishl 1 := by decide +kernel
theorem d38_46 : dc cd38 46 (.aload_n 0) 1 := by decide +kernel
theorem d38_47 : dc cd38 47 (.iload_n 1) 1 := by decide +kernel
theorem d38_48 : dc cd38 48 .baload 1 := by decide +kernel
theorem d38_49 : dc cd38 49 (.sipush 255) 3 := by decide +kernel
theorem d38_52 : dc cd38 52 .iand 1 := by decide +kernel
theorem d38_53 : dc cd38 53 (.getstatic 63) 3 := by decide +kernel
theorem d38_56 : dc cd38 56 .ishl 1 := by decide +kernel
theorem d38_57 : dc cd38 57 .ior 1 := by decide +kernel
theorem d38_58 : dc cd38 58 .i2c 1 := by decide +kernel
theorem d38_59 : dc cd38 59 .ireturn 1 := by decide +kernel
theorem own_ef_own_gchr (m : MethodId) (x0 : Addr) (x1 : Int32) : entryFrame m #[(.ref x0), (.int x1)] 2 = mkF m 0 #[.val (.ref x0), .val (.int x1)] [] := by first | (simp [entryFrame, mkF, argsToLocals, Value.category]; done) | rfl
def Q_own_gchr (Z : State) (d : Addr) (nz : Nat) (iz : Nat) (ef : Nat → Int32) (kd : ClassId) (h0 : Heap) (n0 : Nat) (v : Option Value) (h : Heap) (L : List Loc) : Prop := v = some (.int (own_get (ef (2 * iz)) (ef (2 * iz + 1)))) ∧ Fr n0 L ∧ h = h0
theorem own_gchr (l : Launch) (Z : State) (a0 : Array Value) (hw : ∀ d ∈ tables_1, d.before a0 Z = true) (ws : List Jvm.Cond) (d : Addr) (nz : Nat) (iz : Nat) (ef : Nat → Int32) (kd : ClassId) (h0 : Heap) (n0 : Nat) (Z0 : n0 ≤ h0.size) (Old0 : Old Z n0 h0) (Sa : Sta Z Z.heap "java/lang/StringUTF16" "$assertionsDisabled" "Z" (.int 1)) (SHI : Sta Z Z.heap "java/lang/StringUTF16" "HI_BYTE_SHIFT" "I" (.int 0)) (SLO : Sta Z Z.heap "java/lang/StringUTF16" "LO_BYTE_SHIFT" "I" (.int 8)) (V_d : Arv Z h0 d kd .byte (Int32.ofNat (2 * nz)) (own_l (2 * nz) ef) (.int 0)) (hnz : nz < 6) (hiz : iz < nz) :
    own_Met l Z mn2 jdk_52_method_5_code 2 (some .char) ws rm0 #[(.ref d), (.int (Int32.ofNat iz))] h0 (Q_own_gchr Z d nz iz ef kd h0 n0) := by
  refine own_start (plainFor_of_name own_pn0) fun p e s m below meth c s₁ Bd hx hby hml hZ hown hnm X0 e0 => ?_
  have H := @own_hw Z a0 hw
  have D := @hb _ _ hby
  have hown : s.vm.findClass "java/lang/StringUTF16" = some m.cls := hown
  have N0 := Fr.nil n0
  have K0 := Keep.refl h0 []
  rw [own_ef_own_gchr m d (Int32.ofNat iz)]
  obtain ⟨T1, X1, e1, st1⟩ := getS2 X0 hx hZ hown (host := "") (Or.inl (H 223 rfl)) Via.refl e0 (Sa.ext Old0.2) (g := (mkF m 0 #[vr d, vi (Int32.ofNat iz)] [])) rfl (D d38_0)
  refine gb T1 m 3 #[vr d, vi (Int32.ofNat iz)] [(.int 1)] st1 ?_
  clear st1
  refine gb T1 m 31 #[vr d, vi (Int32.ofNat iz)] [(.int ((Int32.ofNat iz) <<< ((1 : Int32) &&& 31)))] (fun u k => XS.ifYes X1.here hx rfl (pc0 := 3) (pc' := 28) rfl (D d38_3) rfl (XT.i0_ne_t (by decide)) (by decide) (by decide) (XS.iloadN X1.here hx rfl (D d38_28) rfl (XT.iconstV X1.here hx rfl (1 : Int32) (D d38_29) (by decide) (XT.ishl X1.here hx rfl (D d38_30) rfl k)))) ?_
  have rw2 : ((Int32.ofNat iz) <<< ((1 : Int32) &&& 31)) = (Int32.ofNat (2 * iz)) := own_shl1 (by omega)
  rw [rw2]
  refine gb T1 m 37 #[vr d, vi ((Int32.ofNat (2 * iz)) + (1 : Int32))] [(.int (Int32.ofNat (2 * iz))), (.ref d)] (fun u k => XS.istoreN X1.here hx rfl (D d38_31) rfl (l' := #[vr d, vi (Int32.ofNat (2 * iz))]) rfl (XS.aloadN X1.here hx rfl (D d38_32) rfl rfl (XS.iloadN X1.here hx rfl (D d38_33) rfl (XT.iincV X1.here hx rfl (1 : Int32) (D d38_34) (by decide) rfl (l' := #[vr d, vi ((Int32.ofNat (2 * iz)) + (1 : Int32))]) rfl k)))) ?_
  have rw3 : ((Int32.ofNat (2 * iz)) + (1 : Int32)) = (Int32.ofNat (2 * iz + 1)) := (own_j (2 * iz) (by omega)).2.2
  rw [rw3]
  obtain ⟨cl4, Ar4, aq4, aS4, aM4, aH4, aG4⟩ := id V_d
  refine gb T1 m 42 #[vr d, vi (Int32.ofNat (2 * iz + 1))] [(.int ((ef (2 * iz)) &&& (255 : Int32)))] (fun u k => X1.baloadBytes hx (j := (Int32.ofNat (2 * iz))) (v := (.int (ef (2 * iz)))) (by rw [e1]; exact Ar4.1) (State.isArrayOf_alike hZ.alike Ar4.2.1) Ar4.2.2 (inb_of aS4 (own_ib (by omega) (by omega))) (Has.at aH4 (inb_of aS4 (own_ib (by omega) (by omega))) (own_ld _ (by omega) (by omega))) (g := (mkF m 37 #[vr d, vi (Int32.ofNat (2 * iz + 1))] [(.int (Int32.ofNat (2 * iz))), (.ref d)])) rfl rfl (D d38_37) _ (XT.sipushV X1.here hx rfl (255 : Int32) (D d38_38) (by decide) (XS.iand X1.here hx rfl (D d38_41) rfl k))) ?_
  obtain ⟨T5, X5, e5, st5⟩ := getS2 X1 hx hZ hown (host := "") (Or.inl (H 224 rfl)) Via.refl e1 (SHI.ext Old0.2) (g := (mkF m 42 #[vr d, vi (Int32.ofNat (2 * iz + 1))] [(.int ((ef (2 * iz)) &&& (255 : Int32)))])) rfl (D d38_42)
  refine gb T5 m 45 #[vr d, vi (Int32.ofNat (2 * iz + 1))] [(.int 0), (.int ((ef (2 * iz)) &&& (255 : Int32)))] st5 ?_
  clear st5
  refine gb T5 m 48 #[vr d, vi (Int32.ofNat (2 * iz + 1))] [(.int (Int32.ofNat (2 * iz + 1))), (.ref d), (.int (((ef (2 * iz)) &&& (255 : Int32)) <<< ((0 : Int32) &&& 31)))] (fun u k => XT.ishl X5.here hx rfl (D d38_45) rfl (XS.aloadN X5.here hx rfl (D d38_46) rfl rfl (XS.iloadN X5.here hx rfl (D d38_47) rfl k))) ?_
  obtain ⟨cl6, Ar6, aq6, aS6, aM6, aH6, aG6⟩ := id V_d
  refine gb T5 m 53 #[vr d, vi (Int32.ofNat (2 * iz + 1))] [(.int ((ef (2 * iz + 1)) &&& (255 : Int32))), (.int (((ef (2 * iz)) &&& (255 : Int32)) <<< ((0 : Int32) &&& 31)))] (fun u k => X5.baloadBytes hx (j := (Int32.ofNat (2 * iz + 1))) (v := (.int (ef (2 * iz + 1)))) (by rw [e5]; exact Ar6.1) (State.isArrayOf_alike hZ.alike Ar6.2.1) Ar6.2.2 (inb_of aS6 (own_ib (by omega) (by omega))) (Has.at aH6 (inb_of aS6 (own_ib (by omega) (by omega))) (own_ld _ (by omega) (by omega))) (g := (mkF m 48 #[vr d, vi (Int32.ofNat (2 * iz + 1))] [(.int (Int32.ofNat (2 * iz + 1))), (.ref d), (.int (((ef (2 * iz)) &&& (255 : Int32)) <<< ((0 : Int32) &&& 31)))])) rfl rfl (D d38_48) _ (XT.sipushV X5.here hx rfl (255 : Int32) (D d38_49) (by decide) (XS.iand X5.here hx rfl (D d38_52) rfl k))) ?_
  obtain ⟨T7, X7, e7, st7⟩ := getS2 X5 hx hZ hown (host := "") (Or.inl (H 225 rfl)) Via.refl e5 (SLO.ext Old0.2) (g := (mkF m 53 #[vr d, vi (Int32.ofNat (2 * iz + 1))] [(.int ((ef (2 * iz + 1)) &&& (255 : Int32))), (.int (((ef (2 * iz)) &&& (255 : Int32)) <<< ((0 : Int32) &&& 31)))])) rfl (D d38_53)
  refine gb T7 m 56 #[vr d, vi (Int32.ofNat (2 * iz + 1))] [(.int 8), (.int ((ef (2 * iz + 1)) &&& (255 : Int32))), (.int (((ef (2 * iz)) &&& (255 : Int32)) <<< ((0 : Int32) &&& 31)))] st7 ?_
  clear st7
  refine gb T7 m 59 #[vr d, vi (Int32.ofNat (2 * iz + 1))] [(.int (((((ef (2 * iz)) &&& (255 : Int32)) <<< ((0 : Int32) &&& 31)) ||| (((ef (2 * iz + 1)) &&& (255 : Int32)) <<< ((8 : Int32) &&& 31))).toUInt32.toUInt16.toUInt32.toInt32))] (fun u k => XT.ishl X7.here hx rfl (D d38_56) rfl (XT.ior X7.here hx rfl (D d38_57) rfl (XT.i2c X7.here hx rfl (D d38_58) rfl k))) ?_
  obtain ⟨fs, hr, hrun, hended, hW, hsame⟩ := X7.leave (v := some (.int (nar .char (((((ef (2 * iz)) &&& (255 : Int32)) <<< ((0 : Int32) &&& 31)) ||| (((ef (2 * iz + 1)) &&& (255 : Int32)) <<< ((8 : Int32) &&& 31))).toUInt32.toUInt16.toUInt32.toInt32)))) (fun h => by rw [Bd.returns] at h; cases h)
  refine ⟨_, _, retN X7 hx (t := .char) Bd.returns (by simp) (D d38_59) hr, hrun, hended, _, _, rfl, ?_, ⟨_, rfl⟩, hW, hsame.mono (by decide) (by decide)⟩
  show Q_own_gchr Z d nz iz ef kd h0 n0 _ T7.heap _
  rw [e7]
  exact ⟨(congrArg (fun z => some (Value.int z)) (own_cc ((((ef (2 * iz)) &&& (255 : Int32)) <<< ((0 : Int32) &&& 31)) ||| (((ef (2 * iz + 1)) &&& (255 : Int32)) <<< ((8 : Int32) &&& 31))))), N0, rfl⟩
theorem d36_0 : dc cd36 0 (.iload_n 0) 1 := by decide +kernel
theorem d36_1 : dc cd36 1 (.ifCond .ge 11) 3 := by decide +kernel
theorem d36_12 : dc cd36 12 (.iload_n 0) 1 := by decide +kernel
theorem d36_13 : dc cd36 13 (.ldc 20) 2 := by decide +kernel
theorem d36_15 : dc cd36 15 (.if_icmp .lt 40) 3 := by decide +kernel
theorem d36_55 : dc cd36 55 (.iload_n 0) 1 := by decide +kernel
theorem d36_56 : dc cd36 56 (.iconst 1) 1 := by decide +kernel
theorem d36_57 : dc cd36 57 .ishl 1 := by decide +kernel
theorem d36_58 : dc cd36 58 .ireturn 1 := by decide +kernel
theorem own_ef_own_nbl (m : MethodId) (x0 : Int32) : entryFrame m #[(.int x0)] 1 = mkF m 0 #[.val (.int x0)] [] := by first | (simp [entryFrame, mkF, argsToLocals, Value.category]; done) | rfl
def Q_own_nbl (Z : State) (nz : Nat) (h0 : Heap) (n0 : Nat) (v : Option Value) (h : Heap) (L : List Loc) : Prop := v = some (.int (Int32.ofNat (2 * nz))) ∧ Fr n0 L ∧ h = h0
theorem own_nbl (l : Launch) (Z : State) (a0 : Array Value) (hw : ∀ d ∈ tables_1, d.before a0 Z = true) (ws : List Jvm.Cond) (nz : Nat) (h0 : Heap) (n0 : Nat) (Z0 : n0 ≤ h0.size) (hnz : nz < 6) :
    own_Met l Z mn3 jdk_52_method_3_code 1 (some .int) ws rm0 #[(.int (Int32.ofNat nz))] h0 (Q_own_nbl Z nz h0 n0) := by
  refine own_start (plainFor_of_name own_pn0) fun p e s m below meth c s₁ Bd hx hby hml hZ hown hnm X0 e0 => ?_
  have H := @own_hw Z a0 hw
  have D := @hb _ _ hby
  have hown : s.vm.findClass "java/lang/StringUTF16" = some m.cls := hown
  have N0 := Fr.nil n0
  have K0 := Keep.refl h0 []
  rw [own_ef_own_nbl m (Int32.ofNat nz)]
  refine gb s₁ m 58 #[vi (Int32.ofNat nz)] [(.int ((Int32.ofNat nz) <<< ((1 : Int32) &&& 31)))] (fun u k => XS.iloadN X0.here hx rfl (D d36_0) rfl (XS.ifYes X0.here hx rfl (pc0 := 1) (pc' := 12) rfl (D d36_1) rfl (XT.i0_ge_t (own_j nz (by omega)).1) (by decide) (by decide) (XS.iloadN X0.here hx rfl (D d36_12) rfl (X0.ldcI hx hown (mvT hZ (H 219 rfl)) rfl (D d36_13) (XS.icmpYes X0.here hx rfl (pc0 := 15) (pc' := 55) rfl (D d36_15) rfl (XT.ii_lt_t (own_big (by omega))) (by decide) (by decide) (XS.iloadN X0.here hx rfl (D d36_55) rfl (XT.iconstV X0.here hx rfl (1 : Int32) (D d36_56) (by decide) (XT.ishl X0.here hx rfl (D d36_57) rfl k)))))))) ?_
  have rw1 : ((Int32.ofNat nz) <<< ((1 : Int32) &&& 31)) = (Int32.ofNat (2 * nz)) := own_shl1 (by omega)
  rw [rw1]
  obtain ⟨fs, hr, hrun, hended, hW, hsame⟩ := X0.leave (v := some (.int (Int32.ofNat (2 * nz)))) (fun h => by rw [Bd.returns] at h; cases h)
  refine ⟨_, _, retI X0 hx Bd.returns (D d36_58) hr, hrun, hended, _, _, rfl, ?_, ⟨_, rfl⟩, hW, hsame.mono (by decide) (by decide)⟩
  show Q_own_nbl Z nz h0 n0 _ s₁.heap _
  rw [e0]
  exact ⟨rfl, N0, rfl⟩
theorem own_pd0 : parseMethodDescriptor "(I)I" = some ⟨[.int], some .int⟩ := by decide +kernel
theorem d35_0 : dc cd35 0 (.iload_n 0) 1 := by decide +kernel
theorem d35_1 : dc cd35 1 (.invokestatic 11) 3 := by decide +kernel
theorem d35_4 : dc cd35 4 (.newarray .byte) 2 := by decide +kernel
theorem d35_6 : dc cd35 6 .areturn 1 := by decide +kernel
theorem own_ef_own_nbf (m : MethodId) (x0 : Int32) : entryFrame m #[(.int x0)] 1 = mkF m 0 #[.val (.int x0)] [] := by first | (simp [entryFrame, mkF, argsToLocals, Value.category]; done) | rfl
def Q_own_nbf (Z : State) (nz : Nat) (h0 : Heap) (n0 : Nat) (v : Option Value) (h : Heap) (L : List Loc) : Prop := ∃ r : Addr, ∃ kr : ClassId, v = some (.ref r) ∧ Fr n0 L ∧ Keep h0 h [] ∧ n0 ≤ r ∧ h0.size ≤ r ∧ Arv Z h r kr .byte (Int32.ofNat (2 * nz)) (([] : List Value) ++ List.replicate (2 * nz) ((.int 0) : Value)) (.int 0)
theorem own_nbf (l : Launch) (Z : State) (a0 : Array Value) (hw : ∀ d ∈ tables_1, d.before a0 Z = true) (ws : List Jvm.Cond) (nz : Nat) (h0 : Heap) (n0 : Nat) (Z0 : n0 ≤ h0.size) (hnz : nz < 6) :
    own_Met l Z mn4 jdk_52_method_2_code 1 (some (.array .byte)) ws rm1 #[(.int (Int32.ofNat nz))] h0 (Q_own_nbf Z nz h0 n0) := by
  refine own_start (plainFor_of_name own_pn0) fun p e s m below meth c s₁ Bd hx hby hml hZ hown hnm X0 e0 => ?_
  have H := @own_hw Z a0 hw
  have D := @hb _ _ hby
  have hown : s.vm.findClass "java/lang/StringUTF16" = some m.cls := hown
  have N0 := Fr.nil n0
  have K0 := Keep.refl h0 []
  rw [own_ef_own_nbf m (Int32.ofNat nz)]
  refine gb s₁ m 1 #[vi (Int32.ofNat nz)] [(.int (Int32.ofNat nz))] (fun u k => XS.iloadN X0.here hx rfl (D d35_0) rfl k) ?_
  obtain ⟨_, _, ⟨T1, L1, k1, n1⟩, -, X1, ⟨Lc1, hQ1, l1, y1, z1⟩, st1⟩ := Jvm.LawKit.callS X0 hx (y := mn3) hown (mvT hZ (H 216 rfl)) (mvT hZ (H 217 rfl)) (mvT hZ (H 26 rfl)) (mvT hZ (H 218 rfl)) (by decide) (backOf (W := 0) (own_nbl l Z a0 hw [] nz h0 n0 Z0 hnz) hZ (H 218 rfl) (H 26 rfl) (by decide) (by decide)) (g := (mkF m 1 #[vi (Int32.ofNat nz)] [(.int (Int32.ofNat nz))])) rfl (by rw [hml]; rfl) (argsL := [(.int (Int32.ofNat nz))]) (rest := []) (lenOf own_pd0 rfl) rfl (own_w0 rfl) (D d35_1) (fun _ _ => ⟨rfl, e0, (by decide : 0 + 0 ≤ _), (by decide : 0 + 0 ≤ _)⟩)
  dsimp only [Pt.U, Pt.locs, Pt.cells, Pt.slots] at X1 l1 y1 z1 st1 hQ1
  subst l1 y1 z1
  obtain ⟨rfl, N1, e1⟩ := hQ1
  have NA1 := Fr.app N0 N1
  refine gb T1 m 4 #[vi (Int32.ofNat nz)] [(.int (Int32.ofNat (2 * nz)))] st1 ?_
  clear st1
  obtain ⟨T2, h2, k2, X2, e2, E2, A2, st2⟩ := newP X1 hx hZ (H 28 rfl) e1 (g := (mkF m 4 #[vi (Int32.ofNat nz)] [(.int (Int32.ofNat (2 * nz)))])) rfl (D d35_4) rfl (own_j (2 * nz) (by omega)).1 (cap := 10) (by rw [(own_j (2 * nz) (by omega)).2.1]; omega) (by decide) (by decide) (by decide)
  obtain ⟨b2, g2⟩ : ∃ z, z = h0.size := ⟨_, rfl⟩
  rw [← g2] at A2 st2
  have gb2 : n0 ≤ b2 := Nat.le_trans Z0 (Nat.le_of_eq g2.symm)
  have sz2 : h0.size ≤ b2 := Nat.le_trans K0.1 (Nat.le_of_eq g2.symm)
  have Z2 : n0 ≤ h2.size := Nat.le_trans Z0 E2.1
  have K2 := K0.ext E2
  have V2 : Arv Z h2 b2 k2 .byte (Int32.ofNat (2 * nz)) (([] : List Value) ++ List.replicate (2 * nz) ((.int 0) : Value)) (.int 0) := (Arv.new A2 (own_j (2 * nz) (by omega)).1).pad (pad_rep [] (.int 0) (2 * nz))
  refine gb T2 m 6 #[vi (Int32.ofNat nz)] [(.ref b2)] st2 ?_
  clear st2
  obtain ⟨fs, hr, hrun, hended, hW, hsame⟩ := X2.leave (v := some (.ref b2)) (fun h => by rw [Bd.returns] at h; cases h)
  refine ⟨_, _, retOut X2 hx (t := (.array .byte)) (i := .areturn) Bd.returns rfl (Or.inr (Or.inr (Or.inr (Or.inr ⟨rfl, rfl, rfl⟩)))) (D d35_6) hr, hrun, hended, _, _, rfl, ?_, ⟨_, rfl⟩, hW, hsame.mono (by decide) (by decide)⟩
  show Q_own_nbf Z nz h0 n0 _ T2.heap _
  rw [e2]
  exact ⟨b2, k2, rfl, NA1, K2, gb2, sz2, V2⟩
theorem own_pd1 : parseMethodDescriptor "(I)[B" = some ⟨[.int], some (.array .byte)⟩ := by decide +kernel
theorem own_pd2 : parseMethodDescriptor "([BII)V" = some ⟨[(.array .byte), .int, .int], none⟩ := by decide +kernel
theorem d34_0 : dc cd34 0 (.iload_n 2) 1 := by decide +kernel
theorem d34_1 : dc cd34 1 (.invokestatic 107) 3 := by decide +kernel
theorem d34_4 : dc cd34 4 (.astore_n 3) 1 := by decide +kernel
theorem d34_5 : dc cd34 5 (.iconst 0) 1 := by decide +kernel
theorem d34_6 : dc cd34 6 (.istore 4) 2 := by decide +kernel
theorem d34_8 : dc cd34 8 (.iload 4) 2 := by decide +kernel
theorem d34_10 : dc cd34 10 (.iload_n 2) 1 := by decide +kernel
theorem d34_11 : dc cd34 11 (.if_icmp .ge 21) 3 := by decide +kernel
theorem d34_14 : dc cd34 14 (.aload_n 3) 1 := by decide +kernel
theorem d34_15 : dc cd34 15 (.iload 4) 2 := by decide +kernel
theorem d34_17 : dc cd34 17 (.aload_n 0) 1 := by decide +kernel
theorem d34_18 : dc cd34 18 (.iload_n 1) 1 := by decide +kernel
theorem d34_19 : dc cd34 19 .caload 1 := by decide +kernel
theorem d34_20 : dc cd34 20 (.invokestatic 111) 3 := by decide +kernel
theorem d34_23 : dc cd34 23 (.iinc 1 1) 3 := by decide +kernel
theorem d34_26 : dc cd34 26 (.iinc 4 1) 3 := by decide +kernel
theorem d34_29 : dc cd34 29 (.goto (-21)) 3 := by decide +kernel
theorem d34_32 : dc cd34 32 (.aload_n 3) 1 := by decide +kernel
theorem d34_33 : dc cd34 33 .areturn 1 := by decide +kernel
theorem own_ef_own_tob (m : MethodId) (x0 : Addr) (x2 : Int32) : entryFrame m #[(.ref x0), (.int 0), (.int x2)] 5 = mkF m 0 #[.val (.ref x0), .val (.int 0), .val (.int x2), .unset, .unset] [] := by first | (simp [entryFrame, mkF, argsToLocals, Value.category]; done) | rfl
def Q_own_tob (Z : State) (b : Addr) (nz : Nat) (cf : Nat → Int32) (kb : ClassId) (h0 : Heap) (n0 : Nat) (v : Option Value) (h : Heap) (L : List Loc) : Prop := ∃ r : Addr, ∃ kr : ClassId, v = some (.ref r) ∧ Fr n0 L ∧ Keep h0 h [] ∧ n0 ≤ r ∧ h0.size ≤ r ∧ Arv Z h r kr .byte (Int32.ofNat (2 * nz)) (own_l (2 * nz) (own_w cf)) (.int 0)
theorem own_tob (l : Launch) (Z : State) (a0 : Array Value) (hw : ∀ d ∈ tables_1, d.before a0 Z = true) (ws : List Jvm.Cond) (b : Addr) (nz : Nat) (cf : Nat → Int32) (kb : ClassId) (h0 : Heap) (n0 : Nat) (Z0 : n0 ≤ h0.size) (Old0 : Old Z n0 h0) (Sa : Sta Z Z.heap "java/lang/StringUTF16" "$assertionsDisabled" "Z" (.int 1)) (SHI : Sta Z Z.heap "java/lang/StringUTF16" "HI_BYTE_SHIFT" "I" (.int 0)) (SLO : Sta Z Z.heap "java/lang/StringUTF16" "LO_BYTE_SHIFT" "I" (.int 8)) (V_b : Arv Z h0 b kb .char (Int32.ofNat nz) (own_l nz cf) (.int 0)) (hnz : nz < 6) :
    own_Met l Z mn5 jdk_52_method_14_code 5 (some (.array .byte)) ws rm2 #[(.ref b), (.int 0), (.int (Int32.ofNat nz))] h0 (Q_own_tob Z b nz cf kb h0 n0) := by
  refine own_start (plainFor_of_name own_pn0) fun p e s m below meth c s₁ Bd hx hby hml hZ hown hnm X0 e0 => ?_
  have H := @own_hw Z a0 hw
  have D := @hb _ _ hby
  have hown : s.vm.findClass "java/lang/StringUTF16" = some m.cls := hown
  have N0 := Fr.nil n0
  have K0 := Keep.refl h0 []
  rw [own_ef_own_tob m b (Int32.ofNat nz)]
  refine gb s₁ m 1 #[vr b, vi 0, vi (Int32.ofNat nz), un, un] [(.int (Int32.ofNat nz))] (fun u k => XS.iloadN X0.here hx rfl (D d34_0) rfl k) ?_
  obtain ⟨_, _, ⟨T1, L1, k1, n1⟩, -, X1, ⟨Lc1, hQ1, l1, y1, z1⟩, st1⟩ := Jvm.LawKit.callS X0 hx (y := mn4) hown (mvT hZ (H 213 rfl)) (mvT hZ (H 214 rfl)) (mvT hZ (H 26 rfl)) (mvT hZ (H 215 rfl)) (by decide) (backOf (W := 0) (own_nbf l Z a0 hw [] nz h0 n0 Z0 hnz) hZ (H 215 rfl) (H 26 rfl) (by decide) (by decide)) (g := (mkF m 1 #[vr b, vi 0, vi (Int32.ofNat nz), un, un] [(.int (Int32.ofNat nz))])) rfl (by rw [hml]; rfl) (argsL := [(.int (Int32.ofNat nz))]) (rest := []) (lenOf own_pd1 rfl) rfl (own_w0 rfl) (D d34_1) (fun _ _ => ⟨rfl, e0, (by decide : 0 + 1 ≤ _), (by decide : 0 + 10 ≤ _)⟩)
  dsimp only [Pt.U, Pt.locs, Pt.cells, Pt.slots] at X1 l1 y1 z1 st1 hQ1
  subst l1 y1 z1
  obtain ⟨r1, kr1, rfl, N1, Kc1, gb_r1, szc_r1, P1_0⟩ := hQ1
  have NA1 := Fr.app N0 N1
  have Z1 : n0 ≤ T1.heap.size := Nat.le_trans Z0 Kc1.1
  have K1 := K0.trans Kc1 all0
  have O1 := Old0.keep Kc1 all0
  have sz_r1 : h0.size ≤ r1 := Nat.le_trans K0.1 szc_r1
  have ne_b_r1 : b ≠ r1 := Nat.ne_of_lt (Nat.lt_of_lt_of_le V_b.lt szc_r1)
  refine gb T1 m 4 #[vr b, vi 0, vi (Int32.ofNat nz), un, un] [(.ref r1)] st1 ?_
  clear st1
  refine gb T1 m 8 #[vr b, vi 0, vi (Int32.ofNat nz), vr r1, vi 0] [] (fun u k => XS.astoreN X1.here hx rfl (D d34_4) rfl rfl (l' := #[vr b, vi 0, vi (Int32.ofNat nz), vr r1, un]) rfl (XT.iconstV X1.here hx rfl (0 : Int32) (D d34_5) (by decide) (XS.istore X1.here hx rfl (D d34_6) rfl (l' := #[vr b, vi 0, vi (Int32.ofNat nz), vr r1, vi 0]) rfl k))) ?_
  have loop : ∀ (d9 : Nat) (i9 : Nat) (ds9 : List Value) (T9 : State) (L9 : List Loc), (d9 = nz - i9) → (i9 ≤ nz) → (own_pw (2 * nz) (2 * i9) (own_w cf) ds9) → Stand p l e rm2 s m #[(.ref b), (.int 0), (.int (Int32.ofNat nz))] below meth c T9 L9 1 10 → Fr n0 L9 → n0 ≤ T9.heap.size → Keep h0 T9.heap [] → Old Z n0 T9.heap → Arv Z T9.heap b kb .char (Int32.ofNat nz) (own_l nz cf) (.int 0) → Arv Z T9.heap r1 kr1 .byte (Int32.ofNat (2 * nz)) ds9 (.int 0) → Go p e below (own_F s below (Q_own_tob Z b nz cf kb h0 n0) rm2.cells rm2.slots) (T9.setTop (mkF m 8 #[vr b, vi (Int32.ofNat i9), vi (Int32.ofNat nz), vr r1, vi (Int32.ofNat i9)] [])) := by
    intro d9
    induction d9 with
    | zero =>
      intro i9 ds9 T9 L9 hd9 hi9 hP9 X9 N9 Z9 K9 O9 G9_0 G9_1
      refine gb T9 m 33 #[vr b, vi (Int32.ofNat i9), vi (Int32.ofNat nz), vr r1, vi (Int32.ofNat i9)] [(.ref r1)] (fun u k => XS.iload X9.here hx rfl (D d34_8) rfl (XS.iloadN X9.here hx rfl (D d34_10) rfl (XS.icmpYes X9.here hx rfl (pc0 := 11) (pc' := 32) rfl (D d34_11) rfl (XT.ii_ge_t (own_nlt (by omega) (by omega))) (by decide) (by decide) (XS.aloadN X9.here hx rfl (D d34_32) rfl rfl k)))) ?_
      have VF : Arv Z T9.heap r1 kr1 .byte (Int32.ofNat (2 * nz)) (own_l (2 * nz) (own_w cf)) (.int 0) := by rw [← hP9.fin (by omega)]; exact G9_1
      obtain ⟨fs, hr, hrun, hended, hW, hsame⟩ := X9.leave (v := some (.ref r1)) (fun h => by rw [Bd.returns] at h; cases h)
      refine ⟨_, _, retOut X9 hx (t := (.array .byte)) (i := .areturn) Bd.returns rfl (Or.inr (Or.inr (Or.inr (Or.inr ⟨rfl, rfl, rfl⟩)))) (D d34_33) hr, hrun, hended, _, _, rfl, ?_, ⟨_, rfl⟩, hW, hsame.mono (by decide) (by decide)⟩
      show Q_own_tob Z b nz cf kb h0 n0 _ T9.heap _
      exact ⟨r1, kr1, rfl, N9, K9, gb_r1, sz_r1, VF⟩
    | succ d9 ih9 =>
      intro i9 ds9 T9 L9 hd9 hi9 hP9 X9 N9 Z9 K9 O9 G9_0 G9_1
      refine gb T9 m 19 #[vr b, vi (Int32.ofNat i9), vi (Int32.ofNat nz), vr r1, vi (Int32.ofNat i9)] [(.int (Int32.ofNat i9)), (.ref b), (.int (Int32.ofNat i9)), (.ref r1)] (fun u k => XS.iload X9.here hx rfl (D d34_8) rfl (XS.iloadN X9.here hx rfl (D d34_10) rfl (XS.icmpNo X9.here hx rfl (D d34_11) rfl (XT.ii_ge_f (own_ilt (by omega) (by omega))) (XS.aloadN X9.here hx rfl (D d34_14) rfl rfl (XS.iload X9.here hx rfl (D d34_15) rfl (XS.aloadN X9.here hx rfl (D d34_17) rfl rfl (XS.iloadN X9.here hx rfl (D d34_18) rfl k))))))) ?_
      obtain ⟨cl2, Ar2, aq2, aS2, aM2, aH2, aG2⟩ := id G9_0
      refine gb T9 m 20 #[vr b, vi (Int32.ofNat i9), vi (Int32.ofNat nz), vr r1, vi (Int32.ofNat i9)] [(.int (cf i9)), (.int (Int32.ofNat i9)), (.ref r1)] (fun u k => X9.caload hx (j := (Int32.ofNat i9)) (v := (.int (cf i9))) Ar2.1 (State.isArrayOf_alike hZ.alike Ar2.2.1) Ar2.2.2 (inb_of aS2 (own_ib (by omega) (by omega))) (Has.at aH2 (inb_of aS2 (own_ib (by omega) (by omega))) (own_ld _ (by omega) (by omega))) (g := (mkF m 19 #[vr b, vi (Int32.ofNat i9), vi (Int32.ofNat nz), vr r1, vi (Int32.ofNat i9)] [(.int (Int32.ofNat i9)), (.ref b), (.int (Int32.ofNat i9)), (.ref r1)])) rfl rfl (D d34_19) _ k) ?_
      obtain ⟨_, _, ⟨T3, L3, k3, n3⟩, -, X3, ⟨Lc3, hQ3, l3, y3, z3⟩, st3⟩ := Jvm.LawKit.callS X9 hx (y := mn1) hown (mvT hZ (H 220 rfl)) (mvT hZ (H 221 rfl)) (mvT hZ (H 26 rfl)) (mvT hZ (H 222 rfl)) (by decide) (backOf (W := 0) (own_pchr l Z a0 hw [] r1 (cf i9) nz i9 kr1 ds9 T9.heap n0 Z9 gb_r1 O9 Sa SHI SLO G9_1 hP9.1 hnz (by omega)) hZ (H 222 rfl) (H 26 rfl) (by decide) (by decide)) (g := (mkF m 20 #[vr b, vi (Int32.ofNat i9), vi (Int32.ofNat nz), vr r1, vi (Int32.ofNat i9)] [(.int (cf i9)), (.int (Int32.ofNat i9)), (.ref r1)])) rfl (by rw [hml]; rfl) (argsL := [(.ref r1), (.int (Int32.ofNat i9)), (.int (cf i9))]) (rest := []) (lenOf own_pd2 rfl) rfl (own_w0 rfl) (D d34_20) (fun _ _ => ⟨rfl, rfl, (by decide : 1 + 0 ≤ _), (by decide : 10 + 0 ≤ _)⟩)
      dsimp only [Pt.U, Pt.locs, Pt.cells, Pt.slots] at X3 l3 y3 z3 st3 hQ3
      subst l3 y3 z3
      obtain ⟨rfl, N3, Kc3, P3_0⟩ := hQ3
      have NA3 := Fr.app N9 N3
      have Z3 : n0 ≤ T3.heap.size := Nat.le_trans Z9 Kc3.1
      have K3 := K9.trans Kc3 (allS (Or.inr sz_r1) all0)
      have O3 := O9.keep Kc3 (allS gb_r1 all0)
      refine gb T3 m 23 #[vr b, vi (Int32.ofNat i9), vi (Int32.ofNat nz), vr r1, vi (Int32.ofNat i9)] [] st3 ?_
      clear st3
      refine gb T3 m 8 #[vr b, vi ((Int32.ofNat i9) + (1 : Int32)), vi (Int32.ofNat nz), vr r1, vi ((Int32.ofNat i9) + (1 : Int32))] [] (fun u k => XT.iincV X3.here hx rfl (1 : Int32) (D d34_23) (by decide) rfl (l' := #[vr b, vi ((Int32.ofNat i9) + (1 : Int32)), vi (Int32.ofNat nz), vr r1, vi (Int32.ofNat i9)]) rfl (XT.iincV X3.here hx rfl (1 : Int32) (D d34_26) (by decide) rfl (l' := #[vr b, vi ((Int32.ofNat i9) + (1 : Int32)), vi (Int32.ofNat nz), vr r1, vi ((Int32.ofNat i9) + (1 : Int32))]) rfl (XS.goto X3.here hx rfl (pc0 := 29) (pc' := 8) rfl (D d34_29) (by decide) (by decide) k))) ?_
      have rw4 : ((Int32.ofNat i9) + (1 : Int32)) = (Int32.ofNat (i9 + 1)) := (own_j i9 (by omega)).2.2
      rw [rw4]
      have f5 := (G9_0.keep Kc3 (ninS ne_b_r1 nin0))
      exact ih9 (i9 + 1) _ T3 _ (by omega) (by omega) (hP9.step2 (by omega)) X3 NA3 Z3 K3 O3 f5 P3_0 
  show Go p e below (own_F s below (Q_own_tob Z b nz cf kb h0 n0) rm2.cells rm2.slots) (T1.setTop (mkF m 8 #[vr b, vi (Int32.ofNat 0), vi (Int32.ofNat nz), vr r1, vi (Int32.ofNat 0)] []))
  have f7 := (V_b.keep Kc1 nin0)
  exact loop nz 0 _ T1 _ rfl (by omega) (own_pw0 _ (by simp : (([] : List Value) ++ List.replicate (2 * nz) ((.int 0) : Value)).length = 2 * nz)) X1 NA1 Z1 K1 O1 f7 P1_0 
theorem own_pd3 : parseMethodDescriptor "([CI[BII)I" = some ⟨[(.array .char), .int, (.array .byte), .int, .int], some .int⟩ := by decide +kernel
theorem own_pd4 : parseMethodDescriptor "([CII)[B" = some ⟨[(.array .char), .int, .int], some (.array .byte)⟩ := by decide +kernel
theorem own_pd5 : parseMethodDescriptor "([BI)C" = some ⟨[(.array .byte), .int], some .char⟩ := by decide +kernel
theorem d6_0 : dc cd6 0 (.iload_n 2) 1 := by decide +kernel
theorem d6_1 : dc cd6 1 (.newarray .byte) 2 := by decide +kernel
theorem d6_3 : dc cd6 3 (.astore_n 3) 1 := by decide +kernel
theorem d6_4 : dc cd6 4 (.aload_n 0) 1 := by decide +kernel
theorem d6_5 : dc cd6 5 (.iload_n 1) 1 := by decide +kernel
theorem d6_6 : dc cd6 6 (.aload_n 3) 1 := by decide +kernel
theorem d6_7 : dc cd6 7 (.iconst 0) 1 := by decide +kernel
theorem d6_8 : dc cd6 8 (.iload_n 2) 1 := by decide +kernel
theorem d6_9 : dc cd6 9 (.invokestatic 115) 3 := by decide +kernel
theorem d6_12 : dc cd6 12 (.istore 4) 2 := by decide +kernel
theorem d6_14 : dc cd6 14 (.iload 4) 2 := by decide +kernel
theorem d6_16 : dc cd6 16 (.iload_n 2) 1 := by decide +kernel
theorem d6_17 : dc cd6 17 (.if_icmp .eq 40) 3 := by decide +kernel
theorem d6_20 : dc cd6 20 (.aload_n 0) 1 := by decide +kernel
theorem d6_21 : dc cd6 21 (.iload_n 1) 1 := by decide +kernel
theorem d6_22 : dc cd6 22 (.iload_n 2) 1 := by decide +kernel
theorem d6_23 : dc cd6 23 (.invokestatic 119) 3 := by decide +kernel
theorem d6_26 : dc cd6 26 (.astore 5) 2 := by decide +kernel
theorem d6_28 : dc cd6 28 (.aload 5) 2 := by decide +kernel
theorem d6_30 : dc cd6 30 (.iload 4) 2 := by decide +kernel
theorem d6_32 : dc cd6 32 (.invokestatic 71) 3 := by decide +kernel
theorem d6_35 : dc cd6 35 (.sipush 255) 3 := by decide +kernel
theorem d6_38 : dc cd6 38 (.if_icmp .gt 16) 3 := by decide +kernel
theorem d6_54 : dc cd6 54 (.aload 5) 2 := by decide +kernel
theorem d6_56 : dc cd6 56 .areturn 1 := by decide +kernel
theorem d6_57 : dc cd6 57 (.aload_n 3) 1 := by decide +kernel
theorem d6_58 : dc cd6 58 .areturn 1 := by decide +kernel
theorem own_ef_own_cmp3 (m : MethodId) (x0 : Addr) (x2 : Int32) : entryFrame m #[(.ref x0), (.int 0), (.int x2)] 6 = mkF m 0 #[.val (.ref x0), .val (.int 0), .val (.int x2), .unset, .unset, .unset] [] := by first | (simp [entryFrame, mkF, argsToLocals, Value.category]; done) | rfl
def Q_own_cmp3 (Z : State) (b : Addr) (nz : Nat) (cf : Nat → Int32) (kb : ClassId) (h0 : Heap) (n0 : Nat) (v : Option Value) (h : Heap) (L : List Loc) : Prop := ∃ r : Addr, ∃ kr : ClassId, v = some (.ref r) ∧ Fr n0 L ∧ Keep h0 h [] ∧ n0 ≤ r ∧ h0.size ≤ r ∧ ((Arv Z h r kr .byte (Int32.ofNat nz) (own_l nz (own_lo8 cf)) (.int 0) ∧ ∀ j, j < nz → ¬ (255 : Int32) < cf j) ∨ Arv Z h r kr .byte (Int32.ofNat (2 * nz)) (own_l (2 * nz) (own_w cf)) (.int 0))
theorem own_cmp3 (l : Launch) (Z : State) (a0 : Array Value) (hw : ∀ d ∈ tables_1, d.before a0 Z = true) (ws : List Jvm.Cond) (b : Addr) (nz : Nat) (cf : Nat → Int32) (kb : ClassId) (h0 : Heap) (n0 : Nat) (Z0 : n0 ≤ h0.size) (Old0 : Old Z n0 h0) (Sa : Sta Z Z.heap "java/lang/StringUTF16" "$assertionsDisabled" "Z" (.int 1)) (SHI : Sta Z Z.heap "java/lang/StringUTF16" "HI_BYTE_SHIFT" "I" (.int 0)) (SLO : Sta Z Z.heap "java/lang/StringUTF16" "LO_BYTE_SHIFT" "I" (.int 8)) (V_b : Arv Z h0 b kb .char (Int32.ofNat nz) (own_l nz cf) (.int 0)) (hnz : nz < 6) (hch : ∀ j, j < nz → own_ch (cf j)) :
    own_Met l Z mn6 jdk_52_method_16_code 6 (some (.array .byte)) ws rm3 #[(.ref b), (.int 0), (.int (Int32.ofNat nz))] h0 (Q_own_cmp3 Z b nz cf kb h0 n0) := by
  refine own_start (plainFor_of_name own_pn0) fun p e s m below meth c s₁ Bd hx hby hml hZ hown hnm X0 e0 => ?_
  have H := @own_hw Z a0 hw
  have D := @hb _ _ hby
  have hown : s.vm.findClass "java/lang/StringUTF16" = some m.cls := hown
  have N0 := Fr.nil n0
  have K0 := Keep.refl h0 []
  rw [own_ef_own_cmp3 m b (Int32.ofNat nz)]
  refine gb s₁ m 1 #[vr b, vi 0, vi (Int32.ofNat nz), un, un, un] [(.int (Int32.ofNat nz))] (fun u k => XS.iloadN X0.here hx rfl (D d6_0) rfl k) ?_
  obtain ⟨T1, h1, k1, X1, e1, E1, A1, st1⟩ := newP X0 hx hZ (H 28 rfl) e0 (g := (mkF m 1 #[vr b, vi 0, vi (Int32.ofNat nz), un, un, un] [(.int (Int32.ofNat nz))])) rfl (D d6_1) rfl (own_j nz (by omega)).1 (cap := 5) (by rw [(own_j nz (by omega)).2.1]; omega) (by decide) (by decide) (by decide)
  obtain ⟨b1, g1⟩ : ∃ z, z = h0.size := ⟨_, rfl⟩
  rw [← g1] at A1 st1
  have ne_b_b1 : b ≠ b1 := Nat.ne_of_lt (Nat.lt_of_lt_of_le V_b.lt (Nat.le_of_eq g1.symm))
  have gb1 : n0 ≤ b1 := Nat.le_trans Z0 (Nat.le_of_eq g1.symm)
  have sz1 : h0.size ≤ b1 := Nat.le_trans K0.1 (Nat.le_of_eq g1.symm)
  have Z1 : n0 ≤ h1.size := Nat.le_trans Z0 E1.1
  have K1 := K0.ext E1
  have O1 := Old0.ext E1
  have V1 : Arv Z h1 b1 k1 .byte (Int32.ofNat nz) (([] : List Value) ++ List.replicate nz ((.int 0) : Value)) (.int 0) := (Arv.new A1 (own_j nz (by omega)).1).pad (pad_rep [] (.int 0) nz)
  refine gb T1 m 3 #[vr b, vi 0, vi (Int32.ofNat nz), un, un, un] [(.ref b1)] st1 ?_
  clear st1
  refine gb T1 m 9 #[vr b, vi 0, vi (Int32.ofNat nz), vr b1, un, un] [(.int (Int32.ofNat nz)), (.int 0), (.ref b1), (.int 0), (.ref b)] (fun u k => XS.astoreN X1.here hx rfl (D d6_3) rfl rfl (l' := #[vr b, vi 0, vi (Int32.ofNat nz), vr b1, un, un]) rfl (XS.aloadN X1.here hx rfl (D d6_4) rfl rfl (XS.iloadN X1.here hx rfl (D d6_5) rfl (XS.aloadN X1.here hx rfl (D d6_6) rfl rfl (XT.iconstV X1.here hx rfl (0 : Int32) (D d6_7) (by decide) (XS.iloadN X1.here hx rfl (D d6_8) rfl k)))))) ?_
  have f2 := (V_b.ext E1)
  obtain ⟨_, _, ⟨T3, L3, k3, n3⟩, -, X3, ⟨Lc3, hQ3, l3, y3, z3⟩, st3⟩ := Jvm.LawKit.callS X1 hx (y := mn0) hown (mvT hZ (H 29 rfl)) (mvT hZ (H 30 rfl)) (mvT hZ (H 26 rfl)) (mvT hZ (H 31 rfl)) (by decide) (backOf (W := 0) (own_cmp5 l Z a0 hw [] b b1 nz cf kb k1 (([] : List Value) ++ List.replicate nz ((.int 0) : Value)) h1 n0 Z1 gb1 ne_b_b1 f2 V1 (by simp : (([] : List Value) ++ List.replicate nz ((.int 0) : Value)).length = nz) hnz) hZ (H 31 rfl) (H 26 rfl) (by decide) (by decide)) (g := (mkF m 9 #[vr b, vi 0, vi (Int32.ofNat nz), vr b1, un, un] [(.int (Int32.ofNat nz)), (.int 0), (.ref b1), (.int 0), (.ref b)])) rfl (by rw [hml]; rfl) (argsL := [(.ref b), (.int 0), (.ref b1), (.int 0), (.int (Int32.ofNat nz))]) (rest := []) (lenOf own_pd3 rfl) rfl (own_w0 rfl) (D d6_9) (fun _ _ => ⟨rfl, e1, (by decide : 1 + 0 ≤ _), (by decide : 5 + 0 ≤ _)⟩)
  dsimp only [Pt.U, Pt.locs, Pt.cells, Pt.slots] at X3 l3 y3 z3 st3 hQ3
  subst l3 y3 z3
  obtain ⟨rv3, rfl, N3, Kc3, P3_0⟩ := hQ3
  have NA3 := Fr.app N0 N3
  have Z3 : n0 ≤ T3.heap.size := Nat.le_trans Z1 Kc3.1
  have K3 := K1.trans Kc3 (allS (Or.inr sz1) all0)
  have O3 := O1.keep Kc3 (allS gb1 all0)
  refine gb T3 m 12 #[vr b, vi 0, vi (Int32.ofNat nz), vr b1, un, un] [(.int rv3)] st3 ?_
  clear st3
  rcases P3_0 with ⟨rfl, VL, hb9⟩ | ⟨iw, hiw, rfl, hgt⟩
  · refine gb T3 m 58 #[vr b, vi 0, vi (Int32.ofNat nz), vr b1, vi (Int32.ofNat nz), un] [(.ref b1)] (fun u k => XS.istore X3.here hx rfl (D d6_12) rfl (l' := #[vr b, vi 0, vi (Int32.ofNat nz), vr b1, vi (Int32.ofNat nz), un]) rfl (XS.iload X3.here hx rfl (D d6_14) rfl (XS.iloadN X3.here hx rfl (D d6_16) rfl (XS.icmpYes X3.here hx rfl (pc0 := 17) (pc' := 57) rfl (D d6_17) rfl (XT.ii_eq_t rfl) (by decide) (by decide) (XS.aloadN X3.here hx rfl (D d6_57) rfl rfl k))))) ?_
    obtain ⟨fs, hr, hrun, hended, hW, hsame⟩ := X3.leave (v := some (.ref b1)) (fun h => by rw [Bd.returns] at h; cases h)
    refine ⟨_, _, retOut X3 hx (t := (.array .byte)) (i := .areturn) Bd.returns rfl (Or.inr (Or.inr (Or.inr (Or.inr ⟨rfl, rfl, rfl⟩)))) (D d6_58) hr, hrun, hended, _, _, rfl, ?_, ⟨_, rfl⟩, hW, hsame.mono (by decide) (by decide)⟩
    show Q_own_cmp3 Z b nz cf kb h0 n0 _ T3.heap _
    exact ⟨b1, k1, rfl, NA3, K3, gb1, sz1, Or.inl ⟨VL, hb9⟩⟩
  · refine gb T3 m 23 #[vr b, vi 0, vi (Int32.ofNat nz), vr b1, vi (Int32.ofNat iw), un] [(.int (Int32.ofNat nz)), (.int 0), (.ref b)] (fun u k => XS.istore X3.here hx rfl (D d6_12) rfl (l' := #[vr b, vi 0, vi (Int32.ofNat nz), vr b1, vi (Int32.ofNat iw), un]) rfl (XS.iload X3.here hx rfl (D d6_14) rfl (XS.iloadN X3.here hx rfl (D d6_16) rfl (XS.icmpNo X3.here hx rfl (D d6_17) rfl (XT.ii_eq_f (fun q => absurd (own_inj (by omega) (by omega) q) (by omega))) (XS.aloadN X3.here hx rfl (D d6_20) rfl rfl (XS.iloadN X3.here hx rfl (D d6_21) rfl (XS.iloadN X3.here hx rfl (D d6_22) rfl k))))))) ?_
    have f4 := (f2.keep Kc3 (ninS ne_b_b1 nin0))
    obtain ⟨_, _, ⟨T5, L5, k5, n5⟩, -, X5, ⟨Lc5, hQ5, l5, y5, z5⟩, st5⟩ := Jvm.LawKit.callS X3 hx (y := mn5) hown (mvT hZ (H 210 rfl)) (mvT hZ (H 211 rfl)) (mvT hZ (H 26 rfl)) (mvT hZ (H 212 rfl)) (by decide) (backOf (W := 0) (own_tob l Z a0 hw [] b nz cf kb T3.heap n0 Z3 O3 Sa SHI SLO f4 hnz) hZ (H 212 rfl) (H 26 rfl) (by decide) (by decide)) (g := (mkF m 23 #[vr b, vi 0, vi (Int32.ofNat nz), vr b1, vi (Int32.ofNat iw), un] [(.int (Int32.ofNat nz)), (.int 0), (.ref b)])) rfl (by rw [hml]; rfl) (argsL := [(.ref b), (.int 0), (.int (Int32.ofNat nz))]) (rest := []) (lenOf own_pd4 rfl) rfl (own_w0 rfl) (D d6_23) (fun _ _ => ⟨rfl, rfl, (by decide : 1 + 1 ≤ _), (by decide : 5 + 10 ≤ _)⟩)
    dsimp only [Pt.U, Pt.locs, Pt.cells, Pt.slots] at X5 l5 y5 z5 st5 hQ5
    subst l5 y5 z5
    obtain ⟨r5, kr5, rfl, N5, Kc5, gb_r5, szc_r5, P5_0⟩ := hQ5
    have NA5 := Fr.app NA3 N5
    have Z5 : n0 ≤ T5.heap.size := Nat.le_trans Z3 Kc5.1
    have K5 := K3.trans Kc5 all0
    have O5 := O3.keep Kc5 all0
    have sz_r5 : h0.size ≤ r5 := Nat.le_trans K3.1 szc_r5
    have ne_b_r5 : b ≠ r5 := Nat.ne_of_lt (Nat.lt_of_lt_of_le f4.lt szc_r5)
    refine gb T5 m 26 #[vr b, vi 0, vi (Int32.ofNat nz), vr b1, vi (Int32.ofNat iw), un] [(.ref r5)] st5 ?_
    clear st5
    refine gb T5 m 32 #[vr b, vi 0, vi (Int32.ofNat nz), vr b1, vi (Int32.ofNat iw), vr r5] [(.int (Int32.ofNat iw)), (.ref r5)] (fun u k => XS.astore X5.here hx rfl (D d6_26) rfl rfl (l' := #[vr b, vi 0, vi (Int32.ofNat nz), vr b1, vi (Int32.ofNat iw), vr r5]) rfl (XS.aload X5.here hx rfl (D d6_28) rfl rfl (XS.iload X5.here hx rfl (D d6_30) rfl k))) ?_
    obtain ⟨_, _, ⟨T6, L6, k6, n6⟩, -, X6, ⟨Lc6, hQ6, l6, y6, z6⟩, st6⟩ := Jvm.LawKit.callS X5 hx (y := mn2) hown (mvT hZ (H 226 rfl)) (mvT hZ (H 227 rfl)) (mvT hZ (H 26 rfl)) (mvT hZ (H 228 rfl)) (by decide) (backOf (W := 0) (own_gchr l Z a0 hw [] r5 nz iw (own_w cf) kr5 T5.heap n0 Z5 O5 Sa SHI SLO P5_0 hnz hiw) hZ (H 228 rfl) (H 26 rfl) (by decide) (by decide)) (g := (mkF m 32 #[vr b, vi 0, vi (Int32.ofNat nz), vr b1, vi (Int32.ofNat iw), vr r5] [(.int (Int32.ofNat iw)), (.ref r5)])) rfl (by rw [hml]; rfl) (argsL := [(.ref r5), (.int (Int32.ofNat iw))]) (rest := []) (lenOf own_pd5 rfl) rfl (own_w0 rfl) (D d6_32) (fun _ _ => ⟨rfl, rfl, (by decide : 2 + 0 ≤ _), (by decide : 15 + 0 ≤ _)⟩)
    dsimp only [Pt.U, Pt.locs, Pt.cells, Pt.slots] at X6 l6 y6 z6 st6 hQ6
    subst l6 y6 z6
    obtain ⟨rfl, N6, e6⟩ := hQ6
    have NA6 := Fr.app NA5 N6
    refine gb T6 m 35 #[vr b, vi 0, vi (Int32.ofNat nz), vr b1, vi (Int32.ofNat iw), vr r5] [(.int (own_get ((own_w cf) (2 * iw)) ((own_w cf) (2 * iw + 1))))] st6 ?_
    clear st6
    have rw7 : (own_get ((own_w cf) (2 * iw)) ((own_w cf) (2 * iw + 1))) = (cf iw) := own_getw (hch iw hiw)
    rw [rw7]
    refine gb T6 m 56 #[vr b, vi 0, vi (Int32.ofNat nz), vr b1, vi (Int32.ofNat iw), vr r5] [(.ref r5)] (fun u k => XT.sipushV X6.here hx rfl (255 : Int32) (D d6_35) (by decide) (XS.icmpYes X6.here hx rfl (pc0 := 38) (pc' := 54) rfl (D d6_38) rfl (XT.ii_gt_t hgt) (by decide) (by decide) (XS.aload X6.here hx rfl (D d6_54) rfl rfl k))) ?_
    obtain ⟨fs, hr, hrun, hended, hW, hsame⟩ := X6.leave (v := some (.ref r5)) (fun h => by rw [Bd.returns] at h; cases h)
    refine ⟨_, _, retOut X6 hx (t := (.array .byte)) (i := .areturn) Bd.returns rfl (Or.inr (Or.inr (Or.inr (Or.inr ⟨rfl, rfl, rfl⟩)))) (D d6_56) hr, hrun, hended, _, _, rfl, ?_, ⟨_, rfl⟩, hW, hsame.mono (by decide) (by decide)⟩
    show Q_own_cmp3 Z b nz cf kb h0 n0 _ T6.heap _
    rw [e6]
    exact ⟨r5, kr5, rfl, NA6, K5, gb_r5, sz_r5, Or.inr P5_0⟩
theorem d8_0 : dc cd8 0 (.iload_n 1) 1 := by decide +kernel
theorem d8_1 : dc cd8 1 (.aload_n 0) 1 := by decide +kernel
theorem d8_2 : dc cd8 2 .arraylength 1 := by decide +kernel
theorem d8_3 : dc cd8 3 .isub 1 := by decide +kernel
theorem d8_4 : dc cd8 4 (.bipush 31) 2 := by decide +kernel
theorem d8_6 : dc cd8 6 .iushr 1 := by decide +kernel
theorem d8_7 : dc cd8 7 .i2b 1 := by decide +kernel
theorem d8_8 : dc cd8 8 .ireturn 1 := by decide +kernel
theorem own_ef_own_cod_L (m : MethodId) (x0 : Addr) (x1 : Int32) : entryFrame m #[(.ref x0), (.int x1)] 2 = mkF m 0 #[.val (.ref x0), .val (.int x1)] [] := by first | (simp [entryFrame, mkF, argsToLocals, Value.category]; done) | rfl
def Q_own_cod_L (Z : State) (d : Addr) (nz : Nat) (ef : Nat → Int32) (kd : ClassId) (h0 : Heap) (n0 : Nat) (v : Option Value) (h : Heap) (L : List Loc) : Prop := v = some (.int 0) ∧ Fr n0 L ∧ h = h0
theorem own_cod_L (l : Launch) (Z : State) (a0 : Array Value) (hw : ∀ d ∈ tables_1, d.before a0 Z = true) (ws : List Jvm.Cond) (d : Addr) (nz : Nat) (ef : Nat → Int32) (kd : ClassId) (h0 : Heap) (n0 : Nat) (Z0 : n0 ≤ h0.size) (V_d : Arv Z h0 d kd .byte (Int32.ofNat nz) (own_l nz ef) (.int 0)) (hnz : nz < 6) :
    own_Met l Z mn7 jdk_52_method_15_code 2 (some .byte) ws rm0 #[(.ref d), (.int (Int32.ofNat nz))] h0 (Q_own_cod_L Z d nz ef kd h0 n0) := by
  refine own_start (plainFor_of_name own_pn0) fun p e s m below meth c s₁ Bd hx hby hml hZ hown hnm X0 e0 => ?_
  have H := @own_hw Z a0 hw
  have D := @hb _ _ hby
  have hown : s.vm.findClass "java/lang/StringUTF16" = some m.cls := hown
  have N0 := Fr.nil n0
  have K0 := Keep.refl h0 []
  rw [own_ef_own_cod_L m d (Int32.ofNat nz)]
  refine gb s₁ m 2 #[vr d, vi (Int32.ofNat nz)] [(.ref d), (.int (Int32.ofNat nz))] (fun u k => XS.iloadN X0.here hx rfl (D d8_0) rfl (XS.aloadN X0.here hx rfl (D d8_1) rfl rfl k)) ?_
  obtain ⟨cl1, Ar1, aq1, aS1, aM1, aH1, aG1⟩ := id V_d
  refine gb s₁ m 3 #[vr d, vi (Int32.ofNat nz)] [(.int cl1.slots.size.toInt32), (.int (Int32.ofNat nz))] (fun u k => X0.arraylength hx (by rw [e0]; exact Ar1.1) (State.isArrayOf_alike hZ.alike Ar1.2.1) (g := (mkF m 2 #[vr d, vi (Int32.ofNat nz)] [(.ref d), (.int (Int32.ofNat nz))])) rfl rfl (D d8_2) _ k) ?_
  rw [len_of aS1 aM1]
  refine gb s₁ m 8 #[vr d, vi (Int32.ofNat nz)] [(.int ((XT.ushr ((Int32.ofNat nz) - (Int32.ofNat nz)) (31 : Int32)).toInt8.toInt32))] (fun u k => XS.isub X0.here hx rfl (D d8_3) rfl (XT.bipushV X0.here hx rfl (31 : Int32) (D d8_4) (by decide) (XT.iushr X0.here hx rfl (D d8_6) rfl (XT.i2b X0.here hx rfl (D d8_7) rfl k)))) ?_
  have rw2 : ((XT.ushr ((Int32.ofNat nz) - (Int32.ofNat nz)) (31 : Int32)).toInt8.toInt32) = (0 : Int32) := own_cod0 hnz
  rw [rw2]
  obtain ⟨fs, hr, hrun, hended, hW, hsame⟩ := X0.leave (v := some (.int 0)) (fun h => by rw [Bd.returns] at h; cases h)
  refine ⟨_, _, retN X0 hx (t := .byte) Bd.returns (by simp) (D d8_8) hr, hrun, hended, _, _, rfl, ?_, ⟨_, rfl⟩, hW, hsame.mono (by decide) (by decide)⟩
  show Q_own_cod_L Z d nz ef kd h0 n0 _ s₁.heap _
  rw [e0]
  exact ⟨rfl, N0, rfl⟩
theorem own_ef_own_cod_W (m : MethodId) (x0 : Addr) (x1 : Int32) : entryFrame m #[(.ref x0), (.int x1)] 2 = mkF m 0 #[.val (.ref x0), .val (.int x1)] [] := by first | (simp [entryFrame, mkF, argsToLocals, Value.category]; done) | rfl
def Q_own_cod_W (Z : State) (d : Addr) (nz : Nat) (ef : Nat → Int32) (kd : ClassId) (h0 : Heap) (n0 : Nat) (v : Option Value) (h : Heap) (L : List Loc) : Prop := v = some (.int 1) ∧ Fr n0 L ∧ h = h0
theorem own_cod_W (l : Launch) (Z : State) (a0 : Array Value) (hw : ∀ d ∈ tables_1, d.before a0 Z = true) (ws : List Jvm.Cond) (d : Addr) (nz : Nat) (ef : Nat → Int32) (kd : ClassId) (h0 : Heap) (n0 : Nat) (Z0 : n0 ≤ h0.size) (V_d : Arv Z h0 d kd .byte (Int32.ofNat (2 * nz)) (own_l (2 * nz) ef) (.int 0)) (hnz : nz < 6) (hn1 : 0 < nz) :
    own_Met l Z mn7 jdk_52_method_15_code 2 (some .byte) ws rm0 #[(.ref d), (.int (Int32.ofNat nz))] h0 (Q_own_cod_W Z d nz ef kd h0 n0) := by
  refine own_start (plainFor_of_name own_pn0) fun p e s m below meth c s₁ Bd hx hby hml hZ hown hnm X0 e0 => ?_
  have H := @own_hw Z a0 hw
  have D := @hb _ _ hby
  have hown : s.vm.findClass "java/lang/StringUTF16" = some m.cls := hown
  have N0 := Fr.nil n0
  have K0 := Keep.refl h0 []
  rw [own_ef_own_cod_W m d (Int32.ofNat nz)]
  refine gb s₁ m 2 #[vr d, vi (Int32.ofNat nz)] [(.ref d), (.int (Int32.ofNat nz))] (fun u k => XS.iloadN X0.here hx rfl (D d8_0) rfl (XS.aloadN X0.here hx rfl (D d8_1) rfl rfl k)) ?_
  obtain ⟨cl1, Ar1, aq1, aS1, aM1, aH1, aG1⟩ := id V_d
  refine gb s₁ m 3 #[vr d, vi (Int32.ofNat nz)] [(.int cl1.slots.size.toInt32), (.int (Int32.ofNat nz))] (fun u k => X0.arraylength hx (by rw [e0]; exact Ar1.1) (State.isArrayOf_alike hZ.alike Ar1.2.1) (g := (mkF m 2 #[vr d, vi (Int32.ofNat nz)] [(.ref d), (.int (Int32.ofNat nz))])) rfl rfl (D d8_2) _ k) ?_
  rw [len_of aS1 aM1]
  refine gb s₁ m 8 #[vr d, vi (Int32.ofNat nz)] [(.int ((XT.ushr ((Int32.ofNat nz) - (Int32.ofNat (2 * nz))) (31 : Int32)).toInt8.toInt32))] (fun u k => XS.isub X0.here hx rfl (D d8_3) rfl (XT.bipushV X0.here hx rfl (31 : Int32) (D d8_4) (by decide) (XT.iushr X0.here hx rfl (D d8_6) rfl (XT.i2b X0.here hx rfl (D d8_7) rfl k)))) ?_
  have rw2 : ((XT.ushr ((Int32.ofNat nz) - (Int32.ofNat (2 * nz))) (31 : Int32)).toInt8.toInt32) = (1 : Int32) := own_cod1 hn1 hnz
  rw [rw2]
  obtain ⟨fs, hr, hrun, hended, hW, hsame⟩ := X0.leave (v := some (.int 1)) (fun h => by rw [Bd.returns] at h; cases h)
  refine ⟨_, _, retN X0 hx (t := .byte) Bd.returns (by simp) (D d8_8) hr, hrun, hended, _, _, rfl, ?_, ⟨_, rfl⟩, hW, hsame.mono (by decide) (by decide)⟩
  show Q_own_cod_W Z d nz ef kd h0 n0 _ s₁.heap _
  rw [e0]
  exact ⟨rfl, N0, rfl⟩
theorem own_pd6 : parseMethodDescriptor "([BI)B" = some ⟨[(.array .byte), .int], some .byte⟩ := by decide +kernel
theorem own_pn1 : plainName "java/lang/String" = true := by first | (simp [plainName, overriddenIn]; done) | decide +kernel
theorem d4_0 : dc cd4 0 (.aload_n 0) 1 := by decide +kernel
theorem d4_1 : dc cd4 1 (.invokespecial 1) 3 := by decide +kernel
theorem d4_4 : dc cd4 4 (.iload_n 3) 1 := by decide +kernel
theorem d4_5 : dc cd4 5 (.ifCond .ne 22) 3 := by decide +kernel
theorem d4_8 : dc cd4 8 (.aload_n 0) 1 := by decide +kernel
theorem d4_9 : dc cd4 9 (.ldc 7) 2 := by decide +kernel
theorem d4_11 : dc cd4 11 (.getfield 9) 3 := by decide +kernel
theorem d4_14 : dc cd4 14 (.putfield 9) 3 := by decide +kernel
theorem d4_17 : dc cd4 17 (.aload_n 0) 1 := by decide +kernel
theorem d4_18 : dc cd4 18 (.ldc 7) 2 := by decide +kernel
theorem d4_20 : dc cd4 20 (.getfield 15) 3 := by decide +kernel
theorem d4_23 : dc cd4 23 (.putfield 15) 3 := by decide +kernel
theorem d4_26 : dc cd4 26 .return_ 1 := by decide +kernel
theorem d4_27 : dc cd4 27 (.getstatic 38) 3 := by decide +kernel
theorem d4_30 : dc cd4 30 (.ifCond .eq 28) 3 := by decide +kernel
theorem d4_33 : dc cd4 33 (.aload_n 1) 1 := by decide +kernel
theorem d4_34 : dc cd4 34 (.iload_n 2) 1 := by decide +kernel
theorem d4_35 : dc cd4 35 (.iload_n 3) 1 := by decide +kernel
theorem d4_36 : dc cd4 36 (.invokestatic 177) 3 := by decide +kernel
theorem d4_39 : dc cd4 39 (.astore 5) 2 := by decide +kernel
theorem d4_41 : dc cd4 41 (.aload_n 0) 1 := by decide +kernel
theorem d4_42 : dc cd4 42 (.aload 5) 2 := by decide +kernel
theorem d4_44 : dc cd4 44 (.iload_n 3) 1 := by decide +kernel
theorem d4_45 : dc cd4 45 (.invokestatic 47) 3 := by decide +kernel
theorem d4_48 : dc cd4 48 (.putfield 15) 3 := by decide +kernel
theorem d4_51 : dc cd4 51 (.aload_n 0) 1 := by decide +kernel
theorem d4_52 : dc cd4 52 (.aload 5) 2 := by decide +kernel
theorem d4_54 : dc cd4 54 (.putfield 9) 3 := by decide +kernel
theorem d4_57 : dc cd4 57 .return_ 1 := by decide +kernel
theorem own_ef_own_s4 (m : MethodId) (x0 : Addr) (x1 : Addr) (x3 : Int32) : entryFrame m #[(.ref x0), (.ref x1), (.int 0), (.int x3), .null] 6 = mkF m 0 #[.val (.ref x0), .val (.ref x1), .val (.int 0), .val (.int x3), .val .null, .unset] [] := by first | (simp [entryFrame, mkF, argsToLocals, Value.category]; done) | rfl
def Q_own_s4 (Z : State) (a : Addr) (b : Addr) (gC : Int32) (nz : Nat) (cf : Nat → Int32) (kb : ClassId) (h0 : Heap) (n0 : Nat) (v : Option Value) (h : Heap) (L : List Loc) : Prop := v = none ∧ Fr n0 L ∧ Keep h0 h [a] ∧ Exa Z h a "java/lang/String" ∧ (∃ t kt, t ≠ a ∧ Fld Z h a "java/lang/String" "value" "[B" (.ref t) ∧ ((Fld Z h a "java/lang/String" "coder" "B" (.int 0) ∧ Arv Z h t kt .byte (Int32.ofNat nz) (own_l nz (own_lo8 cf)) (.int 0) ∧ ∀ j, j < nz → ¬ (255 : Int32) < cf j) ∨ (0 < nz ∧ Fld Z h a "java/lang/String" "coder" "B" (.int 1) ∧ Arv Z h t kt .byte (Int32.ofNat (2 * nz)) (own_l (2 * nz) (own_w cf)) (.int 0))))
theorem own_s4 (l : Launch) (Z : State) (a0 : Array Value) (hw : ∀ d ∈ tables_1, d.before a0 Z = true) (ws : List Jvm.Cond) (a : Addr) (b : Addr) (gC : Int32) (nz : Nat) (cf : Nat → Int32) (kb : ClassId) (h0 : Heap) (n0 : Nat) (Z0 : n0 ≤ h0.size) (E_a : Exa Z h0 a "java/lang/String") (F_a_value : Fld Z h0 a "java/lang/String" "value" "[B" .null) (F_a_coder : Fld Z h0 a "java/lang/String" "coder" "B" (.int 0)) (g_a : n0 ≤ a) (ne_a_b : a ≠ b) (Old0 : Old Z n0 h0) (SCS : Sta Z Z.heap "java/lang/String" "COMPACT_STRINGS" "Z" (.int gC)) (P5 : ¬ gC = 0) (Sa : Sta Z Z.heap "java/lang/StringUTF16" "$assertionsDisabled" "Z" (.int 1)) (SHI : Sta Z Z.heap "java/lang/StringUTF16" "HI_BYTE_SHIFT" "I" (.int 0)) (SLO : Sta Z Z.heap "java/lang/StringUTF16" "LO_BYTE_SHIFT" "I" (.int 8)) (V_b : Arv Z h0 b kb .char (Int32.ofNat nz) (own_l nz cf) (.int 0)) (hnz : nz < 6) (hn1 : 0 < nz) (hch : ∀ j, j < nz → own_ch (cf j)) :
    own_Met l Z mn8 jdk_42_method_149_code 6 none ws rm4 #[(.ref a), (.ref b), (.int 0), (.int (Int32.ofNat nz)), .null] h0 (Q_own_s4 Z a b gC nz cf kb h0 n0) := by
  refine own_start (plainFor_of_name own_pn1) fun p e s m below meth c s₁ Bd hx hby hml hZ hown hnm X0 e0 => ?_
  have H := @own_hw Z a0 hw
  have D := @hb _ _ hby
  have hown : s.vm.findClass "java/lang/String" = some m.cls := hown
  have N0 := Fr.nil n0
  have K0 := Keep.refl h0 [a]
  rw [own_ef_own_s4 m a b (Int32.ofNat nz)]
  refine gb s₁ m 1 #[vr a, vr b, vi 0, vi (Int32.ofNat nz), .val .null, un] [(.ref a)] (fun u k => XS.aloadN X0.here hx rfl (D d4_0) rfl rfl k) ?_
  obtain ⟨T1, X1, e1, st1⟩ := initO X0 hx hZ hown (H 20 rfl) (H 21 rfl) (H 22 rfl) e0 (g := (mkF m 1 #[vr a, vr b, vi 0, vi (Int32.ofNat nz), .val .null, un] [(.ref a)])) rfl (by rw [hml]; rfl) rfl (D d4_1) (by decide) (W := 0) (own_w0 rfl) (by decide)
  refine gb T1 m 4 #[vr a, vr b, vi 0, vi (Int32.ofNat nz), .val .null, un] [] st1 ?_
  clear st1
  refine gb T1 m 27 #[vr a, vr b, vi 0, vi (Int32.ofNat nz), .val .null, un] [] (fun u k => XS.iloadN X1.here hx rfl (D d4_4) rfl (XS.ifYes X1.here hx rfl (pc0 := 5) (pc' := 27) rfl (D d4_5) rfl (XT.i0_ne_t (own_n0 hn1 (by omega))) (by decide) (by decide) k)) ?_
  obtain ⟨T2, X2, e2, st2⟩ := getS2 X1 hx hZ hown (host := "") (Or.inl (H 23 rfl)) Via.refl e1 (SCS.ext Old0.2) (g := (mkF m 27 #[vr a, vr b, vi 0, vi (Int32.ofNat nz), .val .null, un] [])) rfl (D d4_27)
  refine gb T2 m 30 #[vr a, vr b, vi 0, vi (Int32.ofNat nz), .val .null, un] [(.int gC)] st2 ?_
  clear st2
  refine gb T2 m 36 #[vr a, vr b, vi 0, vi (Int32.ofNat nz), .val .null, un] [(.int (Int32.ofNat nz)), (.int 0), (.ref b)] (fun u k => XS.ifNo X2.here hx rfl (D d4_30) rfl (XT.i0_eq_f P5) (XS.aloadN X2.here hx rfl (D d4_33) rfl rfl (XS.iloadN X2.here hx rfl (D d4_34) rfl (XS.iloadN X2.here hx rfl (D d4_35) rfl k)))) ?_
  obtain ⟨_, _, ⟨T3, L3, k3, n3⟩, -, X3, ⟨Lc3, hQ3, l3, y3, z3⟩, st3⟩ := Jvm.LawKit.callS X2 hx (y := mn6) hown (mvT hZ (H 24 rfl)) (mvT hZ (H 25 rfl)) (mvT hZ (H 26 rfl)) (mvT hZ (H 27 rfl)) (by decide) (backOf (W := 0) (own_cmp3 l Z a0 hw [] b nz cf kb h0 n0 Z0 Old0 Sa SHI SLO V_b hnz hch) hZ (H 27 rfl) (H 26 rfl) (by decide) (by decide)) (g := (mkF m 36 #[vr a, vr b, vi 0, vi (Int32.ofNat nz), .val .null, un] [(.int (Int32.ofNat nz)), (.int 0), (.ref b)])) rfl (by rw [hml]; rfl) (argsL := [(.ref b), (.int 0), (.int (Int32.ofNat nz))]) (rest := []) (lenOf own_pd4 rfl) rfl (own_w0 rfl) (D d4_36) (fun _ _ => ⟨rfl, e2, (by decide : 0 + 2 ≤ _), (by decide : 0 + 15 ≤ _)⟩)
  dsimp only [Pt.U, Pt.locs, Pt.cells, Pt.slots] at X3 l3 y3 z3 st3 hQ3
  subst l3 y3 z3
  obtain ⟨r3, kr3, rfl, N3, Kc3, gb_r3, szc_r3, P3_0⟩ := hQ3
  have NA3 := Fr.app N0 N3
  have Z3 : n0 ≤ T3.heap.size := Nat.le_trans Z0 Kc3.1
  have K3 := K0.trans Kc3 all0
  have O3 := Old0.keep Kc3 all0
  have sz_r3 : h0.size ≤ r3 := Nat.le_trans K0.1 szc_r3
  have ne_a_r3 : a ≠ r3 := Nat.ne_of_lt (Nat.lt_of_lt_of_le E_a.lt szc_r3)
  have ne_b_r3 : b ≠ r3 := Nat.ne_of_lt (Nat.lt_of_lt_of_le V_b.lt szc_r3)
  refine gb T3 m 39 #[vr a, vr b, vi 0, vi (Int32.ofNat nz), .val .null, un] [(.ref r3)] st3 ?_
  clear st3
  rcases P3_0 with ⟨VL, hb9⟩ | VL
  · refine gb T3 m 45 #[vr a, vr b, vi 0, vi (Int32.ofNat nz), .val .null, vr r3] [(.int (Int32.ofNat nz)), (.ref r3), (.ref a)] (fun u k => XS.astore X3.here hx rfl (D d4_39) rfl rfl (l' := #[vr a, vr b, vi 0, vi (Int32.ofNat nz), .val .null, vr r3]) rfl (XS.aloadN X3.here hx rfl (D d4_41) rfl rfl (XS.aload X3.here hx rfl (D d4_42) rfl rfl (XS.iloadN X3.here hx rfl (D d4_44) rfl k)))) ?_
    obtain ⟨_, _, ⟨T4, L4, k4, n4⟩, -, X4, ⟨Lc4, hQ4, l4, y4, z4⟩, st4⟩ := Jvm.LawKit.callS X3 hx (y := mn7) hown (mvT hZ (H 32 rfl)) (mvT hZ (H 33 rfl)) (mvT hZ (H 26 rfl)) (mvT hZ (H 34 rfl)) (by decide) (backOf (W := 1) (own_cod_L l Z a0 hw [] r3 nz (own_lo8 cf) kr3 T3.heap n0 Z3 VL hnz) hZ (H 34 rfl) (H 26 rfl) (by decide) (by decide)) (g := (mkF m 45 #[vr a, vr b, vi 0, vi (Int32.ofNat nz), .val .null, vr r3] [(.int (Int32.ofNat nz)), (.ref r3), (.ref a)])) rfl (by rw [hml]; rfl) (argsL := [(.ref r3), (.int (Int32.ofNat nz))]) (rest := [(.ref a)]) (lenOf own_pd6 rfl) rfl (own_w0 rfl) (D d4_45) (fun _ _ => ⟨rfl, rfl, (by decide : 2 + 0 ≤ _), (by decide : 15 + 0 ≤ _)⟩)
    dsimp only [Pt.U, Pt.locs, Pt.cells, Pt.slots] at X4 l4 y4 z4 st4 hQ4
    subst l4 y4 z4
    obtain ⟨rfl, N4, e4⟩ := hQ4
    have NA4 := Fr.app NA3 N4
    refine gb T4 m 48 #[vr a, vr b, vi 0, vi (Int32.ofNat nz), .val .null, vr r3] [(.int 0), (.ref a)] st4 ?_
    clear st4
    have f6 := (F_a_coder.keep Kc3 nin0)
    have f7 := (E_a.keep Kc3)
    obtain ⟨T5, h5, X5, e5, W5, st5⟩ := putFN X4 hx hZ hown (H 35 rfl) Via.refl e4 f6 f7 (Or.inr ⟨(H 36 rfl), rfl, hnm⟩) (H 11 rfl) (ty := .byte) (v' := (.int 0)) (by decide) rfl rfl (g := (mkF m 48 #[vr a, vr b, vi 0, vi (Int32.ofNat nz), .val .null, vr r3] [(.int 0), (.ref a)])) rfl rfl (D d4_48)
    have Z5 : n0 ≤ h5.size := Nat.le_trans Z3 (Keep.of_wr W5).1
    have K5 := K3.wr W5 (Or.inl (List.mem_of_getElem? (i := 0) rfl))
    have N5 := Fr.snoc X5 NA4 g_a
    have O5 := O3.wr W5 g_a
    have F5 := f6.same W5
    refine gb T5 m 51 #[vr a, vr b, vi 0, vi (Int32.ofNat nz), .val .null, vr r3] [] st5 ?_
    clear st5
    refine gb T5 m 54 #[vr a, vr b, vi 0, vi (Int32.ofNat nz), .val .null, vr r3] [(.ref r3), (.ref a)] (fun u k => XS.aloadN X5.here hx rfl (D d4_51) rfl rfl (XS.aload X5.here hx rfl (D d4_52) rfl rfl k)) ?_
    have f9 := ((F_a_value.keep Kc3 nin0).other W5 (Or.inr (slot_ne (Or.inr (H 38 rfl)) (Or.inr (H 36 rfl)) (by decide) (t := (.array .byte)) (t' := .byte) (by decide) (by decide))))
    have f10 := (f7.wr W5)
    obtain ⟨T8, h8, X8, e8, W8, st8⟩ := putF X5 hx hZ hown (host := "") (Or.inl (H 37 rfl)) Via.refl e5 f9 f10 (Or.inr ⟨(H 38 rfl), rfl, hnm⟩) (H 11 rfl) (ty := (.array .byte)) (by decide) rfl rfl (g := (mkF m 54 #[vr a, vr b, vi 0, vi (Int32.ofNat nz), .val .null, vr r3] [(.ref r3), (.ref a)])) rfl rfl (D d4_54)
    have Z8 : n0 ≤ h8.size := Nat.le_trans Z5 (Keep.of_wr W8).1
    have K8 := K5.wr W8 (Or.inl (List.mem_of_getElem? (i := 0) rfl))
    have N8 := Fr.snoc X8 N5 g_a
    have O8 := O5.wr W8 g_a
    have F8 := f9.same W8
    refine gb T8 m 57 #[vr a, vr b, vi 0, vi (Int32.ofNat nz), .val .null, vr r3] [] st8 ?_
    clear st8
    have f11 := (F5.other W8 (Or.inr (slot_ne (Or.inr (H 36 rfl)) (Or.inr (H 38 rfl)) (by decide) (t := .byte) (t' := (.array .byte)) (by decide) (by decide))))
    have f12 := ((VL.other W5 (Ne.symm ne_a_r3)).other W8 (Ne.symm ne_a_r3))
    have f13 := (f10.wr W8)
    obtain ⟨fs, hr, hrun, hended, hW, hsame⟩ := X8.leave (v := none) (fun _ => rfl)
    refine ⟨_, _, X8.returnOut hx Bd.returns (D d4_57) hr, hrun, hended, _, _, rfl, ?_, ⟨_, rfl⟩, hW, hsame.mono (by decide) (by decide)⟩
    show Q_own_s4 Z a b gC nz cf kb h0 n0 _ T8.heap _
    rw [e8]
    exact ⟨rfl, N8, K8, f13, ⟨r3, kr3, Ne.symm ne_a_r3, F8, Or.inl ⟨f11, f12, hb9⟩⟩⟩
  · refine gb T3 m 45 #[vr a, vr b, vi 0, vi (Int32.ofNat nz), .val .null, vr r3] [(.int (Int32.ofNat nz)), (.ref r3), (.ref a)] (fun u k => XS.astore X3.here hx rfl (D d4_39) rfl rfl (l' := #[vr a, vr b, vi 0, vi (Int32.ofNat nz), .val .null, vr r3]) rfl (XS.aloadN X3.here hx rfl (D d4_41) rfl rfl (XS.aload X3.here hx rfl (D d4_42) rfl rfl (XS.iloadN X3.here hx rfl (D d4_44) rfl k)))) ?_
    obtain ⟨_, _, ⟨T14, L14, k14, n14⟩, -, X14, ⟨Lc14, hQ14, l14, y14, z14⟩, st14⟩ := Jvm.LawKit.callS X3 hx (y := mn7) hown (mvT hZ (H 32 rfl)) (mvT hZ (H 33 rfl)) (mvT hZ (H 26 rfl)) (mvT hZ (H 34 rfl)) (by decide) (backOf (W := 1) (own_cod_W l Z a0 hw [] r3 nz (own_w cf) kr3 T3.heap n0 Z3 VL hnz hn1) hZ (H 34 rfl) (H 26 rfl) (by decide) (by decide)) (g := (mkF m 45 #[vr a, vr b, vi 0, vi (Int32.ofNat nz), .val .null, vr r3] [(.int (Int32.ofNat nz)), (.ref r3), (.ref a)])) rfl (by rw [hml]; rfl) (argsL := [(.ref r3), (.int (Int32.ofNat nz))]) (rest := [(.ref a)]) (lenOf own_pd6 rfl) rfl (own_w0 rfl) (D d4_45) (fun _ _ => ⟨rfl, rfl, (by decide : 2 + 0 ≤ _), (by decide : 15 + 0 ≤ _)⟩)
    dsimp only [Pt.U, Pt.locs, Pt.cells, Pt.slots] at X14 l14 y14 z14 st14 hQ14
    subst l14 y14 z14
    obtain ⟨rfl, N14, e14⟩ := hQ14
    have NA14 := Fr.app NA3 N14
    refine gb T14 m 48 #[vr a, vr b, vi 0, vi (Int32.ofNat nz), .val .null, vr r3] [(.int 1), (.ref a)] st14 ?_
    clear st14
    have f16 := (F_a_coder.keep Kc3 nin0)
    have f17 := (E_a.keep Kc3)
    obtain ⟨T15, h15, X15, e15, W15, st15⟩ := putFN X14 hx hZ hown (H 35 rfl) Via.refl e14 f16 f17 (Or.inr ⟨(H 36 rfl), rfl, hnm⟩) (H 11 rfl) (ty := .byte) (v' := (.int 1)) (by decide) rfl rfl (g := (mkF m 48 #[vr a, vr b, vi 0, vi (Int32.ofNat nz), .val .null, vr r3] [(.int 1), (.ref a)])) rfl rfl (D d4_48)
    have Z15 : n0 ≤ h15.size := Nat.le_trans Z3 (Keep.of_wr W15).1
    have K15 := K3.wr W15 (Or.inl (List.mem_of_getElem? (i := 0) rfl))
    have N15 := Fr.snoc X15 NA14 g_a
    have O15 := O3.wr W15 g_a
    have F15 := f16.same W15
    refine gb T15 m 51 #[vr a, vr b, vi 0, vi (Int32.ofNat nz), .val .null, vr r3] [] st15 ?_
    clear st15
    refine gb T15 m 54 #[vr a, vr b, vi 0, vi (Int32.ofNat nz), .val .null, vr r3] [(.ref r3), (.ref a)] (fun u k => XS.aloadN X15.here hx rfl (D d4_51) rfl rfl (XS.aload X15.here hx rfl (D d4_52) rfl rfl k)) ?_
    have f19 := ((F_a_value.keep Kc3 nin0).other W15 (Or.inr (slot_ne (Or.inr (H 38 rfl)) (Or.inr (H 36 rfl)) (by decide) (t := (.array .byte)) (t' := .byte) (by decide) (by decide))))
    have f20 := (f17.wr W15)
    obtain ⟨T18, h18, X18, e18, W18, st18⟩ := putF X15 hx hZ hown (host := "") (Or.inl (H 37 rfl)) Via.refl e15 f19 f20 (Or.inr ⟨(H 38 rfl), rfl, hnm⟩) (H 11 rfl) (ty := (.array .byte)) (by decide) rfl rfl (g := (mkF m 54 #[vr a, vr b, vi 0, vi (Int32.ofNat nz), .val .null, vr r3] [(.ref r3), (.ref a)])) rfl rfl (D d4_54)
    have Z18 : n0 ≤ h18.size := Nat.le_trans Z15 (Keep.of_wr W18).1
    have K18 := K15.wr W18 (Or.inl (List.mem_of_getElem? (i := 0) rfl))
    have N18 := Fr.snoc X18 N15 g_a
    have O18 := O15.wr W18 g_a
    have F18 := f19.same W18
    refine gb T18 m 57 #[vr a, vr b, vi 0, vi (Int32.ofNat nz), .val .null, vr r3] [] st18 ?_
    clear st18
    have f21 := (F15.other W18 (Or.inr (slot_ne (Or.inr (H 36 rfl)) (Or.inr (H 38 rfl)) (by decide) (t := .byte) (t' := (.array .byte)) (by decide) (by decide))))
    have f22 := ((VL.other W15 (Ne.symm ne_a_r3)).other W18 (Ne.symm ne_a_r3))
    have f23 := (f20.wr W18)
    obtain ⟨fs, hr, hrun, hended, hW, hsame⟩ := X18.leave (v := none) (fun _ => rfl)
    refine ⟨_, _, X18.returnOut hx Bd.returns (D d4_57) hr, hrun, hended, _, _, rfl, ?_, ⟨_, rfl⟩, hW, hsame.mono (by decide) (by decide)⟩
    show Q_own_s4 Z a b gC nz cf kb h0 n0 _ T18.heap _
    rw [e18]
    exact ⟨rfl, N18, K18, f23, ⟨r3, kr3, Ne.symm ne_a_r3, F18, Or.inr ⟨hn1, f21, f22⟩⟩⟩
theorem own_pd7 : parseMethodDescriptor "([CIILjava/lang/Void;)V" = some ⟨[(.array .char), .int, .int, (.object "java/lang/Void")], none⟩ := by decide +kernel
theorem d3_0 : dc cd3 0 (.aload_n 0) 1 := by decide +kernel
theorem d3_1 : dc cd3 1 (.aload_n 1) 1 := by decide +kernel
theorem d3_2 : dc cd3 2 (.iconst 0) 1 := by decide +kernel
theorem d3_3 : dc cd3 3 (.aload_n 1) 1 := by decide +kernel
theorem d3_4 : dc cd3 4 .arraylength 1 := by decide +kernel
theorem d3_5 : dc cd3 5 .aconst_null 1 := by decide +kernel
theorem d3_6 : dc cd3 6 (.invokespecial 27) 3 := by decide +kernel
theorem d3_9 : dc cd3 9 .return_ 1 := by decide +kernel
theorem own_ef_own_s1 (m : MethodId) (x0 : Addr) (x1 : Addr) : entryFrame m #[(.ref x0), (.ref x1)] 2 = mkF m 0 #[.val (.ref x0), .val (.ref x1)] [] := by first | (simp [entryFrame, mkF, argsToLocals, Value.category]; done) | rfl
def Q_own_s1 (Z : State) (a : Addr) (b : Addr) (gC : Int32) (nz : Nat) (cf : Nat → Int32) (kb : ClassId) (h0 : Heap) (n0 : Nat) (v : Option Value) (h : Heap) (L : List Loc) : Prop := v = none ∧ Fr n0 L ∧ Keep h0 h [a] ∧ Exa Z h a "java/lang/String" ∧ (∃ t kt, t ≠ a ∧ Fld Z h a "java/lang/String" "value" "[B" (.ref t) ∧ ((Fld Z h a "java/lang/String" "coder" "B" (.int 0) ∧ Arv Z h t kt .byte (Int32.ofNat nz) (own_l nz (own_lo8 cf)) (.int 0) ∧ ∀ j, j < nz → ¬ (255 : Int32) < cf j) ∨ (0 < nz ∧ Fld Z h a "java/lang/String" "coder" "B" (.int 1) ∧ Arv Z h t kt .byte (Int32.ofNat (2 * nz)) (own_l (2 * nz) (own_w cf)) (.int 0))))
theorem own_s1 (l : Launch) (Z : State) (a0 : Array Value) (hw : ∀ d ∈ tables_1, d.before a0 Z = true) (ws : List Jvm.Cond) (a : Addr) (b : Addr) (gC : Int32) (nz : Nat) (cf : Nat → Int32) (kb : ClassId) (h0 : Heap) (n0 : Nat) (Z0 : n0 ≤ h0.size) (E_a : Exa Z h0 a "java/lang/String") (F_a_value : Fld Z h0 a "java/lang/String" "value" "[B" .null) (F_a_coder : Fld Z h0 a "java/lang/String" "coder" "B" (.int 0)) (g_a : n0 ≤ a) (ne_a_b : a ≠ b) (Old0 : Old Z n0 h0) (SCS : Sta Z Z.heap "java/lang/String" "COMPACT_STRINGS" "Z" (.int gC)) (P5 : ¬ gC = 0) (Sa : Sta Z Z.heap "java/lang/StringUTF16" "$assertionsDisabled" "Z" (.int 1)) (SHI : Sta Z Z.heap "java/lang/StringUTF16" "HI_BYTE_SHIFT" "I" (.int 0)) (SLO : Sta Z Z.heap "java/lang/StringUTF16" "LO_BYTE_SHIFT" "I" (.int 8)) (V_b : Arv Z h0 b kb .char (Int32.ofNat nz) (own_l nz cf) (.int 0)) (hnz : nz < 6) (hn1 : 0 < nz) (hch : ∀ j, j < nz → own_ch (cf j)) :
    own_Met l Z mn9 jdk_42_method_3_code 2 none ws rm5 #[(.ref a), (.ref b)] h0 (Q_own_s1 Z a b gC nz cf kb h0 n0) := by
  refine own_start (plainFor_of_name own_pn1) fun p e s m below meth c s₁ Bd hx hby hml hZ hown hnm X0 e0 => ?_
  have H := @own_hw Z a0 hw
  have D := @hb _ _ hby
  have hown : s.vm.findClass "java/lang/String" = some m.cls := hown
  have N0 := Fr.nil n0
  have K0 := Keep.refl h0 [a]
  rw [own_ef_own_s1 m a b]
  refine gb s₁ m 4 #[vr a, vr b] [(.ref b), (.int 0), (.ref b), (.ref a)] (fun u k => XS.aloadN X0.here hx rfl (D d3_0) rfl rfl (XS.aloadN X0.here hx rfl (D d3_1) rfl rfl (XT.iconstV X0.here hx rfl (0 : Int32) (D d3_2) (by decide) (XS.aloadN X0.here hx rfl (D d3_3) rfl rfl k)))) ?_
  obtain ⟨cl1, Ar1, aq1, aS1, aM1, aH1, aG1⟩ := id V_b
  refine gb s₁ m 5 #[vr a, vr b] [(.int cl1.slots.size.toInt32), (.int 0), (.ref b), (.ref a)] (fun u k => X0.arraylength hx (by rw [e0]; exact Ar1.1) (State.isArrayOf_alike hZ.alike Ar1.2.1) (g := (mkF m 4 #[vr a, vr b] [(.ref b), (.int 0), (.ref b), (.ref a)])) rfl rfl (D d3_4) _ k) ?_
  rw [len_of aS1 aM1]
  refine gb s₁ m 6 #[vr a, vr b] [.null, (.int (Int32.ofNat nz)), (.int 0), (.ref b), (.ref a)] (fun u k => XS.aconstNull X0.here hx rfl (D d3_5) k) ?_
  obtain ⟨_, _, ⟨T2, L2, k2, n2⟩, -, X2, ⟨Lc2, hQ2, l2, y2, z2⟩, st2⟩ := X0.specialBack hx (y := mn8) rfl hown (mvT hZ (H 16 rfl)) (mvT hZ (H 17 rfl)) (mvT hZ (H 19 rfl)) (by decide) (backOf (W := 0) (own_s4 l Z a0 hw [] a b gC nz cf kb h0 n0 Z0 E_a F_a_value F_a_coder g_a ne_a_b Old0 SCS P5 Sa SHI SLO V_b hnz hn1 hch) hZ (H 19 rfl) (H 12 rfl) (by decide) (by decide)) (g := (mkF m 6 #[vr a, vr b] [.null, (.int (Int32.ofNat nz)), (.int 0), (.ref b), (.ref a)])) rfl (by rw [hml]; rfl) (Steps.refl _) (a := a) (argsL := [(.ref b), (.int 0), (.int (Int32.ofNat nz)), .null]) (rest := []) (lenOf own_pd7 rfl) rfl (own_w0 rfl) (D d3_6) (fun _ _ => ⟨rfl, e0, (by decide : 0 + 2 ≤ _), (by decide : 0 + 15 ≤ _)⟩)
  dsimp only [Pt.U, Pt.locs, Pt.cells, Pt.slots] at X2 l2 y2 z2 st2 hQ2
  subst l2 y2 z2
  obtain ⟨rfl, N2, Kc2, P2_0, P2_1⟩ := hQ2
  have NA2 := Fr.app N0 N2
  have Z2 : n0 ≤ T2.heap.size := Nat.le_trans Z0 Kc2.1
  have K2 := K0.trans Kc2 (allS (Or.inl (List.mem_of_getElem? (i := 0) rfl)) all0)
  have O2 := Old0.keep Kc2 (allS g_a all0)
  refine gb T2 m 9 #[vr a, vr b] [] (fun u k => st2.trans k) ?_
  clear st2
  obtain ⟨fs, hr, hrun, hended, hW, hsame⟩ := X2.leave (v := none) (fun _ => rfl)
  refine ⟨_, _, X2.returnOut hx Bd.returns (D d3_9) hr, hrun, hended, _, _, rfl, ?_, ⟨_, rfl⟩, hW, hsame.mono (by decide) (by decide)⟩
  show Q_own_s1 Z a b gC nz cf kb h0 n0 _ T2.heap _
  exact ⟨rfl, NA2, K2, P2_0, P2_1⟩
theorem own_ef_own_s4_0 (m : MethodId) (x0 : Addr) (x1 : Addr) : entryFrame m #[(.ref x0), (.ref x1), (.int 0), (.int 0), .null] 6 = mkF m 0 #[.val (.ref x0), .val (.ref x1), .val (.int 0), .val (.int 0), .val .null, .unset] [] := by first | (simp [entryFrame, mkF, argsToLocals, Value.category]; done) | rfl
def Q_own_s4_0 (Z : State) (a : Addr) (b : Addr) (h0 : Heap) (n0 : Nat) (v : Option Value) (h : Heap) (L : List Loc) : Prop := ∃ t : Nat, ∃ kb : ClassId, v = none ∧ Fr n0 L ∧ Keep h0 h [a] ∧ Exa Z h a "java/lang/String" ∧ Fld Z h a "java/lang/String" "value" "[B" (.ref t) ∧ Fld Z h a "java/lang/String" "coder" "B" (.int 0) ∧ Arv Z h t kb .byte (0 : Int32) [] (.int 0) ∧ t ≠ a
theorem own_s4_0 (l : Launch) (Z : State) (a0 : Array Value) (hw : ∀ d ∈ tables_1, d.before a0 Z = true) (ws : List Jvm.Cond) (a : Addr) (b : Addr) (h0 : Heap) (n0 : Nat) (Z0 : n0 ≤ h0.size) (E_a : Exa Z h0 a "java/lang/String") (F_a_value : Fld Z h0 a "java/lang/String" "value" "[B" .null) (F_a_coder : Fld Z h0 a "java/lang/String" "coder" "B" (.int 0)) (g_a : n0 ≤ a) :
    MetFree l mn8 (head1 (Jvm.Cond.code mn8 jdk_42_method_149_code 6 none :: ws) rm6) (fun as_ U => as_ = #[(.ref a), (.ref b), (.int 0), (.int 0), .null] ∧ Z.Warmed39 U.vm ∧ U.heap = h0 ∧ CHv Z own_EL U.vm h0) (fun _ _ _ _ _ => True) (fun _ U o U' => ∃ v L, o = .returned v ∧ Q_own_s4_0 Z a b h0 n0 v U'.heap L ∧ CHr Z own_EL U.vm U.heap U'.vm U'.heap ∧ ReturnedEndW U o U' L rm6.cells rm6.slots) := by
  refine MetFree.of_bodySF (plainFor_of_name own_pn1) hisR ?_
  intro p e s m args below meth c s₁ Bd hml0 hP hK
  obtain ⟨rfl, hZ, hh, hCH⟩ := hP
  have R0 := CHr.refl hCH
  have hEL : EW Z a0 own_EL := own_hEL hw
  have hx := Bd.exec
  have hby := Bd.bytes
  have H := @own_hw Z a0 hw
  have D := @hb _ _ hby
  have hml : c.maxLocals = 6 := hml0
  have hown : s.vm.findClass "java/lang/String" = some m.cls := findClass_of_methodNamed Bd.named
  have hnm := (name_of_methodNamed Bd.named Bd.method).1
  have X0 : Stand p l e rm6 s m #[(.ref a), (.ref b), (.int 0), (.int 0), .null] below meth c s₁ [] 0 0 := Stand.of_body Bd
  have e0 : s₁.heap = h0 := by rw [← hh, Bd.state]; rfl
  have N0 := Fr.nil n0
  have K0 := Keep.refl h0 [a]
  have hS0 : s.Since s.vm s.heap.size := (State.WarmedH.refl s).since _
  have hk0 : s.heap.size ≤ h0.size := by rw [hh]; exact Nat.le_refl _
  show Go p e below (own_FH Z s below (Q_own_s4_0 Z a b h0 n0) rm6.cells rm6.slots) (s₁.setTop (entryFrame m #[(.ref a), (.ref b), (.int 0), (.int 0), .null] 6))
  rw [own_ef_own_s4_0 m a b]
  have Sf0_a := own_safe_null (EL := own_EL) hZ.alike E_a F_a_value
  refine gb s₁ m 1 #[vr a, vr b, vi 0, vi 0, .val .null, un] [(.ref a)] (fun u k => XS.aloadN X0.here hx rfl (D d4_0) rfl rfl k) ?_
  obtain ⟨T1, X1, e1, st1⟩ := initO X0 hx hZ hown (H 20 rfl) (H 21 rfl) (H 22 rfl) e0 (g := (mkF m 1 #[vr a, vr b, vi 0, vi 0, .val .null, un] [(.ref a)])) rfl (by rw [hml]; rfl) rfl (D d4_1) (by decide) (W := 0) (own_w0 rfl) (by decide)
  refine gb T1 m 4 #[vr a, vr b, vi 0, vi 0, .val .null, un] [] st1 ?_
  clear st1
  refine gb T1 m 9 #[vr a, vr b, vi 0, vi 0, .val .null, un] [(.ref a)] (fun u k => XS.iloadN X1.here hx rfl (D d4_4) rfl (XS.ifNo X1.here hx rfl (D d4_5) rfl (XT.i0_ne_f (by decide)) (XS.aloadN X1.here hx rfl (D d4_8) rfl rfl k))) ?_
  have wS : ∀ d ∈ Bundle.stringAtoms, d.before a0 Z = true := fun d hd => hw d ((by decide +kernel : ∀ d ∈ Bundle.stringAtoms, d ∈ tables_1) d hd)
  obtain ⟨a2, T2, h2, kk2, b2, kb2, X2, e2, E2, hS2, hk2, hZ, hown, EA2, FC2, FV2, VA2, lta2, ltb2, hC2, hLit2, hne2, st2⟩ := ldcCH (s := s) (vm0 := s.vm) X1 hx hZ hown (H 205 rfl) wS e1 hS0 hk0 hEL (List.mem_cons_self ..) R0.1 (vs := []) (z := (0 : Int32)) ⟨by decide, rfl⟩ (by decide) rfl (g := (mkF m 9 #[vr a, vr b, vi 0, vi 0, .val .null, un] [(.ref a)])) rfl (D d4_9) (n := 0) (by decide) (by decide) (by decide) (by decide)
  have Z2 : n0 ≤ h2.size := Nat.le_trans Z0 E2.1
  have K2 := K0.ext E2
  have Sf2_a := CHr.safe hC2 E_a.lt Sf0_a
  have R2 := R0.trans hC2
  have ne_a_a2 : a ≠ a2 := (hne2 _ Sf2_a).1
  have ne_a_b2 : a ≠ b2 := (hne2 _ Sf2_a).2
  refine gb T2 m 11 #[vr a, vr b, vi 0, vi 0, .val .null, un] [(.ref a2), (.ref a)] st2 ?_
  obtain ⟨T3, X3, e3, st3⟩ := getF X2 hx hZ hown (host := "") (Or.inl (H 37 rfl)) Via.refl e2 FV2 (g := (mkF m 11 #[vr a, vr b, vi 0, vi 0, .val .null, un] [(.ref a2), (.ref a)])) rfl rfl (D d4_11)
  refine gb T3 m 14 #[vr a, vr b, vi 0, vi 0, .val .null, un] [(.ref b2), (.ref a)] st3 ?_
  clear st3
  have f5 := (F_a_value.ext E2)
  have f6 := (E_a.ext E2)
  obtain ⟨T4, h4, X4, e4, W4, st4⟩ := putF X3 hx hZ hown (host := "") (Or.inl (H 37 rfl)) Via.refl e3 f5 f6 (Or.inr ⟨(H 38 rfl), rfl, hnm⟩) (H 11 rfl) (ty := (.array .byte)) (by decide) rfl rfl (g := (mkF m 14 #[vr a, vr b, vi 0, vi 0, .val .null, un] [(.ref b2), (.ref a)])) rfl rfl (D d4_14)
  have Z4 : n0 ≤ h4.size := Nat.le_trans Z2 (Keep.of_wr W4).1
  have K4 := K2.wr W4 (Or.inl (List.mem_of_getElem? (i := 0) rfl))
  have N4 := Fr.snoc X4 N0 g_a
  have hk4 := Nat.le_trans hk2 (Keep.of_wr W4).1
  have Sf4_a := Safe.wr W4 Sf2_a R2.1 Sf2_a
  have R4 := R2.trans (CHr.wr W4 Sf2_a R2.1)
  have F4 := f5.same W4
  refine gb T4 m 17 #[vr a, vr b, vi 0, vi 0, .val .null, un] [] st4 ?_
  clear st4
  refine gb T4 m 18 #[vr a, vr b, vi 0, vi 0, .val .null, un] [(.ref a)] (fun u k => XS.aloadN X4.here hx rfl (D d4_17) rfl rfl k) ?_
  have f8 := (f6.wr W4)
  obtain ⟨a7, T7, h7, kk7, b7, kb7, X7, e7, E7, hS7, hk7, hZ, hown, EA7, FC7, FV7, VA7, lta7, ltb7, hC7, hLit7, hne7, st7⟩ := ldcCH (s := s) (vm0 := T2.vm) X4 hx hZ hown (H 205 rfl) wS e4 hS2 hk4 hEL (List.mem_cons_self ..) R4.1 (vs := []) (z := (0 : Int32)) ⟨by decide, rfl⟩ (by decide) rfl (g := (mkF m 18 #[vr a, vr b, vi 0, vi 0, .val .null, un] [(.ref a)])) rfl (D d4_18) (n := 0) (by decide) (by decide) (by decide) (by decide)
  have Z7 : n0 ≤ h7.size := Nat.le_trans Z4 E7.1
  have K7 := K4.ext E7
  have Sf7_a := CHr.safe hC7 f8.lt Sf4_a
  have R7 := R4.trans hC7
  have ne_a_a7 : a ≠ a7 := (hne7 _ Sf7_a).1
  have ne_a_b7 : a ≠ b7 := (hne7 _ Sf7_a).2
  refine gb T7 m 20 #[vr a, vr b, vi 0, vi 0, .val .null, un] [(.ref a7), (.ref a)] st7 ?_
  obtain ⟨T9, X9, e9, st9⟩ := getF X7 hx hZ hown (host := "") (Or.inl (H 35 rfl)) Via.refl e7 FC7 (g := (mkF m 20 #[vr a, vr b, vi 0, vi 0, .val .null, un] [(.ref a7), (.ref a)])) rfl rfl (D d4_20)
  refine gb T9 m 23 #[vr a, vr b, vi 0, vi 0, .val .null, un] [(.int 0), (.ref a)] st9 ?_
  clear st9
  have f11 := (((F_a_coder.ext E2).other W4 (Or.inr (slot_ne (Or.inr (H 36 rfl)) (Or.inr (H 38 rfl)) (by decide) (t := .byte) (t' := (.array .byte)) (by decide) (by decide)))).ext E7)
  have f12 := (f8.ext E7)
  obtain ⟨T10, h10, X10, e10, W10, st10⟩ := putFN X9 hx hZ hown (H 35 rfl) Via.refl e9 f11 f12 (Or.inr ⟨(H 36 rfl), rfl, hnm⟩) (H 11 rfl) (ty := .byte) (v' := (.int 0)) (by decide) rfl rfl (g := (mkF m 23 #[vr a, vr b, vi 0, vi 0, .val .null, un] [(.int 0), (.ref a)])) rfl rfl (D d4_23)
  have Z10 : n0 ≤ h10.size := Nat.le_trans Z7 (Keep.of_wr W10).1
  have K10 := K7.wr W10 (Or.inl (List.mem_of_getElem? (i := 0) rfl))
  have N10 := Fr.snoc X10 N4 g_a
  have hk10 := Nat.le_trans hk7 (Keep.of_wr W10).1
  have Sf10_a := Safe.wr W10 Sf7_a R7.1 Sf7_a
  have R10 := R7.trans (CHr.wr W10 Sf7_a R7.1)
  have F10 := f11.same W10
  refine gb T10 m 26 #[vr a, vr b, vi 0, vi 0, .val .null, un] [] st10 ?_
  clear st10
  have f13 := (f12.wr W10)
  have f14 := ((F4.ext E7).other W10 (Or.inr (slot_ne (Or.inr (H 38 rfl)) (Or.inr (H 36 rfl)) (by decide) (t := (.array .byte)) (t' := .byte) (by decide) (by decide))))
  have f15 := (((VA2.other W4 (Ne.symm ne_a_b2)).ext E7).other W10 (Ne.symm ne_a_b2))
  obtain ⟨fs, hr, hrun, hended, hFW⟩ := Jvm.Stand.leaveW (s := s) (vm₁ := T7.vm) X10 hS7 (by rw [e10]; exact hk10) (v := none) (fun _ => rfl)
  have RF := R10.trans (CHv.at (s := s) (vm0 := T7.vm) X10 hZ hEL R10.1)
  refine ⟨_, _, X10.returnOut hx Bd.returns (D d4_26) hr, hrun, hended, _, _, rfl, ?_, ?_, hFW.1, hFW.2.1, hFW.2.2.1, hFW.2.2.2.mono (by decide) (by decide)⟩
  · show Q_own_s4_0 Z a b h0 n0 _ T10.heap _
    rw [e10]
    exact ⟨b2, kb2, rfl, N10, K10, f13, f14, F10, f15, (Ne.symm ne_a_b2)⟩
  · show CHr Z own_EL s.vm s.heap T10.vm T10.heap
    rw [hh, e10]
    exact RF
theorem own_ef_own_s1_0 (m : MethodId) (x0 : Addr) (x1 : Addr) : entryFrame m #[(.ref x0), (.ref x1)] 2 = mkF m 0 #[.val (.ref x0), .val (.ref x1)] [] := by first | (simp [entryFrame, mkF, argsToLocals, Value.category]; done) | rfl
def Q_own_s1_0 (Z : State) (a : Addr) (b : Addr) (kc : ClassId) (h0 : Heap) (n0 : Nat) (v : Option Value) (h : Heap) (L : List Loc) : Prop := ∃ t : Nat, ∃ kb : ClassId, v = none ∧ Fr n0 L ∧ Keep h0 h [a] ∧ Exa Z h a "java/lang/String" ∧ Fld Z h a "java/lang/String" "value" "[B" (.ref t) ∧ Fld Z h a "java/lang/String" "coder" "B" (.int 0) ∧ Arv Z h t kb .byte (0 : Int32) [] (.int 0) ∧ t ≠ a
theorem own_s1_0 (l : Launch) (Z : State) (a0 : Array Value) (hw : ∀ d ∈ tables_1, d.before a0 Z = true) (ws : List Jvm.Cond) (a : Addr) (b : Addr) (kc : ClassId) (h0 : Heap) (n0 : Nat) (Z0 : n0 ≤ h0.size) (E_a : Exa Z h0 a "java/lang/String") (F_a_value : Fld Z h0 a "java/lang/String" "value" "[B" .null) (F_a_coder : Fld Z h0 a "java/lang/String" "coder" "B" (.int 0)) (g_a : n0 ≤ a) (V_b : Arv Z h0 b kc .char (0 : Int32) [] (.int 0)) :
    MetFree l mn9 (head1 (Jvm.Cond.code mn9 jdk_42_method_3_code 2 none :: ws) rm7) (fun as_ U => as_ = #[(.ref a), (.ref b)] ∧ Z.Warmed39 U.vm ∧ U.heap = h0 ∧ CHv Z own_EL U.vm h0) (fun _ _ _ _ _ => True) (fun _ U o U' => ∃ v L, o = .returned v ∧ Q_own_s1_0 Z a b kc h0 n0 v U'.heap L ∧ CHr Z own_EL U.vm U.heap U'.vm U'.heap ∧ ReturnedEndW U o U' L rm7.cells rm7.slots) := by
  refine MetFree.of_bodySF (plainFor_of_name own_pn1) hisR ?_
  intro p e s m args below meth c s₁ Bd hml0 hP hK
  obtain ⟨rfl, hZ, hh, hCH⟩ := hP
  have R0 := CHr.refl hCH
  have hEL : EW Z a0 own_EL := own_hEL hw
  have hx := Bd.exec
  have hby := Bd.bytes
  have H := @own_hw Z a0 hw
  have D := @hb _ _ hby
  have hml : c.maxLocals = 2 := hml0
  have hown : s.vm.findClass "java/lang/String" = some m.cls := findClass_of_methodNamed Bd.named
  have hnm := (name_of_methodNamed Bd.named Bd.method).1
  have X0 : Stand p l e rm7 s m #[(.ref a), (.ref b)] below meth c s₁ [] 0 0 := Stand.of_body Bd
  have e0 : s₁.heap = h0 := by rw [← hh, Bd.state]; rfl
  have N0 := Fr.nil n0
  have K0 := Keep.refl h0 [a]
  have hS0 : s.Since s.vm s.heap.size := (State.WarmedH.refl s).since _
  have hk0 : s.heap.size ≤ h0.size := by rw [hh]; exact Nat.le_refl _
  show Go p e below (own_FH Z s below (Q_own_s1_0 Z a b kc h0 n0) rm7.cells rm7.slots) (s₁.setTop (entryFrame m #[(.ref a), (.ref b)] 2))
  rw [own_ef_own_s1_0 m a b]
  have Sf0_a := own_safe_null (EL := own_EL) hZ.alike E_a F_a_value
  refine gb s₁ m 4 #[vr a, vr b] [(.ref b), (.int 0), (.ref b), (.ref a)] (fun u k => XS.aloadN X0.here hx rfl (D d3_0) rfl rfl (XS.aloadN X0.here hx rfl (D d3_1) rfl rfl (XT.iconstV X0.here hx rfl (0 : Int32) (D d3_2) (by decide) (XS.aloadN X0.here hx rfl (D d3_3) rfl rfl k)))) ?_
  obtain ⟨cl1, Ar1, aq1, aS1, aM1, aH1, aG1⟩ := id V_b
  refine gb s₁ m 5 #[vr a, vr b] [(.int cl1.slots.size.toInt32), (.int 0), (.ref b), (.ref a)] (fun u k => X0.arraylength hx (by rw [e0]; exact Ar1.1) (State.isArrayOf_alike hZ.alike Ar1.2.1) (g := (mkF m 4 #[vr a, vr b] [(.ref b), (.int 0), (.ref b), (.ref a)])) rfl rfl (D d3_4) _ k) ?_
  rw [len_of aS1 aM1]
  refine gb s₁ m 6 #[vr a, vr b] [.null, (.int 0), (.int 0), (.ref b), (.ref a)] (fun u k => XS.aconstNull X0.here hx rfl (D d3_5) k) ?_
  obtain ⟨_, _, ⟨T2, L2, k2, n2⟩, -, X2, hT2, hg2, ⟨Lc2, hQ2, l2, y2, z2, hC2⟩, st2⟩ := X0.specialBackS hx (y := mn8) rfl hown (mvT hZ (H 16 rfl)) (mvT hZ (H 17 rfl)) (mvT hZ (H 19 rfl)) (by decide) (backOfSH (s := s) (vm0 := s.vm) (W := 0) (own_s4_0 l Z a0 hw [] a b h0 n0 Z0 E_a F_a_value F_a_coder g_a) hZ (H 19 rfl) (H 12 rfl) (by decide) (by decide) hEL R0.1) (g := (mkF m 6 #[vr a, vr b] [.null, (.int 0), (.int 0), (.ref b), (.ref a)])) rfl (by rw [hml]; rfl) (Steps.refl _) (a := a) (argsL := [(.ref b), (.int 0), (.int 0), .null]) (rest := []) (lenOf own_pd7 rfl) rfl (own_w0 rfl) (D d3_6) (fun _ _ => ⟨rfl, e0, (by decide : 0 + 4 ≤ _), (by decide : 0 + 8 ≤ _)⟩)
  dsimp only [Pt.U, Pt.locs, Pt.cells, Pt.slots] at X2 l2 y2 z2 st2 hQ2 hT2 hg2 hC2
  subst l2 y2 z2
  obtain ⟨X2, hS2, hZ, hown⟩ := rebS (s := s) (vm0 := s.vm) hS0 (by rw [e0]; exact hk0) X2 hT2 hg2 hZ hown
  have Sf2_a := CHr.safe hC2 E_a.lt Sf0_a
  have R2 := R0.trans hC2
  obtain ⟨t2, kb2, rfl, N2, Kc2, P2_0, P2_1, P2_2, P2_3, P2_4⟩ := hQ2
  have NA2 := Fr.app N0 N2
  have Z2 : n0 ≤ T2.heap.size := Nat.le_trans Z0 Kc2.1
  have K2 := K0.trans Kc2 (allS (Or.inl (List.mem_of_getElem? (i := 0) rfl)) all0)
  refine gb T2 m 9 #[vr a, vr b] [] (fun u k => st2.trans k) ?_
  clear st2
  obtain ⟨fs, hr, hrun, hended, hFW⟩ := Jvm.Stand.leaveW (s := s) (vm₁ := T2.vm) X2 hS2 (Nat.le_refl _) (v := none) (fun _ => rfl)
  have RF := R2.trans (CHv.at (s := s) (vm0 := T2.vm) X2 hZ hEL R2.1)
  refine ⟨_, _, X2.returnOut hx Bd.returns (D d3_9) hr, hrun, hended, _, _, rfl, ?_, ?_, hFW.1, hFW.2.1, hFW.2.2.1, hFW.2.2.2.mono (by decide) (by decide)⟩
  · show Q_own_s1_0 Z a b kc h0 n0 _ T2.heap _
    exact ⟨t2, kb2, rfl, NA2, K2, P2_0, P2_1, P2_2, P2_3, P2_4⟩
  · show CHr Z own_EL s.vm s.heap T2.vm T2.heap
    rw [hh]
    exact RF
theorem own_isref {v : Value} (h : v.isRef = true) : v = .null ∨ ∃ a, v = .ref a := by
  cases v <;> first | exact Or.inl rfl | exact Or.inr ⟨_, rfl⟩ | (simp [Value.isRef] at h)
theorem d12_0 : dc cd12 0 (.getstatic 38) 3 := by decide +kernel
theorem d12_3 : dc cd12 3 (.ifCond .eq 14) 3 := by decide +kernel
theorem d12_6 : dc cd12 6 (.aload_n 0) 1 := by decide +kernel
theorem d12_7 : dc cd12 7 (.getfield 15) 3 := by decide +kernel
theorem d12_10 : dc cd12 10 (.ifCond .ne 7) 3 := by decide +kernel
theorem d12_13 : dc cd12 13 (.iconst 1) 1 := by decide +kernel
theorem d12_14 : dc cd12 14 (.goto 4) 3 := by decide +kernel
theorem d12_17 : dc cd12 17 (.iconst 0) 1 := by decide +kernel
theorem d12_18 : dc cd12 18 .ireturn 1 := by decide +kernel
theorem own_ef_own_isl_0 (m : MethodId) (x0 : Addr) : entryFrame m #[(.ref x0)] 1 = mkF m 0 #[.val (.ref x0)] [] := by first | (simp [entryFrame, mkF, argsToLocals, Value.category]; done) | rfl
def Q_own_isl_0 (Z : State) (a : Addr) (gC : Int32) (h0 : Heap) (n0 : Nat) (v : Option Value) (h : Heap) (L : List Loc) : Prop := v = some (.int 1) ∧ Fr n0 L ∧ h = h0
theorem own_isl_0 (l : Launch) (Z : State) (a0 : Array Value) (hw : ∀ d ∈ tables_1, d.before a0 Z = true) (ws : List Jvm.Cond) (a : Addr) (gC : Int32) (h0 : Heap) (n0 : Nat) (Z0 : n0 ≤ h0.size) (F_a_coder : Fld Z h0 a "java/lang/String" "coder" "B" (.int 0)) (Old0 : Old Z n0 h0) (SCS : Sta Z Z.heap "java/lang/String" "COMPACT_STRINGS" "Z" (.int gC)) (P5 : ¬ gC = 0) :
    own_Met l Z mn10 jdk_42_method_154_code 1 (some .boolean) ws rm0 #[(.ref a)] h0 (Q_own_isl_0 Z a gC h0 n0) := by
  refine own_start (plainFor_of_name own_pn1) fun p e s m below meth c s₁ Bd hx hby hml hZ hown hnm X0 e0 => ?_
  have H := @own_hw Z a0 hw
  have D := @hb _ _ hby
  have hown : s.vm.findClass "java/lang/String" = some m.cls := hown
  have N0 := Fr.nil n0
  have K0 := Keep.refl h0 []
  rw [own_ef_own_isl_0 m a]
  obtain ⟨T1, X1, e1, st1⟩ := getS2 X0 hx hZ hown (host := "") (Or.inl (H 23 rfl)) Via.refl e0 (SCS.ext Old0.2) (g := (mkF m 0 #[vr a] [])) rfl (D d12_0)
  refine gb T1 m 3 #[vr a] [(.int gC)] st1 ?_
  clear st1
  refine gb T1 m 7 #[vr a] [(.ref a)] (fun u k => XS.ifNo X1.here hx rfl (D d12_3) rfl (XT.i0_eq_f P5) (XS.aloadN X1.here hx rfl (D d12_6) rfl rfl k)) ?_
  obtain ⟨T2, X2, e2, st2⟩ := getF X1 hx hZ hown (host := "") (Or.inl (H 35 rfl)) Via.refl e1 F_a_coder (g := (mkF m 7 #[vr a] [(.ref a)])) rfl rfl (D d12_7)
  refine gb T2 m 10 #[vr a] [(.int 0)] st2 ?_
  clear st2
  refine gb T2 m 18 #[vr a] [(.int 1)] (fun u k => XS.ifNo X2.here hx rfl (D d12_10) rfl (XT.i0_ne_f (by decide)) (XT.iconstV X2.here hx rfl (1 : Int32) (D d12_13) (by decide) (XS.goto X2.here hx rfl (pc0 := 14) (pc' := 18) rfl (D d12_14) (by decide) (by decide) k))) ?_
  obtain ⟨fs, hr, hrun, hended, hW, hsame⟩ := X2.leave (v := some (.int 1)) (fun h => by rw [Bd.returns] at h; cases h)
  refine ⟨_, _, retN X2 hx (t := .boolean) Bd.returns (by simp) (D d12_18) hr, hrun, hended, _, _, rfl, ?_, ⟨_, rfl⟩, hW, hsame.mono (by decide) (by decide)⟩
  show Q_own_isl_0 Z a gC h0 n0 _ T2.heap _
  rw [e2]
  exact ⟨rfl, N0, rfl⟩
theorem own_ef_own_isl_1 (m : MethodId) (x0 : Addr) : entryFrame m #[(.ref x0)] 1 = mkF m 0 #[.val (.ref x0)] [] := by first | (simp [entryFrame, mkF, argsToLocals, Value.category]; done) | rfl
def Q_own_isl_1 (Z : State) (a : Addr) (gC : Int32) (h0 : Heap) (n0 : Nat) (v : Option Value) (h : Heap) (L : List Loc) : Prop := v = some (.int 0) ∧ Fr n0 L ∧ h = h0
theorem own_isl_1 (l : Launch) (Z : State) (a0 : Array Value) (hw : ∀ d ∈ tables_1, d.before a0 Z = true) (ws : List Jvm.Cond) (a : Addr) (gC : Int32) (h0 : Heap) (n0 : Nat) (Z0 : n0 ≤ h0.size) (F_a_coder : Fld Z h0 a "java/lang/String" "coder" "B" (.int 1)) (Old0 : Old Z n0 h0) (SCS : Sta Z Z.heap "java/lang/String" "COMPACT_STRINGS" "Z" (.int gC)) (P5 : ¬ gC = 0) :
    own_Met l Z mn10 jdk_42_method_154_code 1 (some .boolean) ws rm0 #[(.ref a)] h0 (Q_own_isl_1 Z a gC h0 n0) := by
  refine own_start (plainFor_of_name own_pn1) fun p e s m below meth c s₁ Bd hx hby hml hZ hown hnm X0 e0 => ?_
  have H := @own_hw Z a0 hw
  have D := @hb _ _ hby
  have hown : s.vm.findClass "java/lang/String" = some m.cls := hown
  have N0 := Fr.nil n0
  have K0 := Keep.refl h0 []
  rw [own_ef_own_isl_1 m a]
  obtain ⟨T1, X1, e1, st1⟩ := getS2 X0 hx hZ hown (host := "") (Or.inl (H 23 rfl)) Via.refl e0 (SCS.ext Old0.2) (g := (mkF m 0 #[vr a] [])) rfl (D d12_0)
  refine gb T1 m 3 #[vr a] [(.int gC)] st1 ?_
  clear st1
  refine gb T1 m 7 #[vr a] [(.ref a)] (fun u k => XS.ifNo X1.here hx rfl (D d12_3) rfl (XT.i0_eq_f P5) (XS.aloadN X1.here hx rfl (D d12_6) rfl rfl k)) ?_
  obtain ⟨T2, X2, e2, st2⟩ := getF X1 hx hZ hown (host := "") (Or.inl (H 35 rfl)) Via.refl e1 F_a_coder (g := (mkF m 7 #[vr a] [(.ref a)])) rfl rfl (D d12_7)
  refine gb T2 m 10 #[vr a] [(.int 1)] st2 ?_
  clear st2
  refine gb T2 m 18 #[vr a] [(.int 0)] (fun u k => XS.ifYes X2.here hx rfl (pc0 := 10) (pc' := 17) rfl (D d12_10) rfl (XT.i0_ne_t (by decide)) (by decide) (by decide) (XT.iconstV X2.here hx rfl (0 : Int32) (D d12_17) (by decide) k)) ?_
  obtain ⟨fs, hr, hrun, hended, hW, hsame⟩ := X2.leave (v := some (.int 0)) (fun h => by rw [Bd.returns] at h; cases h)
  refine ⟨_, _, retN X2 hx (t := .boolean) Bd.returns (by simp) (D d12_18) hr, hrun, hended, _, _, rfl, ?_, ⟨_, rfl⟩, hW, hsame.mono (by decide) (by decide)⟩
  show Q_own_isl_1 Z a gC h0 n0 _ T2.heap _
  rw [e2]
  exact ⟨rfl, N0, rfl⟩
theorem own_pn2 : plainName "java/lang/StringLatin1" = true := by first | (simp [plainName, overriddenIn]; done) | decide +kernel
theorem d14_0 : dc cd14 0 (.iconst 0) 1 := by decide +kernel
theorem d14_1 : dc cd14 1 (.istore 5) 2 := by decide +kernel
theorem d14_3 : dc cd14 3 (.iload 5) 2 := by decide +kernel
theorem d14_5 : dc cd14 5 (.iload 4) 2 := by decide +kernel
theorem d14_7 : dc cd14 7 (.if_icmp .ge 26) 3 := by decide +kernel
theorem d14_10 : dc cd14 10 (.aload_n 2) 1 := by decide +kernel
theorem d14_11 : dc cd14 11 (.iload_n 3) 1 := by decide +kernel
theorem d14_12 : dc cd14 12 (.iinc 3 1) 3 := by decide +kernel
theorem d14_15 : dc cd14 15 (.aload_n 0) 1 := by decide +kernel
theorem d14_16 : dc cd14 16 (.iload_n 1) 1 := by decide +kernel
theorem d14_17 : dc cd14 17 (.iinc 1 1) 3 := by decide +kernel
theorem d14_20 : dc cd14 20 .baload 1 := by decide +kernel
theorem d14_21 : dc cd14 21 (.sipush 255) 3 := by decide +kernel
theorem d14_24 : dc cd14 24 .iand 1 := by decide +kernel
theorem d14_25 : dc cd14 25 .i2c 1 := by decide +kernel
theorem d14_26 : dc cd14 26 .castore 1 := by decide +kernel
theorem d14_27 : dc cd14 27 (.iinc 5 1) 3 := by decide +kernel
theorem d14_30 : dc cd14 30 (.goto (-27)) 3 := by decide +kernel
theorem d14_33 : dc cd14 33 .return_ 1 := by decide +kernel
theorem own_ef_own_infl (m : MethodId) (x0 : Addr) (x2 : Addr) (x4 : Int32) : entryFrame m #[(.ref x0), (.int 0), (.ref x2), (.int 0), (.int x4)] 6 = mkF m 0 #[.val (.ref x0), .val (.int 0), .val (.ref x2), .val (.int 0), .val (.int x4), .unset] [] := by first | (simp [entryFrame, mkF, argsToLocals, Value.category]; done) | rfl
def Q_own_infl (Z : State) (b : Addr) (d : Addr) (nz : Nat) (xf : Nat → Int32) (kb : ClassId) (kd : ClassId) (ds : List Value) (h0 : Heap) (n0 : Nat) (v : Option Value) (h : Heap) (L : List Loc) : Prop := v = none ∧ Fr n0 L ∧ Keep h0 h [d] ∧ Arv Z h d kd .char (Int32.ofNat nz) (own_l nz (own_infF xf)) (.int 0)
theorem own_infl (l : Launch) (Z : State) (a0 : Array Value) (hw : ∀ d ∈ tables_1, d.before a0 Z = true) (ws : List Jvm.Cond) (b : Addr) (d : Addr) (nz : Nat) (xf : Nat → Int32) (kb : ClassId) (kd : ClassId) (ds : List Value) (h0 : Heap) (n0 : Nat) (Z0 : n0 ≤ h0.size) (g_d : n0 ≤ d) (ne_b_d : b ≠ d) (V_b : Arv Z h0 b kb .byte (Int32.ofNat nz) (own_l nz xf) (.int 0)) (V_d : Arv Z h0 d kd .char (Int32.ofNat nz) ds (.int 0)) (hl_ds : ds.length = nz) (hnz : nz < 6) :
    own_Met l Z mn11 jdk_43_method_49_code 6 none ws rm0 #[(.ref b), (.int 0), (.ref d), (.int 0), (.int (Int32.ofNat nz))] h0 (Q_own_infl Z b d nz xf kb kd ds h0 n0) := by
  refine own_start (plainFor_of_name own_pn2) fun p e s m below meth c s₁ Bd hx hby hml hZ hown hnm X0 e0 => ?_
  have H := @own_hw Z a0 hw
  have D := @hb _ _ hby
  have hown : s.vm.findClass "java/lang/StringLatin1" = some m.cls := hown
  have N0 := Fr.nil n0
  have K0 := Keep.refl h0 [d]
  rw [own_ef_own_infl m b d (Int32.ofNat nz)]
  refine gb s₁ m 3 #[vr b, vi 0, vr d, vi 0, vi (Int32.ofNat nz), vi 0] [] (fun u k => XT.iconstV X0.here hx rfl (0 : Int32) (D d14_0) (by decide) (XS.istore X0.here hx rfl (D d14_1) rfl (l' := #[vr b, vi 0, vr d, vi 0, vi (Int32.ofNat nz), vi 0]) rfl k)) ?_
  have loop : ∀ (d9 : Nat) (i9 : Nat) (ds9 : List Value) (T9 : State) (L9 : List Loc), (d9 = nz - i9) → (i9 ≤ nz) → (own_pw nz i9 (own_infF xf) ds9) → Stand p l e rm0 s m #[(.ref b), (.int 0), (.ref d), (.int 0), (.int (Int32.ofNat nz))] below meth c T9 L9 0 0 → Fr n0 L9 → n0 ≤ T9.heap.size → Keep h0 T9.heap [d] → Arv Z T9.heap b kb .byte (Int32.ofNat nz) (own_l nz xf) (.int 0) → Arv Z T9.heap d kd .char (Int32.ofNat nz) ds9 (.int 0) → Go p e below (own_F s below (Q_own_infl Z b d nz xf kb kd ds h0 n0) rm0.cells rm0.slots) (T9.setTop (mkF m 3 #[vr b, vi (Int32.ofNat i9), vr d, vi (Int32.ofNat i9), vi (Int32.ofNat nz), vi (Int32.ofNat i9)] [])) := by
    intro d9
    induction d9 with
    | zero =>
      intro i9 ds9 T9 L9 hd9 hi9 hP9 X9 N9 Z9 K9 G9_0 G9_1
      refine gb T9 m 33 #[vr b, vi (Int32.ofNat i9), vr d, vi (Int32.ofNat i9), vi (Int32.ofNat nz), vi (Int32.ofNat i9)] [] (fun u k => XS.iload X9.here hx rfl (D d14_3) rfl (XS.iload X9.here hx rfl (D d14_5) rfl (XS.icmpYes X9.here hx rfl (pc0 := 7) (pc' := 33) rfl (D d14_7) rfl (XT.ii_ge_t (own_nlt (by omega) (by omega))) (by decide) (by decide) k))) ?_
      have VF : Arv Z T9.heap d kd .char (Int32.ofNat nz) (own_l nz (own_infF xf)) (.int 0) := by rw [← hP9.fin (by omega)]; exact G9_1
      obtain ⟨fs, hr, hrun, hended, hW, hsame⟩ := X9.leave (v := none) (fun _ => rfl)
      refine ⟨_, _, X9.returnOut hx Bd.returns (D d14_33) hr, hrun, hended, _, _, rfl, ?_, ⟨_, rfl⟩, hW, hsame.mono (by decide) (by decide)⟩
      show Q_own_infl Z b d nz xf kb kd ds h0 n0 _ T9.heap _
      exact ⟨rfl, N9, K9, VF⟩
    | succ d9 ih9 =>
      intro i9 ds9 T9 L9 hd9 hi9 hP9 X9 N9 Z9 K9 G9_0 G9_1
      refine gb T9 m 20 #[vr b, vi ((Int32.ofNat i9) + (1 : Int32)), vr d, vi ((Int32.ofNat i9) + (1 : Int32)), vi (Int32.ofNat nz), vi (Int32.ofNat i9)] [(.int (Int32.ofNat i9)), (.ref b), (.int (Int32.ofNat i9)), (.ref d)] (fun u k => XS.iload X9.here hx rfl (D d14_3) rfl (XS.iload X9.here hx rfl (D d14_5) rfl (XS.icmpNo X9.here hx rfl (D d14_7) rfl (XT.ii_ge_f (own_ilt (by omega) (by omega))) (XS.aloadN X9.here hx rfl (D d14_10) rfl rfl (XS.iloadN X9.here hx rfl (D d14_11) rfl (XT.iincV X9.here hx rfl (1 : Int32) (D d14_12) (by decide) rfl (l' := #[vr b, vi (Int32.ofNat i9), vr d, vi ((Int32.ofNat i9) + (1 : Int32)), vi (Int32.ofNat nz), vi (Int32.ofNat i9)]) rfl (XS.aloadN X9.here hx rfl (D d14_15) rfl rfl (XS.iloadN X9.here hx rfl (D d14_16) rfl (XT.iincV X9.here hx rfl (1 : Int32) (D d14_17) (by decide) rfl (l' := #[vr b, vi ((Int32.ofNat i9) + (1 : Int32)), vr d, vi ((Int32.ofNat i9) + (1 : Int32)), vi (Int32.ofNat nz), vi (Int32.ofNat i9)]) rfl k))))))))) ?_
      have rw1 : ((Int32.ofNat i9) + (1 : Int32)) = (Int32.ofNat (i9 + 1)) := (own_j i9 (by omega)).2.2
      rw [rw1]
      obtain ⟨cl2, Ar2, aq2, aS2, aM2, aH2, aG2⟩ := id G9_0
      refine gb T9 m 26 #[vr b, vi (Int32.ofNat (i9 + 1)), vr d, vi (Int32.ofNat (i9 + 1)), vi (Int32.ofNat nz), vi (Int32.ofNat i9)] [(.int (((xf i9) &&& (255 : Int32)).toUInt32.toUInt16.toUInt32.toInt32)), (.int (Int32.ofNat i9)), (.ref d)] (fun u k => X9.baloadBytes hx (j := (Int32.ofNat i9)) (v := (.int (xf i9))) Ar2.1 (State.isArrayOf_alike hZ.alike Ar2.2.1) Ar2.2.2 (inb_of aS2 (own_ib (by omega) (by omega))) (Has.at aH2 (inb_of aS2 (own_ib (by omega) (by omega))) (own_ld _ (by omega) (by omega))) (g := (mkF m 20 #[vr b, vi (Int32.ofNat (i9 + 1)), vr d, vi (Int32.ofNat (i9 + 1)), vi (Int32.ofNat nz), vi (Int32.ofNat i9)] [(.int (Int32.ofNat i9)), (.ref b), (.int (Int32.ofNat i9)), (.ref d)])) rfl rfl (D d14_20) _ (XT.sipushV X9.here hx rfl (255 : Int32) (D d14_21) (by decide) (XS.iand X9.here hx rfl (D d14_24) rfl (XT.i2c X9.here hx rfl (D d14_25) rfl k)))) ?_
      obtain ⟨cl3, Ar3, aq3, aS3, aM3, aH3, aG3⟩ := id G9_1
      obtain ⟨T4, h4, X4, e4, W4, st4⟩ := stC X9 hx hZ rfl Ar3 (j := (Int32.ofNat i9)) (inb_of aS3 (own_ib (by omega) (by omega))) (g := (mkF m 26 #[vr b, vi (Int32.ofNat (i9 + 1)), vr d, vi (Int32.ofNat (i9 + 1)), vi (Int32.ofNat nz), vi (Int32.ofNat i9)] [(.int (((xf i9) &&& (255 : Int32)).toUInt32.toUInt16.toUInt32.toInt32)), (.int (Int32.ofNat i9)), (.ref d)])) rfl rfl (D d14_26)
      have Z4 : n0 ≤ h4.size := Nat.le_trans Z9 (Keep.of_wr W4).1
      have K4 := K9.wr W4 (Or.inl (List.mem_of_getElem? (i := 0) rfl))
      have N4 := Fr.snoc X4 N9 g_d
      have V4 : Arv Z h4 d kd .char (Int32.ofNat nz) (ds9.set i9 (.int (nar .char (((xf i9) &&& (255 : Int32)).toUInt32.toUInt16.toUInt32.toInt32)))) (.int 0) := Arv.set Ar3 aq3 aS3 aM3 aH3 aG3 (fits_nar_char _) W4 (i9) (own_j i9 (by omega)).2.1 (by rw [hP9.1]; omega)
      rw [own_cc ((xf i9) &&& (255 : Int32))] at V4
      refine gb T4 m 27 #[vr b, vi (Int32.ofNat (i9 + 1)), vr d, vi (Int32.ofNat (i9 + 1)), vi (Int32.ofNat nz), vi (Int32.ofNat i9)] [] st4 ?_
      clear st4
      refine gb T4 m 3 #[vr b, vi (Int32.ofNat (i9 + 1)), vr d, vi (Int32.ofNat (i9 + 1)), vi (Int32.ofNat nz), vi ((Int32.ofNat i9) + (1 : Int32))] [] (fun u k => XT.iincV X4.here hx rfl (1 : Int32) (D d14_27) (by decide) rfl (l' := #[vr b, vi (Int32.ofNat (i9 + 1)), vr d, vi (Int32.ofNat (i9 + 1)), vi (Int32.ofNat nz), vi ((Int32.ofNat i9) + (1 : Int32))]) rfl (XS.goto X4.here hx rfl (pc0 := 30) (pc' := 3) rfl (D d14_30) (by decide) (by decide) k)) ?_
      have rw5 : ((Int32.ofNat i9) + (1 : Int32)) = (Int32.ofNat (i9 + 1)) := (own_j i9 (by omega)).2.2
      rw [rw5]
      have f6 := (G9_0.other W4 ne_b_d)
      subst e4
      exact ih9 (i9 + 1) _ T4 _ (by omega) (by omega) (hP9.step (by omega) rfl) X4 N4 Z4 K4 f6 V4 
  show Go p e below (own_F s below (Q_own_infl Z b d nz xf kb kd ds h0 n0) rm0.cells rm0.slots) (s₁.setTop (mkF m 3 #[vr b, vi (Int32.ofNat 0), vr d, vi (Int32.ofNat 0), vi (Int32.ofNat nz), vi (Int32.ofNat 0)] []))
  subst e0
  exact loop nz 0 ds s₁ _ rfl (by omega) (own_pw0 _ hl_ds) X0 N0 Z0 K0 V_b V_d 
theorem own_pd8 : parseMethodDescriptor "([BI[CII)V" = some ⟨[(.array .byte), .int, (.array .char), .int, .int], none⟩ := by decide +kernel
theorem d13_0 : dc cd13 0 (.aload_n 0) 1 := by decide +kernel
theorem d13_1 : dc cd13 1 .arraylength 1 := by decide +kernel
theorem d13_2 : dc cd13 2 (.newarray .char) 2 := by decide +kernel
theorem d13_4 : dc cd13 4 (.astore_n 1) 1 := by decide +kernel
theorem d13_5 : dc cd13 5 (.aload_n 0) 1 := by decide +kernel
theorem d13_6 : dc cd13 6 (.iconst 0) 1 := by decide +kernel
theorem d13_7 : dc cd13 7 (.aload_n 1) 1 := by decide +kernel
theorem d13_8 : dc cd13 8 (.iconst 0) 1 := by decide +kernel
theorem d13_9 : dc cd13 9 (.aload_n 0) 1 := by decide +kernel
theorem d13_10 : dc cd13 10 .arraylength 1 := by decide +kernel
theorem d13_11 : dc cd13 11 (.invokestatic 13) 3 := by decide +kernel
theorem d13_14 : dc cd13 14 (.aload_n 1) 1 := by decide +kernel
theorem d13_15 : dc cd13 15 .areturn 1 := by decide +kernel
theorem own_ef_own_tcl (m : MethodId) (x0 : Addr) : entryFrame m #[(.ref x0)] 2 = mkF m 0 #[.val (.ref x0), .unset] [] := by first | (simp [entryFrame, mkF, argsToLocals, Value.category]; done) | rfl
def Q_own_tcl (Z : State) (b : Addr) (nz : Nat) (xf : Nat → Int32) (kb : ClassId) (h0 : Heap) (n0 : Nat) (v : Option Value) (h : Heap) (L : List Loc) : Prop := ∃ r : Addr, ∃ kr : ClassId, v = some (.ref r) ∧ Fr n0 L ∧ Keep h0 h [] ∧ n0 ≤ r ∧ h0.size ≤ r ∧ Arv Z h r kr .char (Int32.ofNat nz) (own_l nz (own_infF xf)) (.int 0)
theorem own_tcl (l : Launch) (Z : State) (a0 : Array Value) (hw : ∀ d ∈ tables_1, d.before a0 Z = true) (ws : List Jvm.Cond) (b : Addr) (nz : Nat) (xf : Nat → Int32) (kb : ClassId) (h0 : Heap) (n0 : Nat) (Z0 : n0 ≤ h0.size) (V_b : Arv Z h0 b kb .byte (Int32.ofNat nz) (own_l nz xf) (.int 0)) (hnz : nz < 6) :
    own_Met l Z mn12 jdk_43_method_9_code 2 (some (.array .char)) ws rm8 #[(.ref b)] h0 (Q_own_tcl Z b nz xf kb h0 n0) := by
  refine own_start (plainFor_of_name own_pn2) fun p e s m below meth c s₁ Bd hx hby hml hZ hown hnm X0 e0 => ?_
  have H := @own_hw Z a0 hw
  have D := @hb _ _ hby
  have hown : s.vm.findClass "java/lang/StringLatin1" = some m.cls := hown
  have N0 := Fr.nil n0
  have K0 := Keep.refl h0 []
  rw [own_ef_own_tcl m b]
  refine gb s₁ m 1 #[vr b, un] [(.ref b)] (fun u k => XS.aloadN X0.here hx rfl (D d13_0) rfl rfl k) ?_
  obtain ⟨cl1, Ar1, aq1, aS1, aM1, aH1, aG1⟩ := id V_b
  refine gb s₁ m 2 #[vr b, un] [(.int cl1.slots.size.toInt32)] (fun u k => X0.arraylength hx (by rw [e0]; exact Ar1.1) (State.isArrayOf_alike hZ.alike Ar1.2.1) (g := (mkF m 1 #[vr b, un] [(.ref b)])) rfl rfl (D d13_1) _ k) ?_
  rw [len_of aS1 aM1]
  obtain ⟨T2, h2, k2, X2, e2, E2, A2, st2⟩ := newP X0 hx hZ (H 9 rfl) e0 (g := (mkF m 2 #[vr b, un] [(.int (Int32.ofNat nz))])) rfl (D d13_2) rfl (own_j nz (by omega)).1 (cap := 5) (by rw [(own_j nz (by omega)).2.1]; omega) (by decide) (by decide) (by decide)
  obtain ⟨b2, g2⟩ : ∃ z, z = h0.size := ⟨_, rfl⟩
  rw [← g2] at A2 st2
  have ne_b_b2 : b ≠ b2 := Nat.ne_of_lt (Nat.lt_of_lt_of_le V_b.lt (Nat.le_of_eq g2.symm))
  have gb2 : n0 ≤ b2 := Nat.le_trans Z0 (Nat.le_of_eq g2.symm)
  have sz2 : h0.size ≤ b2 := Nat.le_trans K0.1 (Nat.le_of_eq g2.symm)
  have Z2 : n0 ≤ h2.size := Nat.le_trans Z0 E2.1
  have K2 := K0.ext E2
  have V2 : Arv Z h2 b2 k2 .char (Int32.ofNat nz) (([] : List Value) ++ List.replicate nz ((.int 0) : Value)) (.int 0) := (Arv.new A2 (own_j nz (by omega)).1).pad (pad_rep [] (.int 0) nz)
  refine gb T2 m 4 #[vr b, un] [(.ref b2)] st2 ?_
  clear st2
  refine gb T2 m 10 #[vr b, vr b2] [(.ref b), (.int 0), (.ref b2), (.int 0), (.ref b)] (fun u k => XS.astoreN X2.here hx rfl (D d13_4) rfl rfl (l' := #[vr b, vr b2]) rfl (XS.aloadN X2.here hx rfl (D d13_5) rfl rfl (XT.iconstV X2.here hx rfl (0 : Int32) (D d13_6) (by decide) (XS.aloadN X2.here hx rfl (D d13_7) rfl rfl (XT.iconstV X2.here hx rfl (0 : Int32) (D d13_8) (by decide) (XS.aloadN X2.here hx rfl (D d13_9) rfl rfl k)))))) ?_
  have f3 := (V_b.ext E2)
  obtain ⟨cl4, Ar4, aq4, aS4, aM4, aH4, aG4⟩ := id f3
  refine gb T2 m 11 #[vr b, vr b2] [(.int cl4.slots.size.toInt32), (.int 0), (.ref b2), (.int 0), (.ref b)] (fun u k => X2.arraylength hx (by rw [e2]; exact Ar4.1) (State.isArrayOf_alike hZ.alike Ar4.2.1) (g := (mkF m 10 #[vr b, vr b2] [(.ref b), (.int 0), (.ref b2), (.int 0), (.ref b)])) rfl rfl (D d13_10) _ k) ?_
  rw [len_of aS4 aM4]
  obtain ⟨_, _, ⟨T5, L5, k5, n5⟩, -, X5, ⟨Lc5, hQ5, l5, y5, z5⟩, st5⟩ := Jvm.LawKit.callS X2 hx (y := mn11) hown (mvT hZ (H 68 rfl)) (mvT hZ (H 69 rfl)) (mvT hZ (H 66 rfl)) (mvT hZ (H 70 rfl)) (by decide) (backOf (W := 0) (own_infl l Z a0 hw [] b b2 nz xf kb k2 (([] : List Value) ++ List.replicate nz ((.int 0) : Value)) h2 n0 Z2 gb2 ne_b_b2 f3 V2 (by simp : (([] : List Value) ++ List.replicate nz ((.int 0) : Value)).length = nz) hnz) hZ (H 70 rfl) (H 66 rfl) (by decide) (by decide)) (g := (mkF m 11 #[vr b, vr b2] [(.int (Int32.ofNat nz)), (.int 0), (.ref b2), (.int 0), (.ref b)])) rfl (by rw [hml]; rfl) (argsL := [(.ref b), (.int 0), (.ref b2), (.int 0), (.int (Int32.ofNat nz))]) (rest := []) (lenOf own_pd8 rfl) rfl (own_w0 rfl) (D d13_11) (fun _ _ => ⟨rfl, e2, (by decide : 1 + 0 ≤ _), (by decide : 5 + 0 ≤ _)⟩)
  dsimp only [Pt.U, Pt.locs, Pt.cells, Pt.slots] at X5 l5 y5 z5 st5 hQ5
  subst l5 y5 z5
  obtain ⟨rfl, N5, Kc5, P5_0⟩ := hQ5
  have NA5 := Fr.app N0 N5
  have Z5 : n0 ≤ T5.heap.size := Nat.le_trans Z2 Kc5.1
  have K5 := K2.trans Kc5 (allS (Or.inr sz2) all0)
  refine gb T5 m 14 #[vr b, vr b2] [] st5 ?_
  clear st5
  refine gb T5 m 15 #[vr b, vr b2] [(.ref b2)] (fun u k => XS.aloadN X5.here hx rfl (D d13_14) rfl rfl k) ?_
  obtain ⟨fs, hr, hrun, hended, hW, hsame⟩ := X5.leave (v := some (.ref b2)) (fun h => by rw [Bd.returns] at h; cases h)
  refine ⟨_, _, retOut X5 hx (t := (.array .char)) (i := .areturn) Bd.returns rfl (Or.inr (Or.inr (Or.inr (Or.inr ⟨rfl, rfl, rfl⟩)))) (D d13_15) hr, hrun, hended, _, _, rfl, ?_, ⟨_, rfl⟩, hW, hsame.mono (by decide) (by decide)⟩
  show Q_own_tcl Z b nz xf kb h0 n0 _ T5.heap _
  exact ⟨b2, k2, rfl, NA5, K5, gb2, sz2, P5_0⟩
theorem d42_0 : dc cd42 0 (.aload_n 0) 1 := by decide +kernel
theorem d42_1 : dc cd42 1 .arraylength 1 := by decide +kernel
theorem d42_2 : dc cd42 2 (.iconst 1) 1 := by decide +kernel
theorem d42_3 : dc cd42 3 .ishr 1 := by decide +kernel
theorem d42_4 : dc cd42 4 .ireturn 1 := by decide +kernel
theorem own_ef_own_len (m : MethodId) (x0 : Addr) : entryFrame m #[(.ref x0)] 1 = mkF m 0 #[.val (.ref x0)] [] := by first | (simp [entryFrame, mkF, argsToLocals, Value.category]; done) | rfl
def Q_own_len (Z : State) (b : Addr) (nz : Nat) (ef : Nat → Int32) (kb : ClassId) (h0 : Heap) (n0 : Nat) (v : Option Value) (h : Heap) (L : List Loc) : Prop := v = some (.int (Int32.ofNat nz)) ∧ Fr n0 L ∧ h = h0
theorem own_len (l : Launch) (Z : State) (a0 : Array Value) (hw : ∀ d ∈ tables_1, d.before a0 Z = true) (ws : List Jvm.Cond) (b : Addr) (nz : Nat) (ef : Nat → Int32) (kb : ClassId) (h0 : Heap) (n0 : Nat) (Z0 : n0 ≤ h0.size) (V_b : Arv Z h0 b kb .byte (Int32.ofNat (2 * nz)) (own_l (2 * nz) ef) (.int 0)) (hnz : nz < 6) :
    own_Met l Z mn13 jdk_52_method_6_code 1 (some .int) ws rm0 #[(.ref b)] h0 (Q_own_len Z b nz ef kb h0 n0) := by
  refine own_start (plainFor_of_name own_pn0) fun p e s m below meth c s₁ Bd hx hby hml hZ hown hnm X0 e0 => ?_
  have H := @own_hw Z a0 hw
  have D := @hb _ _ hby
  have hown : s.vm.findClass "java/lang/StringUTF16" = some m.cls := hown
  have N0 := Fr.nil n0
  have K0 := Keep.refl h0 []
  rw [own_ef_own_len m b]
  refine gb s₁ m 1 #[vr b] [(.ref b)] (fun u k => XS.aloadN X0.here hx rfl (D d42_0) rfl rfl k) ?_
  obtain ⟨cl1, Ar1, aq1, aS1, aM1, aH1, aG1⟩ := id V_b
  refine gb s₁ m 2 #[vr b] [(.int cl1.slots.size.toInt32)] (fun u k => X0.arraylength hx (by rw [e0]; exact Ar1.1) (State.isArrayOf_alike hZ.alike Ar1.2.1) (g := (mkF m 1 #[vr b] [(.ref b)])) rfl rfl (D d42_1) _ k) ?_
  rw [len_of aS1 aM1]
  refine gb s₁ m 4 #[vr b] [(.int ((Int32.ofNat (2 * nz)) >>> ((1 : Int32) &&& 31)))] (fun u k => XT.iconstV X0.here hx rfl (1 : Int32) (D d42_2) (by decide) (XT.ishr X0.here hx rfl (D d42_3) rfl k)) ?_
  have rw2 : ((Int32.ofNat (2 * nz)) >>> ((1 : Int32) &&& 31)) = (Int32.ofNat nz) := own_shr1 (by omega)
  rw [rw2]
  obtain ⟨fs, hr, hrun, hended, hW, hsame⟩ := X0.leave (v := some (.int (Int32.ofNat nz))) (fun h => by rw [Bd.returns] at h; cases h)
  refine ⟨_, _, retI X0 hx Bd.returns (D d42_4) hr, hrun, hended, _, _, rfl, ?_, ⟨_, rfl⟩, hW, hsame.mono (by decide) (by decide)⟩
  show Q_own_len Z b nz ef kb h0 n0 _ s₁.heap _
  rw [e0]
  exact ⟨rfl, N0, rfl⟩
theorem own_pn3 : plainName "jdk/internal/util/Preconditions" = true := by first | (simp [plainName, overriddenIn]; done) | decide +kernel
theorem d44_0 : dc cd44 0 (.iload_n 2) 1 := by decide +kernel
theorem d44_1 : dc cd44 1 (.iload_n 0) 1 := by decide +kernel
theorem d44_2 : dc cd44 2 .ior 1 := by decide +kernel
theorem d44_3 : dc cd44 3 (.iload_n 1) 1 := by decide +kernel
theorem d44_4 : dc cd44 4 .ior 1 := by decide +kernel
theorem d44_5 : dc cd44 5 (.ifCond .lt 10) 3 := by decide +kernel
theorem d44_8 : dc cd44 8 (.iload_n 1) 1 := by decide +kernel
theorem d44_9 : dc cd44 9 (.iload_n 2) 1 := by decide +kernel
theorem d44_10 : dc cd44 10 (.iload_n 0) 1 := by decide +kernel
theorem d44_11 : dc cd44 11 .isub 1 := by decide +kernel
theorem d44_12 : dc cd44 12 (.if_icmp .le 11) 3 := by decide +kernel
theorem d44_23 : dc cd44 23 (.iload_n 0) 1 := by decide +kernel
theorem d44_24 : dc cd44 24 .ireturn 1 := by decide +kernel
theorem own_ef_own_cfs_R (m : MethodId) (x1 : Int32) (x2 : Int32) (x3 : Addr) : entryFrame m #[(.int 0), (.int x1), (.int x2), (.ref x3)] 4 = mkF m 0 #[.val (.int 0), .val (.int x1), .val (.int x2), .val (.ref x3)] [] := by first | (simp [entryFrame, mkF, argsToLocals, Value.category]; done) | rfl
def Q_own_cfs_R (Z : State) (fa : Addr) (nz : Nat) (h0 : Heap) (n0 : Nat) (v : Option Value) (h : Heap) (L : List Loc) : Prop := v = some (.int 0) ∧ Fr n0 L ∧ h = h0
theorem own_cfs_R (l : Launch) (Z : State) (a0 : Array Value) (hw : ∀ d ∈ tables_1, d.before a0 Z = true) (ws : List Jvm.Cond) (fa : Addr) (nz : Nat) (h0 : Heap) (n0 : Nat) (Z0 : n0 ≤ h0.size) (hnz : nz < 6) :
    own_Met l Z mn14 jdk_41_method_13_code 4 (some .int) ws rm0 #[(.int 0), (.int (Int32.ofNat nz)), (.int (Int32.ofNat nz)), (.ref fa)] h0 (Q_own_cfs_R Z fa nz h0 n0) := by
  refine own_start (plainFor_of_name own_pn3) fun p e s m below meth c s₁ Bd hx hby hml hZ hown hnm X0 e0 => ?_
  have H := @own_hw Z a0 hw
  have D := @hb _ _ hby
  have hown : s.vm.findClass "jdk/internal/util/Preconditions" = some m.cls := hown
  have N0 := Fr.nil n0
  have K0 := Keep.refl h0 []
  rw [own_ef_own_cfs_R m (Int32.ofNat nz) (Int32.ofNat nz) fa]
  refine gb s₁ m 24 #[vi 0, vi (Int32.ofNat nz), vi (Int32.ofNat nz), vr fa] [(.int 0)] (fun u k => XS.iloadN X0.here hx rfl (D d44_0) rfl (XS.iloadN X0.here hx rfl (D d44_1) rfl (XT.ior X0.here hx rfl (D d44_2) rfl (XS.iloadN X0.here hx rfl (D d44_3) rfl (XT.ior X0.here hx rfl (D d44_4) rfl (XS.ifNo X0.here hx rfl (D d44_5) rfl (XT.i0_lt_f (own_or3 (by omega))) (XS.iloadN X0.here hx rfl (D d44_8) rfl (XS.iloadN X0.here hx rfl (D d44_9) rfl (XS.iloadN X0.here hx rfl (D d44_10) rfl (XS.isub X0.here hx rfl (D d44_11) rfl (XS.icmpYes X0.here hx rfl (pc0 := 12) (pc' := 23) rfl (D d44_12) rfl (XT.ii_le_t (own_sub0n (by omega))) (by decide) (by decide) (XS.iloadN X0.here hx rfl (D d44_23) rfl k)))))))))))) ?_
  obtain ⟨fs, hr, hrun, hended, hW, hsame⟩ := X0.leave (v := some (.int 0)) (fun h => by rw [Bd.returns] at h; cases h)
  refine ⟨_, _, retI X0 hx Bd.returns (D d44_24) hr, hrun, hended, _, _, rfl, ?_, ⟨_, rfl⟩, hW, hsame.mono (by decide) (by decide)⟩
  show Q_own_cfs_R Z fa nz h0 n0 _ s₁.heap _
  rw [e0]
  exact ⟨rfl, N0, rfl⟩
theorem own_ef_own_cfs_N (m : MethodId) (x1 : Int32) (x2 : Int32) : entryFrame m #[(.int 0), (.int x1), (.int x2), .null] 4 = mkF m 0 #[.val (.int 0), .val (.int x1), .val (.int x2), .val .null] [] := by first | (simp [entryFrame, mkF, argsToLocals, Value.category]; done) | rfl
def Q_own_cfs_N (Z : State) (nz : Nat) (h0 : Heap) (n0 : Nat) (v : Option Value) (h : Heap) (L : List Loc) : Prop := v = some (.int 0) ∧ Fr n0 L ∧ h = h0
theorem own_cfs_N (l : Launch) (Z : State) (a0 : Array Value) (hw : ∀ d ∈ tables_1, d.before a0 Z = true) (ws : List Jvm.Cond) (nz : Nat) (h0 : Heap) (n0 : Nat) (Z0 : n0 ≤ h0.size) (hnz : nz < 6) :
    own_Met l Z mn14 jdk_41_method_13_code 4 (some .int) ws rm0 #[(.int 0), (.int (Int32.ofNat nz)), (.int (Int32.ofNat nz)), .null] h0 (Q_own_cfs_N Z nz h0 n0) := by
  refine own_start (plainFor_of_name own_pn3) fun p e s m below meth c s₁ Bd hx hby hml hZ hown hnm X0 e0 => ?_
  have H := @own_hw Z a0 hw
  have D := @hb _ _ hby
  have hown : s.vm.findClass "jdk/internal/util/Preconditions" = some m.cls := hown
  have N0 := Fr.nil n0
  have K0 := Keep.refl h0 []
  rw [own_ef_own_cfs_N m (Int32.ofNat nz) (Int32.ofNat nz)]
  refine gb s₁ m 24 #[vi 0, vi (Int32.ofNat nz), vi (Int32.ofNat nz), .val .null] [(.int 0)] (fun u k => XS.iloadN X0.here hx rfl (D d44_0) rfl (XS.iloadN X0.here hx rfl (D d44_1) rfl (XT.ior X0.here hx rfl (D d44_2) rfl (XS.iloadN X0.here hx rfl (D d44_3) rfl (XT.ior X0.here hx rfl (D d44_4) rfl (XS.ifNo X0.here hx rfl (D d44_5) rfl (XT.i0_lt_f (own_or3 (by omega))) (XS.iloadN X0.here hx rfl (D d44_8) rfl (XS.iloadN X0.here hx rfl (D d44_9) rfl (XS.iloadN X0.here hx rfl (D d44_10) rfl (XS.isub X0.here hx rfl (D d44_11) rfl (XS.icmpYes X0.here hx rfl (pc0 := 12) (pc' := 23) rfl (D d44_12) rfl (XT.ii_le_t (own_sub0n (by omega))) (by decide) (by decide) (XS.iloadN X0.here hx rfl (D d44_23) rfl k)))))))))))) ?_
  obtain ⟨fs, hr, hrun, hended, hW, hsame⟩ := X0.leave (v := some (.int 0)) (fun h => by rw [Bd.returns] at h; cases h)
  refine ⟨_, _, retI X0 hx Bd.returns (D d44_24) hr, hrun, hended, _, _, rfl, ?_, ⟨_, rfl⟩, hW, hsame.mono (by decide) (by decide)⟩
  show Q_own_cfs_N Z nz h0 n0 _ s₁.heap _
  rw [e0]
  exact ⟨rfl, N0, rfl⟩
theorem own_pd9 : parseMethodDescriptor "(IIILjava/util/function/BiFunction;)I" = some ⟨[.int, .int, .int, (.object "java/util/function/BiFunction")], some .int⟩ := by decide +kernel
theorem d43_0 : dc cd43 0 (.iload_n 0) 1 := by decide +kernel
theorem d43_1 : dc cd43 1 (.iload_n 1) 1 := by decide +kernel
theorem d43_2 : dc cd43 2 (.iload_n 2) 1 := by decide +kernel
theorem d43_3 : dc cd43 3 (.getstatic 1053) 3 := by decide +kernel
theorem d43_6 : dc cd43 6 (.invokestatic 1065) 3 := by decide +kernel
theorem d43_9 : dc cd43 9 .ireturn 1 := by decide +kernel
theorem own_ef_own_cbo (m : MethodId) (x1 : Int32) (x2 : Int32) : entryFrame m #[(.int 0), (.int x1), (.int x2)] 3 = mkF m 0 #[.val (.int 0), .val (.int x1), .val (.int x2)] [] := by first | (simp [entryFrame, mkF, argsToLocals, Value.category]; done) | rfl
def Q_own_cbo (Z : State) (fm : Value) (nz : Nat) (h0 : Heap) (n0 : Nat) (v : Option Value) (h : Heap) (L : List Loc) : Prop := v = some (.int 0) ∧ Fr n0 L ∧ h = h0
theorem own_cbo (l : Launch) (Z : State) (a0 : Array Value) (hw : ∀ d ∈ tables_1, d.before a0 Z = true) (ws : List Jvm.Cond) (fm : Value) (nz : Nat) (h0 : Heap) (n0 : Nat) (Z0 : n0 ≤ h0.size) (Old0 : Old Z n0 h0) (SFM : Sta Z Z.heap "jdk/internal/util/Preconditions" "SIOOBE_FORMATTER" "Ljava/util/function/BiFunction;" fm) (r_fm : fm.isRef = true) (hnz : nz < 6) :
    own_Met l Z mn15 jdk_42_method_157_code 3 (some .int) ws rm9 #[(.int 0), (.int (Int32.ofNat nz)), (.int (Int32.ofNat nz))] h0 (Q_own_cbo Z fm nz h0 n0) := by
  refine own_start (plainFor_of_name own_pn1) fun p e s m below meth c s₁ Bd hx hby hml hZ hown hnm X0 e0 => ?_
  have H := @own_hw Z a0 hw
  have D := @hb _ _ hby
  have hown : s.vm.findClass "java/lang/String" = some m.cls := hown
  have N0 := Fr.nil n0
  have K0 := Keep.refl h0 []
  rw [own_ef_own_cbo m (Int32.ofNat nz) (Int32.ofNat nz)]
  rcases own_isref r_fm with rfl | ⟨fa, rfl⟩
  · refine gb s₁ m 3 #[vi 0, vi (Int32.ofNat nz), vi (Int32.ofNat nz)] [(.int (Int32.ofNat nz)), (.int (Int32.ofNat nz)), (.int 0)] (fun u k => XS.iloadN X0.here hx rfl (D d43_0) rfl (XS.iloadN X0.here hx rfl (D d43_1) rfl (XS.iloadN X0.here hx rfl (D d43_2) rfl k))) ?_
    obtain ⟨T1, X1, e1, st1⟩ := getS2 X0 hx hZ hown (host := "") (Or.inl (H 244 rfl)) Via.refl e0 (SFM.ext Old0.2) (g := (mkF m 3 #[vi 0, vi (Int32.ofNat nz), vi (Int32.ofNat nz)] [(.int (Int32.ofNat nz)), (.int (Int32.ofNat nz)), (.int 0)])) rfl (D d43_3)
    refine gb T1 m 6 #[vi 0, vi (Int32.ofNat nz), vi (Int32.ofNat nz)] [.null, (.int (Int32.ofNat nz)), (.int (Int32.ofNat nz)), (.int 0)] st1 ?_
    clear st1
    obtain ⟨_, _, ⟨T2, L2, k2, n2⟩, -, X2, ⟨Lc2, hQ2, l2, y2, z2⟩, st2⟩ := Jvm.LawKit.callS X1 hx (y := mn14) hown (mvT hZ (H 246 rfl)) (mvT hZ (H 247 rfl)) (mvT hZ (H 245 rfl)) (mvT hZ (H 248 rfl)) (by decide) (backOf (W := 0) (own_cfs_N l Z a0 hw [] nz h0 n0 Z0 hnz) hZ (H 248 rfl) (H 245 rfl) (by decide) (by decide)) (g := (mkF m 6 #[vi 0, vi (Int32.ofNat nz), vi (Int32.ofNat nz)] [.null, (.int (Int32.ofNat nz)), (.int (Int32.ofNat nz)), (.int 0)])) rfl (by rw [hml]; rfl) (argsL := [(.int 0), (.int (Int32.ofNat nz)), (.int (Int32.ofNat nz)), .null]) (rest := []) (lenOf own_pd9 rfl) rfl (own_w0 rfl) (D d43_6) (fun _ _ => ⟨rfl, e1, (by decide : 0 + 0 ≤ _), (by decide : 0 + 0 ≤ _)⟩)
    dsimp only [Pt.U, Pt.locs, Pt.cells, Pt.slots] at X2 l2 y2 z2 st2 hQ2
    subst l2 y2 z2
    obtain ⟨rfl, N2, e2⟩ := hQ2
    have NA2 := Fr.app N0 N2
    refine gb T2 m 9 #[vi 0, vi (Int32.ofNat nz), vi (Int32.ofNat nz)] [(.int 0)] st2 ?_
    clear st2
    obtain ⟨fs, hr, hrun, hended, hW, hsame⟩ := X2.leave (v := some (.int 0)) (fun h => by rw [Bd.returns] at h; cases h)
    refine ⟨_, _, retI X2 hx Bd.returns (D d43_9) hr, hrun, hended, _, _, rfl, ?_, ⟨_, rfl⟩, hW, hsame.mono (by decide) (by decide)⟩
    show Q_own_cbo Z .null nz h0 n0 _ T2.heap _
    rw [e2]
    exact ⟨rfl, NA2, rfl⟩
  · refine gb s₁ m 3 #[vi 0, vi (Int32.ofNat nz), vi (Int32.ofNat nz)] [(.int (Int32.ofNat nz)), (.int (Int32.ofNat nz)), (.int 0)] (fun u k => XS.iloadN X0.here hx rfl (D d43_0) rfl (XS.iloadN X0.here hx rfl (D d43_1) rfl (XS.iloadN X0.here hx rfl (D d43_2) rfl k))) ?_
    obtain ⟨T3, X3, e3, st3⟩ := getS2 X0 hx hZ hown (host := "") (Or.inl (H 244 rfl)) Via.refl e0 (SFM.ext Old0.2) (g := (mkF m 3 #[vi 0, vi (Int32.ofNat nz), vi (Int32.ofNat nz)] [(.int (Int32.ofNat nz)), (.int (Int32.ofNat nz)), (.int 0)])) rfl (D d43_3)
    refine gb T3 m 6 #[vi 0, vi (Int32.ofNat nz), vi (Int32.ofNat nz)] [(.ref fa), (.int (Int32.ofNat nz)), (.int (Int32.ofNat nz)), (.int 0)] st3 ?_
    clear st3
    obtain ⟨_, _, ⟨T4, L4, k4, n4⟩, -, X4, ⟨Lc4, hQ4, l4, y4, z4⟩, st4⟩ := Jvm.LawKit.callS X3 hx (y := mn14) hown (mvT hZ (H 246 rfl)) (mvT hZ (H 247 rfl)) (mvT hZ (H 245 rfl)) (mvT hZ (H 248 rfl)) (by decide) (backOf (W := 0) (own_cfs_R l Z a0 hw [] fa nz h0 n0 Z0 hnz) hZ (H 248 rfl) (H 245 rfl) (by decide) (by decide)) (g := (mkF m 6 #[vi 0, vi (Int32.ofNat nz), vi (Int32.ofNat nz)] [(.ref fa), (.int (Int32.ofNat nz)), (.int (Int32.ofNat nz)), (.int 0)])) rfl (by rw [hml]; rfl) (argsL := [(.int 0), (.int (Int32.ofNat nz)), (.int (Int32.ofNat nz)), (.ref fa)]) (rest := []) (lenOf own_pd9 rfl) rfl (own_w0 rfl) (D d43_6) (fun _ _ => ⟨rfl, e3, (by decide : 0 + 0 ≤ _), (by decide : 0 + 0 ≤ _)⟩)
    dsimp only [Pt.U, Pt.locs, Pt.cells, Pt.slots] at X4 l4 y4 z4 st4 hQ4
    subst l4 y4 z4
    obtain ⟨rfl, N4, e4⟩ := hQ4
    have NA4 := Fr.app N0 N4
    refine gb T4 m 9 #[vi 0, vi (Int32.ofNat nz), vi (Int32.ofNat nz)] [(.int 0)] st4 ?_
    clear st4
    obtain ⟨fs, hr, hrun, hended, hW, hsame⟩ := X4.leave (v := some (.int 0)) (fun h => by rw [Bd.returns] at h; cases h)
    refine ⟨_, _, retI X4 hx Bd.returns (D d43_9) hr, hrun, hended, _, _, rfl, ?_, ⟨_, rfl⟩, hW, hsame.mono (by decide) (by decide)⟩
    show Q_own_cbo Z (.ref fa) nz h0 n0 _ T4.heap _
    rw [e4]
    exact ⟨rfl, NA4, rfl⟩
theorem own_pd10 : parseMethodDescriptor "([B)I" = some ⟨[(.array .byte)], some .int⟩ := by decide +kernel
theorem own_pd11 : parseMethodDescriptor "(III)I" = some ⟨[.int, .int, .int], some .int⟩ := by decide +kernel
theorem d41_0 : dc cd41 0 (.iload_n 0) 1 := by decide +kernel
theorem d41_1 : dc cd41 1 (.iload_n 1) 1 := by decide +kernel
theorem d41_2 : dc cd41 2 (.aload_n 2) 1 := by decide +kernel
theorem d41_3 : dc cd41 3 (.invokestatic 48) 3 := by decide +kernel
theorem d41_6 : dc cd41 6 (.invokestatic 419) 3 := by decide +kernel
theorem d41_9 : dc cd41 9 .pop 1 := by decide +kernel
theorem d41_10 : dc cd41 10 .return_ 1 := by decide +kernel
theorem own_ef_own_cb2 (m : MethodId) (x1 : Int32) (x2 : Addr) : entryFrame m #[(.int 0), (.int x1), (.ref x2)] 3 = mkF m 0 #[.val (.int 0), .val (.int x1), .val (.ref x2)] [] := by first | (simp [entryFrame, mkF, argsToLocals, Value.category]; done) | rfl
def Q_own_cb2 (Z : State) (b : Addr) (fm : Value) (nz : Nat) (ef : Nat → Int32) (kb : ClassId) (h0 : Heap) (n0 : Nat) (v : Option Value) (h : Heap) (L : List Loc) : Prop := v = none ∧ Fr n0 L ∧ h = h0
theorem own_cb2 (l : Launch) (Z : State) (a0 : Array Value) (hw : ∀ d ∈ tables_1, d.before a0 Z = true) (ws : List Jvm.Cond) (b : Addr) (fm : Value) (nz : Nat) (ef : Nat → Int32) (kb : ClassId) (h0 : Heap) (n0 : Nat) (Z0 : n0 ≤ h0.size) (Old0 : Old Z n0 h0) (SFM : Sta Z Z.heap "jdk/internal/util/Preconditions" "SIOOBE_FORMATTER" "Ljava/util/function/BiFunction;" fm) (r_fm : fm.isRef = true) (V_b : Arv Z h0 b kb .byte (Int32.ofNat (2 * nz)) (own_l (2 * nz) ef) (.int 0)) (hnz : nz < 6) :
    own_Met l Z mn16 jdk_52_method_94_code 3 none ws rm10 #[(.int 0), (.int (Int32.ofNat nz)), (.ref b)] h0 (Q_own_cb2 Z b fm nz ef kb h0 n0) := by
  refine own_start (plainFor_of_name own_pn0) fun p e s m below meth c s₁ Bd hx hby hml hZ hown hnm X0 e0 => ?_
  have H := @own_hw Z a0 hw
  have D := @hb _ _ hby
  have hown : s.vm.findClass "java/lang/StringUTF16" = some m.cls := hown
  have N0 := Fr.nil n0
  have K0 := Keep.refl h0 []
  rw [own_ef_own_cb2 m (Int32.ofNat nz) b]
  refine gb s₁ m 3 #[vi 0, vi (Int32.ofNat nz), vr b] [(.ref b), (.int (Int32.ofNat nz)), (.int 0)] (fun u k => XS.iloadN X0.here hx rfl (D d41_0) rfl (XS.iloadN X0.here hx rfl (D d41_1) rfl (XS.aloadN X0.here hx rfl (D d41_2) rfl rfl k))) ?_
  obtain ⟨_, _, ⟨T1, L1, k1, n1⟩, -, X1, ⟨Lc1, hQ1, l1, y1, z1⟩, st1⟩ := Jvm.LawKit.callS X0 hx (y := mn13) hown (mvT hZ (H 238 rfl)) (mvT hZ (H 239 rfl)) (mvT hZ (H 26 rfl)) (mvT hZ (H 240 rfl)) (by decide) (backOf (W := 2) (own_len l Z a0 hw [] b nz ef kb h0 n0 Z0 V_b hnz) hZ (H 240 rfl) (H 26 rfl) (by decide) (by decide)) (g := (mkF m 3 #[vi 0, vi (Int32.ofNat nz), vr b] [(.ref b), (.int (Int32.ofNat nz)), (.int 0)])) rfl (by rw [hml]; rfl) (argsL := [(.ref b)]) (rest := [(.int (Int32.ofNat nz)), (.int 0)]) (lenOf own_pd10 rfl) rfl (own_w0 rfl) (D d41_3) (fun _ _ => ⟨rfl, e0, (by decide : 0 + 0 ≤ _), (by decide : 0 + 0 ≤ _)⟩)
  dsimp only [Pt.U, Pt.locs, Pt.cells, Pt.slots] at X1 l1 y1 z1 st1 hQ1
  subst l1 y1 z1
  obtain ⟨rfl, N1, e1⟩ := hQ1
  have NA1 := Fr.app N0 N1
  refine gb T1 m 6 #[vi 0, vi (Int32.ofNat nz), vr b] [(.int (Int32.ofNat nz)), (.int (Int32.ofNat nz)), (.int 0)] st1 ?_
  clear st1
  obtain ⟨_, _, ⟨T2, L2, k2, n2⟩, -, X2, ⟨Lc2, hQ2, l2, y2, z2⟩, st2⟩ := Jvm.LawKit.callS X1 hx (y := mn15) hown (mvT hZ (H 241 rfl)) (mvT hZ (H 242 rfl)) (mvT hZ (H 12 rfl)) (mvT hZ (H 243 rfl)) (by decide) (backOf (W := 0) (own_cbo l Z a0 hw [] fm nz h0 n0 Z0 Old0 SFM r_fm hnz) hZ (H 243 rfl) (H 12 rfl) (by decide) (by decide)) (g := (mkF m 6 #[vi 0, vi (Int32.ofNat nz), vr b] [(.int (Int32.ofNat nz)), (.int (Int32.ofNat nz)), (.int 0)])) rfl (by rw [hml]; rfl) (argsL := [(.int 0), (.int (Int32.ofNat nz)), (.int (Int32.ofNat nz))]) (rest := []) (lenOf own_pd11 rfl) rfl (own_w0 rfl) (D d41_6) (fun _ _ => ⟨rfl, e1, (by decide : 0 + 0 ≤ _), (by decide : 0 + 0 ≤ _)⟩)
  dsimp only [Pt.U, Pt.locs, Pt.cells, Pt.slots] at X2 l2 y2 z2 st2 hQ2
  subst l2 y2 z2
  obtain ⟨rfl, N2, e2⟩ := hQ2
  have NA2 := Fr.app NA1 N2
  refine gb T2 m 9 #[vi 0, vi (Int32.ofNat nz), vr b] [(.int 0)] st2 ?_
  clear st2
  refine gb T2 m 10 #[vi 0, vi (Int32.ofNat nz), vr b] [] (fun u k => XT.pop X2.here hx rfl (D d41_9) rfl rfl k) ?_
  obtain ⟨fs, hr, hrun, hended, hW, hsame⟩ := X2.leave (v := none) (fun _ => rfl)
  refine ⟨_, _, X2.returnOut hx Bd.returns (D d41_10) hr, hrun, hended, _, _, rfl, ?_, ⟨_, rfl⟩, hW, hsame.mono (by decide) (by decide)⟩
  show Q_own_cb2 Z b fm nz ef kb h0 n0 _ T2.heap _
  rw [e2]
  exact ⟨rfl, NA2, rfl⟩
theorem own_pd12 : parseMethodDescriptor "(II[B)V" = some ⟨[.int, .int, (.array .byte)], none⟩ := by decide +kernel
theorem d40_0 : dc cd40 0 (.iload_n 1) 1 := by decide +kernel
theorem d40_1 : dc cd40 1 (.iload_n 2) 1 := by decide +kernel
theorem d40_2 : dc cd40 2 (.if_icmp .ge 11) 3 := by decide +kernel
theorem d40_5 : dc cd40 5 (.iload_n 1) 1 := by decide +kernel
theorem d40_6 : dc cd40 6 (.iload_n 2) 1 := by decide +kernel
theorem d40_7 : dc cd40 7 (.iload_n 1) 1 := by decide +kernel
theorem d40_8 : dc cd40 8 .isub 1 := by decide +kernel
theorem d40_9 : dc cd40 9 (.aload_n 0) 1 := by decide +kernel
theorem d40_10 : dc cd40 10 (.invokestatic 173) 3 := by decide +kernel
theorem d40_13 : dc cd40 13 (.iload_n 1) 1 := by decide +kernel
theorem d40_14 : dc cd40 14 (.istore 5) 2 := by decide +kernel
theorem d40_16 : dc cd40 16 (.iload 5) 2 := by decide +kernel
theorem d40_18 : dc cd40 18 (.iload_n 2) 1 := by decide +kernel
theorem d40_19 : dc cd40 19 (.if_icmp .ge 22) 3 := by decide +kernel
theorem d40_22 : dc cd40 22 (.aload_n 3) 1 := by decide +kernel
theorem d40_23 : dc cd40 23 (.iload 4) 2 := by decide +kernel
theorem d40_25 : dc cd40 25 (.iinc 4 1) 3 := by decide +kernel
theorem d40_28 : dc cd40 28 (.aload_n 0) 1 := by decide +kernel
theorem d40_29 : dc cd40 29 (.iload 5) 2 := by decide +kernel
theorem d40_31 : dc cd40 31 (.invokestatic 71) 3 := by decide +kernel
theorem d40_34 : dc cd40 34 .castore 1 := by decide +kernel
theorem d40_35 : dc cd40 35 (.iinc 5 1) 3 := by decide +kernel
theorem d40_38 : dc cd40 38 (.goto (-22)) 3 := by decide +kernel
theorem d40_41 : dc cd40 41 .return_ 1 := by decide +kernel
theorem own_ef_own_gch (m : MethodId) (x0 : Addr) (x2 : Int32) (x3 : Addr) : entryFrame m #[(.ref x0), (.int 0), (.int x2), (.ref x3), (.int 0)] 6 = mkF m 0 #[.val (.ref x0), .val (.int 0), .val (.int x2), .val (.ref x3), .val (.int 0), .unset] [] := by first | (simp [entryFrame, mkF, argsToLocals, Value.category]; done) | rfl
def Q_own_gch (Z : State) (b : Addr) (d : Addr) (fm : Value) (nz : Nat) (ef : Nat → Int32) (kb : ClassId) (kd : ClassId) (ds : List Value) (h0 : Heap) (n0 : Nat) (v : Option Value) (h : Heap) (L : List Loc) : Prop := v = none ∧ Fr n0 L ∧ Keep h0 h [d] ∧ Arv Z h d kd .char (Int32.ofNat nz) (own_l nz (own_getF ef)) (.int 0)
theorem own_gch (l : Launch) (Z : State) (a0 : Array Value) (hw : ∀ d ∈ tables_1, d.before a0 Z = true) (ws : List Jvm.Cond) (b : Addr) (d : Addr) (fm : Value) (nz : Nat) (ef : Nat → Int32) (kb : ClassId) (kd : ClassId) (ds : List Value) (h0 : Heap) (n0 : Nat) (Z0 : n0 ≤ h0.size) (g_d : n0 ≤ d) (ne_b_d : b ≠ d) (Old0 : Old Z n0 h0) (SFM : Sta Z Z.heap "jdk/internal/util/Preconditions" "SIOOBE_FORMATTER" "Ljava/util/function/BiFunction;" fm) (r_fm : fm.isRef = true) (Sa : Sta Z Z.heap "java/lang/StringUTF16" "$assertionsDisabled" "Z" (.int 1)) (SHI : Sta Z Z.heap "java/lang/StringUTF16" "HI_BYTE_SHIFT" "I" (.int 0)) (SLO : Sta Z Z.heap "java/lang/StringUTF16" "LO_BYTE_SHIFT" "I" (.int 8)) (V_b : Arv Z h0 b kb .byte (Int32.ofNat (2 * nz)) (own_l (2 * nz) ef) (.int 0)) (V_d : Arv Z h0 d kd .char (Int32.ofNat nz) ds (.int 0)) (hl_ds : ds.length = nz) (hnz : nz < 6) (hn1 : 0 < nz) :
    own_Met l Z mn17 jdk_52_method_26_code 6 none ws rm11 #[(.ref b), (.int 0), (.int (Int32.ofNat nz)), (.ref d), (.int 0)] h0 (Q_own_gch Z b d fm nz ef kb kd ds h0 n0) := by
  refine own_start (plainFor_of_name own_pn0) fun p e s m below meth c s₁ Bd hx hby hml hZ hown hnm X0 e0 => ?_
  have H := @own_hw Z a0 hw
  have D := @hb _ _ hby
  have hown : s.vm.findClass "java/lang/StringUTF16" = some m.cls := hown
  have N0 := Fr.nil n0
  have K0 := Keep.refl h0 [d]
  rw [own_ef_own_gch m b (Int32.ofNat nz) d]
  refine gb s₁ m 9 #[vr b, vi 0, vi (Int32.ofNat nz), vr d, vi 0, un] [(.int ((Int32.ofNat nz) - (0 : Int32))), (.int 0)] (fun u k => XS.iloadN X0.here hx rfl (D d40_0) rfl (XS.iloadN X0.here hx rfl (D d40_1) rfl (XS.icmpNo X0.here hx rfl (D d40_2) rfl (XT.ii_ge_f (own_ilt (i := 0) hn1 (by omega))) (XS.iloadN X0.here hx rfl (D d40_5) rfl (XS.iloadN X0.here hx rfl (D d40_6) rfl (XS.iloadN X0.here hx rfl (D d40_7) rfl (XS.isub X0.here hx rfl (D d40_8) rfl k))))))) ?_
  have rw1 : ((Int32.ofNat nz) - (0 : Int32)) = (Int32.ofNat nz) := own_sub0 (by omega)
  rw [rw1]
  refine gb s₁ m 10 #[vr b, vi 0, vi (Int32.ofNat nz), vr d, vi 0, un] [(.ref b), (.int (Int32.ofNat nz)), (.int 0)] (fun u k => XS.aloadN X0.here hx rfl (D d40_9) rfl rfl k) ?_
  obtain ⟨_, _, ⟨T2, L2, k2, n2⟩, -, X2, ⟨Lc2, hQ2, l2, y2, z2⟩, st2⟩ := Jvm.LawKit.callS X0 hx (y := mn16) hown (mvT hZ (H 235 rfl)) (mvT hZ (H 236 rfl)) (mvT hZ (H 26 rfl)) (mvT hZ (H 237 rfl)) (by decide) (backOf (W := 0) (own_cb2 l Z a0 hw [] b fm nz ef kb h0 n0 Z0 Old0 SFM r_fm V_b hnz) hZ (H 237 rfl) (H 26 rfl) (by decide) (by decide)) (g := (mkF m 10 #[vr b, vi 0, vi (Int32.ofNat nz), vr d, vi 0, un] [(.ref b), (.int (Int32.ofNat nz)), (.int 0)])) rfl (by rw [hml]; rfl) (argsL := [(.int 0), (.int (Int32.ofNat nz)), (.ref b)]) (rest := []) (lenOf own_pd12 rfl) rfl (own_w0 rfl) (D d40_10) (fun _ _ => ⟨rfl, e0, (by decide : 0 + 0 ≤ _), (by decide : 0 + 0 ≤ _)⟩)
  dsimp only [Pt.U, Pt.locs, Pt.cells, Pt.slots] at X2 l2 y2 z2 st2 hQ2
  subst l2 y2 z2
  obtain ⟨rfl, N2, e2⟩ := hQ2
  have NA2 := Fr.app N0 N2
  refine gb T2 m 13 #[vr b, vi 0, vi (Int32.ofNat nz), vr d, vi 0, un] [] st2 ?_
  clear st2
  refine gb T2 m 16 #[vr b, vi 0, vi (Int32.ofNat nz), vr d, vi 0, vi 0] [] (fun u k => XS.iloadN X2.here hx rfl (D d40_13) rfl (XS.istore X2.here hx rfl (D d40_14) rfl (l' := #[vr b, vi 0, vi (Int32.ofNat nz), vr d, vi 0, vi 0]) rfl k)) ?_
  have loop : ∀ (d9 : Nat) (i9 : Nat) (ds9 : List Value) (T9 : State) (L9 : List Loc), (d9 = nz - i9) → (i9 ≤ nz) → (own_pw nz i9 (own_getF ef) ds9) → Stand p l e rm11 s m #[(.ref b), (.int 0), (.int (Int32.ofNat nz)), (.ref d), (.int 0)] below meth c T9 L9 0 0 → Fr n0 L9 → n0 ≤ T9.heap.size → Keep h0 T9.heap [d] → Old Z n0 T9.heap → Arv Z T9.heap b kb .byte (Int32.ofNat (2 * nz)) (own_l (2 * nz) ef) (.int 0) → Arv Z T9.heap d kd .char (Int32.ofNat nz) ds9 (.int 0) → Go p e below (own_F s below (Q_own_gch Z b d fm nz ef kb kd ds h0 n0) rm11.cells rm11.slots) (T9.setTop (mkF m 16 #[vr b, vi 0, vi (Int32.ofNat nz), vr d, vi (Int32.ofNat i9), vi (Int32.ofNat i9)] [])) := by
    intro d9
    induction d9 with
    | zero =>
      intro i9 ds9 T9 L9 hd9 hi9 hP9 X9 N9 Z9 K9 O9 G9_0 G9_1
      refine gb T9 m 41 #[vr b, vi 0, vi (Int32.ofNat nz), vr d, vi (Int32.ofNat i9), vi (Int32.ofNat i9)] [] (fun u k => XS.iload X9.here hx rfl (D d40_16) rfl (XS.iloadN X9.here hx rfl (D d40_18) rfl (XS.icmpYes X9.here hx rfl (pc0 := 19) (pc' := 41) rfl (D d40_19) rfl (XT.ii_ge_t (own_nlt (by omega) (by omega))) (by decide) (by decide) k))) ?_
      have VF : Arv Z T9.heap d kd .char (Int32.ofNat nz) (own_l nz (own_getF ef)) (.int 0) := by rw [← hP9.fin (by omega)]; exact G9_1
      obtain ⟨fs, hr, hrun, hended, hW, hsame⟩ := X9.leave (v := none) (fun _ => rfl)
      refine ⟨_, _, X9.returnOut hx Bd.returns (D d40_41) hr, hrun, hended, _, _, rfl, ?_, ⟨_, rfl⟩, hW, hsame.mono (by decide) (by decide)⟩
      show Q_own_gch Z b d fm nz ef kb kd ds h0 n0 _ T9.heap _
      exact ⟨rfl, N9, K9, VF⟩
    | succ d9 ih9 =>
      intro i9 ds9 T9 L9 hd9 hi9 hP9 X9 N9 Z9 K9 O9 G9_0 G9_1
      refine gb T9 m 31 #[vr b, vi 0, vi (Int32.ofNat nz), vr d, vi ((Int32.ofNat i9) + (1 : Int32)), vi (Int32.ofNat i9)] [(.int (Int32.ofNat i9)), (.ref b), (.int (Int32.ofNat i9)), (.ref d)] (fun u k => XS.iload X9.here hx rfl (D d40_16) rfl (XS.iloadN X9.here hx rfl (D d40_18) rfl (XS.icmpNo X9.here hx rfl (D d40_19) rfl (XT.ii_ge_f (own_ilt (by omega) (by omega))) (XS.aloadN X9.here hx rfl (D d40_22) rfl rfl (XS.iload X9.here hx rfl (D d40_23) rfl (XT.iincV X9.here hx rfl (1 : Int32) (D d40_25) (by decide) rfl (l' := #[vr b, vi 0, vi (Int32.ofNat nz), vr d, vi ((Int32.ofNat i9) + (1 : Int32)), vi (Int32.ofNat i9)]) rfl (XS.aloadN X9.here hx rfl (D d40_28) rfl rfl (XS.iload X9.here hx rfl (D d40_29) rfl k)))))))) ?_
      obtain ⟨_, _, ⟨T3, L3, k3, n3⟩, -, X3, ⟨Lc3, hQ3, l3, y3, z3⟩, st3⟩ := Jvm.LawKit.callS X9 hx (y := mn2) hown (mvT hZ (H 226 rfl)) (mvT hZ (H 227 rfl)) (mvT hZ (H 26 rfl)) (mvT hZ (H 228 rfl)) (by decide) (backOf (W := 2) (own_gchr l Z a0 hw [] b nz i9 ef kb T9.heap n0 Z9 O9 Sa SHI SLO G9_0 hnz (by omega)) hZ (H 228 rfl) (H 26 rfl) (by decide) (by decide)) (g := (mkF m 31 #[vr b, vi 0, vi (Int32.ofNat nz), vr d, vi ((Int32.ofNat i9) + (1 : Int32)), vi (Int32.ofNat i9)] [(.int (Int32.ofNat i9)), (.ref b), (.int (Int32.ofNat i9)), (.ref d)])) rfl (by rw [hml]; rfl) (argsL := [(.ref b), (.int (Int32.ofNat i9))]) (rest := [(.int (Int32.ofNat i9)), (.ref d)]) (lenOf own_pd5 rfl) rfl (own_w0 rfl) (D d40_31) (fun _ _ => ⟨rfl, rfl, (by decide : 0 + 0 ≤ _), (by decide : 0 + 0 ≤ _)⟩)
      dsimp only [Pt.U, Pt.locs, Pt.cells, Pt.slots] at X3 l3 y3 z3 st3 hQ3
      subst l3 y3 z3
      obtain ⟨rfl, N3, e3⟩ := hQ3
      have NA3 := Fr.app N9 N3
      refine gb T3 m 34 #[vr b, vi 0, vi (Int32.ofNat nz), vr d, vi ((Int32.ofNat i9) + (1 : Int32)), vi (Int32.ofNat i9)] [(.int (own_get (ef (2 * i9)) (ef (2 * i9 + 1)))), (.int (Int32.ofNat i9)), (.ref d)] st3 ?_
      clear st3
      have rw4 : ((Int32.ofNat i9) + (1 : Int32)) = (Int32.ofNat (i9 + 1)) := (own_j i9 (by omega)).2.2
      rw [rw4]
      obtain ⟨cl5, Ar5, aq5, aS5, aM5, aH5, aG5⟩ := id G9_1
      obtain ⟨T6, h6, X6, e6, W6, st6⟩ := stC X3 hx hZ e3 Ar5 (j := (Int32.ofNat i9)) (inb_of aS5 (own_ib (by omega) (by omega))) (g := (mkF m 34 #[vr b, vi 0, vi (Int32.ofNat nz), vr d, vi (Int32.ofNat (i9 + 1)), vi (Int32.ofNat i9)] [(.int (own_get (ef (2 * i9)) (ef (2 * i9 + 1)))), (.int (Int32.ofNat i9)), (.ref d)])) rfl rfl (D d40_34)
      have Z6 : n0 ≤ h6.size := Nat.le_trans Z9 (Keep.of_wr W6).1
      have K6 := K9.wr W6 (Or.inl (List.mem_of_getElem? (i := 0) rfl))
      have N6 := Fr.snoc X6 NA3 g_d
      have O6 := O9.wr W6 g_d
      have V6 : Arv Z h6 d kd .char (Int32.ofNat nz) (ds9.set i9 (.int (nar .char (own_get (ef (2 * i9)) (ef (2 * i9 + 1)))))) (.int 0) := Arv.set Ar5 aq5 aS5 aM5 aH5 aG5 (fits_nar_char _) W6 (i9) (own_j i9 (by omega)).2.1 (by rw [hP9.1]; omega)
      rw [own_get_c (ef (2 * i9)) (ef (2 * i9 + 1))] at V6
      refine gb T6 m 35 #[vr b, vi 0, vi (Int32.ofNat nz), vr d, vi (Int32.ofNat (i9 + 1)), vi (Int32.ofNat i9)] [] st6 ?_
      clear st6
      refine gb T6 m 16 #[vr b, vi 0, vi (Int32.ofNat nz), vr d, vi (Int32.ofNat (i9 + 1)), vi ((Int32.ofNat i9) + (1 : Int32))] [] (fun u k => XT.iincV X6.here hx rfl (1 : Int32) (D d40_35) (by decide) rfl (l' := #[vr b, vi 0, vi (Int32.ofNat nz), vr d, vi (Int32.ofNat (i9 + 1)), vi ((Int32.ofNat i9) + (1 : Int32))]) rfl (XS.goto X6.here hx rfl (pc0 := 38) (pc' := 16) rfl (D d40_38) (by decide) (by decide) k)) ?_
      have rw7 : ((Int32.ofNat i9) + (1 : Int32)) = (Int32.ofNat (i9 + 1)) := (own_j i9 (by omega)).2.2
      rw [rw7]
      have f8 := (G9_0.other W6 ne_b_d)
      subst e6
      exact ih9 (i9 + 1) _ T6 _ (by omega) (by omega) (hP9.step (by omega) rfl) X6 N6 Z6 K6 O6 f8 V6 
  show Go p e below (own_F s below (Q_own_gch Z b d fm nz ef kb kd ds h0 n0) rm11.cells rm11.slots) (T2.setTop (mkF m 16 #[vr b, vi 0, vi (Int32.ofNat nz), vr d, vi (Int32.ofNat 0), vi (Int32.ofNat 0)] []))
  subst e2
  exact loop nz 0 ds T2 _ rfl (by omega) (own_pw0 _ hl_ds) X2 NA2 Z0 K0 Old0 V_b V_d 
theorem own_pd13 : parseMethodDescriptor "([BII[CI)V" = some ⟨[(.array .byte), .int, .int, (.array .char), .int], none⟩ := by decide +kernel
theorem d39_0 : dc cd39 0 (.aload_n 0) 1 := by decide +kernel
theorem d39_1 : dc cd39 1 .arraylength 1 := by decide +kernel
theorem d39_2 : dc cd39 2 (.iconst 1) 1 := by decide +kernel
theorem d39_3 : dc cd39 3 .ishr 1 := by decide +kernel
theorem d39_4 : dc cd39 4 (.newarray .char) 2 := by decide +kernel
theorem d39_6 : dc cd39 6 (.astore_n 1) 1 := by decide +kernel
theorem d39_7 : dc cd39 7 (.aload_n 0) 1 := by decide +kernel
theorem d39_8 : dc cd39 8 (.iconst 0) 1 := by decide +kernel
theorem d39_9 : dc cd39 9 (.aload_n 1) 1 := by decide +kernel
theorem d39_10 : dc cd39 10 .arraylength 1 := by decide +kernel
theorem d39_11 : dc cd39 11 (.aload_n 1) 1 := by decide +kernel
theorem d39_12 : dc cd39 12 (.iconst 0) 1 := by decide +kernel
theorem d39_13 : dc cd39 13 (.invokestatic 103) 3 := by decide +kernel
theorem d39_16 : dc cd39 16 (.aload_n 1) 1 := by decide +kernel
theorem d39_17 : dc cd39 17 .areturn 1 := by decide +kernel
theorem own_ef_own_tcu (m : MethodId) (x0 : Addr) : entryFrame m #[(.ref x0)] 2 = mkF m 0 #[.val (.ref x0), .unset] [] := by first | (simp [entryFrame, mkF, argsToLocals, Value.category]; done) | rfl
def Q_own_tcu (Z : State) (b : Addr) (fm : Value) (nz : Nat) (ef : Nat → Int32) (kb : ClassId) (h0 : Heap) (n0 : Nat) (v : Option Value) (h : Heap) (L : List Loc) : Prop := ∃ r : Addr, ∃ kr : ClassId, v = some (.ref r) ∧ Fr n0 L ∧ Keep h0 h [] ∧ n0 ≤ r ∧ h0.size ≤ r ∧ Arv Z h r kr .char (Int32.ofNat nz) (own_l nz (own_getF ef)) (.int 0)
theorem own_tcu (l : Launch) (Z : State) (a0 : Array Value) (hw : ∀ d ∈ tables_1, d.before a0 Z = true) (ws : List Jvm.Cond) (b : Addr) (fm : Value) (nz : Nat) (ef : Nat → Int32) (kb : ClassId) (h0 : Heap) (n0 : Nat) (Z0 : n0 ≤ h0.size) (Old0 : Old Z n0 h0) (SFM : Sta Z Z.heap "jdk/internal/util/Preconditions" "SIOOBE_FORMATTER" "Ljava/util/function/BiFunction;" fm) (r_fm : fm.isRef = true) (Sa : Sta Z Z.heap "java/lang/StringUTF16" "$assertionsDisabled" "Z" (.int 1)) (SHI : Sta Z Z.heap "java/lang/StringUTF16" "HI_BYTE_SHIFT" "I" (.int 0)) (SLO : Sta Z Z.heap "java/lang/StringUTF16" "LO_BYTE_SHIFT" "I" (.int 8)) (V_b : Arv Z h0 b kb .byte (Int32.ofNat (2 * nz)) (own_l (2 * nz) ef) (.int 0)) (hnz : nz < 6) (hn1 : 0 < nz) :
    own_Met l Z mn18 jdk_52_method_13_code 2 (some (.array .char)) ws rm12 #[(.ref b)] h0 (Q_own_tcu Z b fm nz ef kb h0 n0) := by
  refine own_start (plainFor_of_name own_pn0) fun p e s m below meth c s₁ Bd hx hby hml hZ hown hnm X0 e0 => ?_
  have H := @own_hw Z a0 hw
  have D := @hb _ _ hby
  have hown : s.vm.findClass "java/lang/StringUTF16" = some m.cls := hown
  have N0 := Fr.nil n0
  have K0 := Keep.refl h0 []
  rw [own_ef_own_tcu m b]
  refine gb s₁ m 1 #[vr b, un] [(.ref b)] (fun u k => XS.aloadN X0.here hx rfl (D d39_0) rfl rfl k) ?_
  obtain ⟨cl1, Ar1, aq1, aS1, aM1, aH1, aG1⟩ := id V_b
  refine gb s₁ m 2 #[vr b, un] [(.int cl1.slots.size.toInt32)] (fun u k => X0.arraylength hx (by rw [e0]; exact Ar1.1) (State.isArrayOf_alike hZ.alike Ar1.2.1) (g := (mkF m 1 #[vr b, un] [(.ref b)])) rfl rfl (D d39_1) _ k) ?_
  rw [len_of aS1 aM1]
  refine gb s₁ m 4 #[vr b, un] [(.int ((Int32.ofNat (2 * nz)) >>> ((1 : Int32) &&& 31)))] (fun u k => XT.iconstV X0.here hx rfl (1 : Int32) (D d39_2) (by decide) (XT.ishr X0.here hx rfl (D d39_3) rfl k)) ?_
  have rw2 : ((Int32.ofNat (2 * nz)) >>> ((1 : Int32) &&& 31)) = (Int32.ofNat nz) := own_shr1 (by omega)
  rw [rw2]
  obtain ⟨T3, h3, k3, X3, e3, E3, A3, st3⟩ := newP X0 hx hZ (H 9 rfl) e0 (g := (mkF m 4 #[vr b, un] [(.int (Int32.ofNat nz))])) rfl (D d39_4) rfl (own_j nz (by omega)).1 (cap := 5) (by rw [(own_j nz (by omega)).2.1]; omega) (by decide) (by decide) (by decide)
  obtain ⟨b3, g3⟩ : ∃ z, z = h0.size := ⟨_, rfl⟩
  rw [← g3] at A3 st3
  have ne_b_b3 : b ≠ b3 := Nat.ne_of_lt (Nat.lt_of_lt_of_le V_b.lt (Nat.le_of_eq g3.symm))
  have gb3 : n0 ≤ b3 := Nat.le_trans Z0 (Nat.le_of_eq g3.symm)
  have sz3 : h0.size ≤ b3 := Nat.le_trans K0.1 (Nat.le_of_eq g3.symm)
  have Z3 : n0 ≤ h3.size := Nat.le_trans Z0 E3.1
  have K3 := K0.ext E3
  have O3 := Old0.ext E3
  have V3 : Arv Z h3 b3 k3 .char (Int32.ofNat nz) (([] : List Value) ++ List.replicate nz ((.int 0) : Value)) (.int 0) := (Arv.new A3 (own_j nz (by omega)).1).pad (pad_rep [] (.int 0) nz)
  refine gb T3 m 6 #[vr b, un] [(.ref b3)] st3 ?_
  clear st3
  refine gb T3 m 10 #[vr b, vr b3] [(.ref b3), (.int 0), (.ref b)] (fun u k => XS.astoreN X3.here hx rfl (D d39_6) rfl rfl (l' := #[vr b, vr b3]) rfl (XS.aloadN X3.here hx rfl (D d39_7) rfl rfl (XT.iconstV X3.here hx rfl (0 : Int32) (D d39_8) (by decide) (XS.aloadN X3.here hx rfl (D d39_9) rfl rfl k)))) ?_
  obtain ⟨cl4, Ar4, aq4, aS4, aM4, aH4, aG4⟩ := id V3
  refine gb T3 m 11 #[vr b, vr b3] [(.int cl4.slots.size.toInt32), (.int 0), (.ref b)] (fun u k => X3.arraylength hx (by rw [e3]; exact Ar4.1) (State.isArrayOf_alike hZ.alike Ar4.2.1) (g := (mkF m 10 #[vr b, vr b3] [(.ref b3), (.int 0), (.ref b)])) rfl rfl (D d39_10) _ k) ?_
  rw [len_of aS4 aM4]
  refine gb T3 m 13 #[vr b, vr b3] [(.int 0), (.ref b3), (.int (Int32.ofNat nz)), (.int 0), (.ref b)] (fun u k => XS.aloadN X3.here hx rfl (D d39_11) rfl rfl (XT.iconstV X3.here hx rfl (0 : Int32) (D d39_12) (by decide) k)) ?_
  have f5 := (V_b.ext E3)
  obtain ⟨_, _, ⟨T6, L6, k6, n6⟩, -, X6, ⟨Lc6, hQ6, l6, y6, z6⟩, st6⟩ := Jvm.LawKit.callS X3 hx (y := mn17) hown (mvT hZ (H 232 rfl)) (mvT hZ (H 233 rfl)) (mvT hZ (H 26 rfl)) (mvT hZ (H 234 rfl)) (by decide) (backOf (W := 0) (own_gch l Z a0 hw [] b b3 fm nz ef kb k3 (([] : List Value) ++ List.replicate nz ((.int 0) : Value)) h3 n0 Z3 gb3 ne_b_b3 O3 SFM r_fm Sa SHI SLO f5 V3 (by simp : (([] : List Value) ++ List.replicate nz ((.int 0) : Value)).length = nz) hnz hn1) hZ (H 234 rfl) (H 26 rfl) (by decide) (by decide)) (g := (mkF m 13 #[vr b, vr b3] [(.int 0), (.ref b3), (.int (Int32.ofNat nz)), (.int 0), (.ref b)])) rfl (by rw [hml]; rfl) (argsL := [(.ref b), (.int 0), (.int (Int32.ofNat nz)), (.ref b3), (.int 0)]) (rest := []) (lenOf own_pd13 rfl) rfl (own_w0 rfl) (D d39_13) (fun _ _ => ⟨rfl, e3, (by decide : 1 + 0 ≤ _), (by decide : 5 + 0 ≤ _)⟩)
  dsimp only [Pt.U, Pt.locs, Pt.cells, Pt.slots] at X6 l6 y6 z6 st6 hQ6
  subst l6 y6 z6
  obtain ⟨rfl, N6, Kc6, P6_0⟩ := hQ6
  have NA6 := Fr.app N0 N6
  have Z6 : n0 ≤ T6.heap.size := Nat.le_trans Z3 Kc6.1
  have K6 := K3.trans Kc6 (allS (Or.inr sz3) all0)
  have O6 := O3.keep Kc6 (allS gb3 all0)
  refine gb T6 m 16 #[vr b, vr b3] [] st6 ?_
  clear st6
  refine gb T6 m 17 #[vr b, vr b3] [(.ref b3)] (fun u k => XS.aloadN X6.here hx rfl (D d39_16) rfl rfl k) ?_
  obtain ⟨fs, hr, hrun, hended, hW, hsame⟩ := X6.leave (v := some (.ref b3)) (fun h => by rw [Bd.returns] at h; cases h)
  refine ⟨_, _, retOut X6 hx (t := (.array .char)) (i := .areturn) Bd.returns rfl (Or.inr (Or.inr (Or.inr (Or.inr ⟨rfl, rfl, rfl⟩)))) (D d39_17) hr, hrun, hended, _, _, rfl, ?_, ⟨_, rfl⟩, hW, hsame.mono (by decide) (by decide)⟩
  show Q_own_tcu Z b fm nz ef kb h0 n0 _ T6.heap _
  exact ⟨b3, k3, rfl, NA6, K6, gb3, sz3, P6_0⟩
theorem own_pd14 : parseMethodDescriptor "()Z" = some ⟨[], some .boolean⟩ := by decide +kernel
theorem own_pd15 : parseMethodDescriptor "([B)[C" = some ⟨[(.array .byte)], some (.array .char)⟩ := by decide +kernel
theorem d11_0 : dc cd11 0 (.aload_n 0) 1 := by decide +kernel
theorem d11_1 : dc cd11 1 (.invokevirtual 492) 3 := by decide +kernel
theorem d11_4 : dc cd11 4 (.ifCond .eq 13) 3 := by decide +kernel
theorem d11_7 : dc cd11 7 (.aload_n 0) 1 := by decide +kernel
theorem d11_8 : dc cd11 8 (.getfield 9) 3 := by decide +kernel
theorem d11_11 : dc cd11 11 (.invokestatic 299) 3 := by decide +kernel
theorem d11_14 : dc cd11 14 (.goto 10) 3 := by decide +kernel
theorem d11_17 : dc cd11 17 (.aload_n 0) 1 := by decide +kernel
theorem d11_18 : dc cd11 18 (.getfield 9) 3 := by decide +kernel
theorem d11_21 : dc cd11 21 (.invokestatic 303) 3 := by decide +kernel
theorem d11_24 : dc cd11 24 .areturn 1 := by decide +kernel
theorem own_ef_own_tca_L (m : MethodId) (x0 : Addr) : entryFrame m #[(.ref x0)] 1 = mkF m 0 #[.val (.ref x0)] [] := by first | (simp [entryFrame, mkF, argsToLocals, Value.category]; done) | rfl
def Q_own_tca_L (Z : State) (a : Addr) (t : Addr) (gC : Int32) (fm : Value) (nz : Nat) (cf : Nat → Int32) (kt : ClassId) (h0 : Heap) (n0 : Nat) (v : Option Value) (h : Heap) (L : List Loc) : Prop := ∃ r : Addr, ∃ kr : ClassId, v = some (.ref r) ∧ Fr n0 L ∧ Keep h0 h [] ∧ n0 ≤ r ∧ h0.size ≤ r ∧ Arv Z h r kr .char (Int32.ofNat nz) (own_l nz cf) (.int 0)
theorem own_tca_L (l : Launch) (Z : State) (a0 : Array Value) (hw : ∀ d ∈ tables_1, d.before a0 Z = true) (ws : List Jvm.Cond) (a : Addr) (t : Addr) (gC : Int32) (fm : Value) (nz : Nat) (cf : Nat → Int32) (kt : ClassId) (h0 : Heap) (n0 : Nat) (Z0 : n0 ≤ h0.size) (E_a : Exa Z h0 a "java/lang/String") (F_a_coder : Fld Z h0 a "java/lang/String" "coder" "B" (.int 0)) (F_a_value : Fld Z h0 a "java/lang/String" "value" "[B" (.ref t)) (Old0 : Old Z n0 h0) (SCS : Sta Z Z.heap "java/lang/String" "COMPACT_STRINGS" "Z" (.int gC)) (P5 : ¬ gC = 0) (SFM : Sta Z Z.heap "jdk/internal/util/Preconditions" "SIOOBE_FORMATTER" "Ljava/util/function/BiFunction;" fm) (r_fm : fm.isRef = true) (Sa : Sta Z Z.heap "java/lang/StringUTF16" "$assertionsDisabled" "Z" (.int 1)) (SHI : Sta Z Z.heap "java/lang/StringUTF16" "HI_BYTE_SHIFT" "I" (.int 0)) (SLO : Sta Z Z.heap "java/lang/StringUTF16" "LO_BYTE_SHIFT" "I" (.int 8)) (V_t : Arv Z h0 t kt .byte (Int32.ofNat nz) (own_l nz (own_lo8 cf)) (.int 0)) (hnz : nz < 6) (hch : ∀ j, j < nz → own_ch (cf j)) (hb9 : ∀ j, j < nz → ¬ (255 : Int32) < cf j) :
    own_Met l Z mn19 jdk_42_method_129_code 1 (some (.array .char)) ws rm13 #[(.ref a)] h0 (Q_own_tca_L Z a t gC fm nz cf kt h0 n0) := by
  refine own_start (plainFor_of_name own_pn1) fun p e s m below meth c s₁ Bd hx hby hml hZ hown hnm X0 e0 => ?_
  have H := @own_hw Z a0 hw
  have D := @hb _ _ hby
  have hown : s.vm.findClass "java/lang/String" = some m.cls := hown
  have N0 := Fr.nil n0
  have K0 := Keep.refl h0 []
  rw [own_ef_own_tca_L m a]
  refine gb s₁ m 1 #[vr a] [(.ref a)] (fun u k => XS.aloadN X0.here hx rfl (D d11_0) rfl rfl k) ?_
  obtain ⟨cq2, kq2, qa2, qb2, qc2⟩ := isOf hZ e0 E_a
  obtain ⟨_, _, ⟨T1, L1, k1, n1⟩, -, X1, ⟨Lc1, hQ1, l1, y1, z1⟩, st1⟩ := X0.virtualBack hx (y := mn10) (z := mn10) hown (mvT hZ (H 59 rfl)) (mvT hZ (H 60 rfl)) (notFace_of_selects (args := #[]) (mvT hZ (H 62 rfl))) (mvT hZ (H 62 rfl)) (mvT hZ (H 61 rfl)) (by decide) (backOf (W := 0) (own_isl_0 l Z a0 hw [] a gC h0 n0 Z0 F_a_coder Old0 SCS P5) hZ (H 63 rfl) (H 12 rfl) (by decide) (by decide)) qa2 qc2 (g := (mkF m 1 #[vr a] [(.ref a)])) rfl (by rw [hml]; rfl) (Steps.refl _) (argsL := []) (rest := []) (lenOf own_pd14 rfl) rfl (own_w0 rfl) (D d11_1) (fun _ _ => ⟨rfl, e0, (by decide : 0 + 0 ≤ _), (by decide : 0 + 0 ≤ _)⟩)
  dsimp only [Pt.U, Pt.locs, Pt.cells, Pt.slots] at X1 l1 y1 z1 st1 hQ1
  subst l1 y1 z1
  obtain ⟨rfl, N1, e1⟩ := hQ1
  have NA1 := Fr.app N0 N1
  refine gb T1 m 4 #[vr a] [(.int 1)] (fun u k => st1.trans k) ?_
  clear st1
  refine gb T1 m 8 #[vr a] [(.ref a)] (fun u k => XS.ifNo X1.here hx rfl (D d11_4) rfl (XT.i0_eq_f (by decide)) (XS.aloadN X1.here hx rfl (D d11_7) rfl rfl k)) ?_
  obtain ⟨T3, X3, e3, st3⟩ := getF X1 hx hZ hown (host := "") (Or.inl (H 37 rfl)) Via.refl e1 F_a_value (g := (mkF m 8 #[vr a] [(.ref a)])) rfl rfl (D d11_8)
  refine gb T3 m 11 #[vr a] [(.ref t)] st3 ?_
  clear st3
  obtain ⟨_, _, ⟨T4, L4, k4, n4⟩, -, X4, ⟨Lc4, hQ4, l4, y4, z4⟩, st4⟩ := Jvm.LawKit.callS X3 hx (y := mn12) hown (mvT hZ (H 64 rfl)) (mvT hZ (H 65 rfl)) (mvT hZ (H 66 rfl)) (mvT hZ (H 67 rfl)) (by decide) (backOf (W := 0) (own_tcl l Z a0 hw [] t nz (own_lo8 cf) kt h0 n0 Z0 V_t hnz) hZ (H 67 rfl) (H 66 rfl) (by decide) (by decide)) (g := (mkF m 11 #[vr a] [(.ref t)])) rfl (by rw [hml]; rfl) (argsL := [(.ref t)]) (rest := []) (lenOf own_pd15 rfl) rfl (own_w0 rfl) (D d11_11) (fun _ _ => ⟨rfl, e3, (by decide : 0 + 1 ≤ _), (by decide : 0 + 5 ≤ _)⟩)
  dsimp only [Pt.U, Pt.locs, Pt.cells, Pt.slots] at X4 l4 y4 z4 st4 hQ4
  subst l4 y4 z4
  obtain ⟨r4, kr4, rfl, N4, Kc4, gb_r4, szc_r4, P4_0⟩ := hQ4
  have NA4 := Fr.app NA1 N4
  have Z4 : n0 ≤ T4.heap.size := Nat.le_trans Z0 Kc4.1
  have K4 := K0.trans Kc4 all0
  have O4 := Old0.keep Kc4 all0
  have sz_r4 : h0.size ≤ r4 := Nat.le_trans K0.1 szc_r4
  have ne_a_r4 : a ≠ r4 := Nat.ne_of_lt (Nat.lt_of_lt_of_le E_a.lt szc_r4)
  have ne_t_r4 : t ≠ r4 := Nat.ne_of_lt (Nat.lt_of_lt_of_le V_t.lt szc_r4)
  refine gb T4 m 14 #[vr a] [(.ref r4)] st4 ?_
  clear st4
  refine gb T4 m 24 #[vr a] [(.ref r4)] (fun u k => XS.goto X4.here hx rfl (pc0 := 14) (pc' := 24) rfl (D d11_14) (by decide) (by decide) k) ?_
  have hl9 : own_l nz (own_infF (own_lo8 cf)) = own_l nz cf := own_l_congr fun j hj => own_infc (hch j hj) (hb9 j hj)
  have VF : Arv Z T4.heap r4 kr4 .char (Int32.ofNat nz) (own_l nz cf) (.int 0) := by rw [← hl9]; exact P4_0
  obtain ⟨fs, hr, hrun, hended, hW, hsame⟩ := X4.leave (v := some (.ref r4)) (fun h => by rw [Bd.returns] at h; cases h)
  refine ⟨_, _, retOut X4 hx (t := (.array .char)) (i := .areturn) Bd.returns rfl (Or.inr (Or.inr (Or.inr (Or.inr ⟨rfl, rfl, rfl⟩)))) (D d11_24) hr, hrun, hended, _, _, rfl, ?_, ⟨_, rfl⟩, hW, hsame.mono (by decide) (by decide)⟩
  show Q_own_tca_L Z a t gC fm nz cf kt h0 n0 _ T4.heap _
  exact ⟨r4, kr4, rfl, NA4, K4, gb_r4, sz_r4, VF⟩
theorem own_ef_own_tca_W (m : MethodId) (x0 : Addr) : entryFrame m #[(.ref x0)] 1 = mkF m 0 #[.val (.ref x0)] [] := by first | (simp [entryFrame, mkF, argsToLocals, Value.category]; done) | rfl
def Q_own_tca_W (Z : State) (a : Addr) (t : Addr) (gC : Int32) (fm : Value) (nz : Nat) (cf : Nat → Int32) (kt : ClassId) (h0 : Heap) (n0 : Nat) (v : Option Value) (h : Heap) (L : List Loc) : Prop := ∃ r : Addr, ∃ kr : ClassId, v = some (.ref r) ∧ Fr n0 L ∧ Keep h0 h [] ∧ n0 ≤ r ∧ h0.size ≤ r ∧ Arv Z h r kr .char (Int32.ofNat nz) (own_l nz cf) (.int 0)
theorem own_tca_W (l : Launch) (Z : State) (a0 : Array Value) (hw : ∀ d ∈ tables_1, d.before a0 Z = true) (ws : List Jvm.Cond) (a : Addr) (t : Addr) (gC : Int32) (fm : Value) (nz : Nat) (cf : Nat → Int32) (kt : ClassId) (h0 : Heap) (n0 : Nat) (Z0 : n0 ≤ h0.size) (E_a : Exa Z h0 a "java/lang/String") (F_a_coder : Fld Z h0 a "java/lang/String" "coder" "B" (.int 1)) (F_a_value : Fld Z h0 a "java/lang/String" "value" "[B" (.ref t)) (Old0 : Old Z n0 h0) (SCS : Sta Z Z.heap "java/lang/String" "COMPACT_STRINGS" "Z" (.int gC)) (P5 : ¬ gC = 0) (SFM : Sta Z Z.heap "jdk/internal/util/Preconditions" "SIOOBE_FORMATTER" "Ljava/util/function/BiFunction;" fm) (r_fm : fm.isRef = true) (Sa : Sta Z Z.heap "java/lang/StringUTF16" "$assertionsDisabled" "Z" (.int 1)) (SHI : Sta Z Z.heap "java/lang/StringUTF16" "HI_BYTE_SHIFT" "I" (.int 0)) (SLO : Sta Z Z.heap "java/lang/StringUTF16" "LO_BYTE_SHIFT" "I" (.int 8)) (V_t : Arv Z h0 t kt .byte (Int32.ofNat (2 * nz)) (own_l (2 * nz) (own_w cf)) (.int 0)) (hnz : nz < 6) (hch : ∀ j, j < nz → own_ch (cf j)) (hn1 : 0 < nz) :
    own_Met l Z mn19 jdk_42_method_129_code 1 (some (.array .char)) ws rm14 #[(.ref a)] h0 (Q_own_tca_W Z a t gC fm nz cf kt h0 n0) := by
  refine own_start (plainFor_of_name own_pn1) fun p e s m below meth c s₁ Bd hx hby hml hZ hown hnm X0 e0 => ?_
  have H := @own_hw Z a0 hw
  have D := @hb _ _ hby
  have hown : s.vm.findClass "java/lang/String" = some m.cls := hown
  have N0 := Fr.nil n0
  have K0 := Keep.refl h0 []
  rw [own_ef_own_tca_W m a]
  refine gb s₁ m 1 #[vr a] [(.ref a)] (fun u k => XS.aloadN X0.here hx rfl (D d11_0) rfl rfl k) ?_
  obtain ⟨cq2, kq2, qa2, qb2, qc2⟩ := isOf hZ e0 E_a
  obtain ⟨_, _, ⟨T1, L1, k1, n1⟩, -, X1, ⟨Lc1, hQ1, l1, y1, z1⟩, st1⟩ := X0.virtualBack hx (y := mn10) (z := mn10) hown (mvT hZ (H 59 rfl)) (mvT hZ (H 60 rfl)) (notFace_of_selects (args := #[]) (mvT hZ (H 62 rfl))) (mvT hZ (H 62 rfl)) (mvT hZ (H 61 rfl)) (by decide) (backOf (W := 0) (own_isl_1 l Z a0 hw [] a gC h0 n0 Z0 F_a_coder Old0 SCS P5) hZ (H 63 rfl) (H 12 rfl) (by decide) (by decide)) qa2 qc2 (g := (mkF m 1 #[vr a] [(.ref a)])) rfl (by rw [hml]; rfl) (Steps.refl _) (argsL := []) (rest := []) (lenOf own_pd14 rfl) rfl (own_w0 rfl) (D d11_1) (fun _ _ => ⟨rfl, e0, (by decide : 0 + 0 ≤ _), (by decide : 0 + 0 ≤ _)⟩)
  dsimp only [Pt.U, Pt.locs, Pt.cells, Pt.slots] at X1 l1 y1 z1 st1 hQ1
  subst l1 y1 z1
  obtain ⟨rfl, N1, e1⟩ := hQ1
  have NA1 := Fr.app N0 N1
  refine gb T1 m 4 #[vr a] [(.int 0)] (fun u k => st1.trans k) ?_
  clear st1
  refine gb T1 m 18 #[vr a] [(.ref a)] (fun u k => XS.ifYes X1.here hx rfl (pc0 := 4) (pc' := 17) rfl (D d11_4) rfl (XT.i0_eq_t (by decide)) (by decide) (by decide) (XS.aloadN X1.here hx rfl (D d11_17) rfl rfl k)) ?_
  obtain ⟨T3, X3, e3, st3⟩ := getF X1 hx hZ hown (host := "") (Or.inl (H 37 rfl)) Via.refl e1 F_a_value (g := (mkF m 18 #[vr a] [(.ref a)])) rfl rfl (D d11_18)
  refine gb T3 m 21 #[vr a] [(.ref t)] st3 ?_
  clear st3
  obtain ⟨_, _, ⟨T4, L4, k4, n4⟩, -, X4, ⟨Lc4, hQ4, l4, y4, z4⟩, st4⟩ := Jvm.LawKit.callS X3 hx (y := mn18) hown (mvT hZ (H 229 rfl)) (mvT hZ (H 230 rfl)) (mvT hZ (H 26 rfl)) (mvT hZ (H 231 rfl)) (by decide) (backOf (W := 0) (own_tcu l Z a0 hw [] t fm nz (own_w cf) kt h0 n0 Z0 Old0 SFM r_fm Sa SHI SLO V_t hnz hn1) hZ (H 231 rfl) (H 26 rfl) (by decide) (by decide)) (g := (mkF m 21 #[vr a] [(.ref t)])) rfl (by rw [hml]; rfl) (argsL := [(.ref t)]) (rest := []) (lenOf own_pd15 rfl) rfl (own_w0 rfl) (D d11_21) (fun _ _ => ⟨rfl, e3, (by decide : 0 + 1 ≤ _), (by decide : 0 + 5 ≤ _)⟩)
  dsimp only [Pt.U, Pt.locs, Pt.cells, Pt.slots] at X4 l4 y4 z4 st4 hQ4
  subst l4 y4 z4
  obtain ⟨r4, kr4, rfl, N4, Kc4, gb_r4, szc_r4, P4_0⟩ := hQ4
  have NA4 := Fr.app NA1 N4
  have Z4 : n0 ≤ T4.heap.size := Nat.le_trans Z0 Kc4.1
  have K4 := K0.trans Kc4 all0
  have O4 := Old0.keep Kc4 all0
  have sz_r4 : h0.size ≤ r4 := Nat.le_trans K0.1 szc_r4
  have ne_a_r4 : a ≠ r4 := Nat.ne_of_lt (Nat.lt_of_lt_of_le E_a.lt szc_r4)
  have ne_t_r4 : t ≠ r4 := Nat.ne_of_lt (Nat.lt_of_lt_of_le V_t.lt szc_r4)
  refine gb T4 m 24 #[vr a] [(.ref r4)] st4 ?_
  clear st4
  have hl9 : own_l nz (own_getF (own_w cf)) = own_l nz cf := own_l_congr fun j hj => own_getw (hch j hj)
  have VF : Arv Z T4.heap r4 kr4 .char (Int32.ofNat nz) (own_l nz cf) (.int 0) := by rw [← hl9]; exact P4_0
  obtain ⟨fs, hr, hrun, hended, hW, hsame⟩ := X4.leave (v := some (.ref r4)) (fun h => by rw [Bd.returns] at h; cases h)
  refine ⟨_, _, retOut X4 hx (t := (.array .char)) (i := .areturn) Bd.returns rfl (Or.inr (Or.inr (Or.inr (Or.inr ⟨rfl, rfl, rfl⟩)))) (D d11_24) hr, hrun, hended, _, _, rfl, ?_, ⟨_, rfl⟩, hW, hsame.mono (by decide) (by decide)⟩
  show Q_own_tca_W Z a t gC fm nz cf kt h0 n0 _ T4.heap _
  exact ⟨r4, kr4, rfl, NA4, K4, gb_r4, sz_r4, VF⟩
theorem own_pn4 : plainName "backstitch/Needle" = true := by first | (simp [plainName, overriddenIn]; done) | decide +kernel
theorem d16_0 : dc cd16 0 (.iload_n 0) 1 := by decide +kernel
theorem d16_1 : dc cd16 1 (.getstatic 236) 3 := by decide +kernel
theorem d16_4 : dc cd16 4 .arraylength 1 := by decide +kernel
theorem d16_5 : dc cd16 5 (.if_icmp .ge 11) 3 := by decide +kernel
theorem d16_8 : dc cd16 8 (.getstatic 236) 3 := by decide +kernel
theorem d16_11 : dc cd16 11 (.iload_n 0) 1 := by decide +kernel
theorem d16_12 : dc cd16 12 .baload 1 := by decide +kernel
theorem d16_13 : dc cd16 13 (.goto 6) 3 := by decide +kernel
theorem d16_16 : dc cd16 16 (.getstatic 222) 3 := by decide +kernel
theorem d16_19 : dc cd16 19 .ireturn 1 := by decide +kernel
theorem own_ef_own_rar (m : MethodId) (x0 : Int32) : entryFrame m #[(.int x0)] 1 = mkF m 0 #[.val (.int x0)] [] := by first | (simp [entryFrame, mkF, argsToLocals, Value.category]; done) | rfl
def Q_own_rar (Z : State) (cc : Int32) (rA : Addr) (kA : ClassId) (ra : List Value) (h0 : Heap) (n0 : Nat) (v : Option Value) (h : Heap) (L : List Loc) : Prop := ∃ rv : Int32, v = some (.int rv) ∧ Fr n0 L ∧ h = h0 ∧ (¬ rv < 0 ∧ ¬ (28 : Int32) < rv)
theorem own_rar (l : Launch) (Z : State) (a0 : Array Value) (hw : ∀ d ∈ tables_1, d.before a0 Z = true) (ws : List Jvm.Cond) (cc : Int32) (rA : Addr) (kA : ClassId) (ra : List Value) (h0 : Heap) (n0 : Nat) (Z0 : n0 ≤ h0.size) (Old0 : Old Z n0 h0) (SRA : Sta Z Z.heap "backstitch/Needle" "ASCII_RARITY" "[B" (.ref rA)) (SUN : Sta Z Z.heap "backstitch/Needle" "UNORDINARY" "I" (.int 28)) (V_rA : Arv Z h0 rA kA .byte (128 : Int32) ra (.int 0)) (hRA : own_RA ra) (hc : ¬ cc < 0) :
    own_Met l Z mn20 prog_8_method_31_code 1 (some .int) ws rm0 #[(.int cc)] h0 (Q_own_rar Z cc rA kA ra h0 n0) := by
  refine own_start (plainFor_of_name own_pn4) fun p e s m below meth c s₁ Bd hx hby hml hZ hown hnm X0 e0 => ?_
  have H := @own_hw Z a0 hw
  have D := @hb _ _ hby
  have hown : s.vm.findClass "backstitch/Needle" = some m.cls := hown
  have N0 := Fr.nil n0
  have K0 := Keep.refl h0 []
  rw [own_ef_own_rar m cc]
  refine gb s₁ m 1 #[vi cc] [(.int cc)] (fun u k => XS.iloadN X0.here hx rfl (D d16_0) rfl k) ?_
  obtain ⟨T1, X1, e1, st1⟩ := getS2 X0 hx hZ hown (host := "") (Or.inl (H 82 rfl)) Via.refl e0 (SRA.ext Old0.2) (g := (mkF m 1 #[vi cc] [(.int cc)])) rfl (D d16_1)
  refine gb T1 m 4 #[vi cc] [(.ref rA), (.int cc)] st1 ?_
  clear st1
  obtain ⟨cl2, Ar2, aq2, aS2, aM2, aH2, aG2⟩ := id V_rA
  refine gb T1 m 5 #[vi cc] [(.int cl2.slots.size.toInt32), (.int cc)] (fun u k => X1.arraylength hx (by rw [e1]; exact Ar2.1) (State.isArrayOf_alike hZ.alike Ar2.2.1) (g := (mkF m 4 #[vi cc] [(.ref rA), (.int cc)])) rfl rfl (D d16_4) _ k) ?_
  rw [len_of aS2 aM2]
  by_cases hlt : cc < (128 : Int32)
  · refine gb T1 m 8 #[vi cc] [] (fun u k => XS.icmpNo X1.here hx rfl (D d16_5) rfl (XT.ii_ge_f hlt) k) ?_
    obtain ⟨T4, X4, e4, st4⟩ := getS2 X1 hx hZ hown (host := "") (Or.inl (H 82 rfl)) Via.refl e1 (SRA.ext Old0.2) (g := (mkF m 8 #[vi cc] [])) rfl (D d16_8)
    refine gb T4 m 11 #[vi cc] [(.ref rA)] st4 ?_
    clear st4
    refine gb T4 m 12 #[vi cc] [(.int cc), (.ref rA)] (fun u k => XS.iloadN X4.here hx rfl (D d16_11) rfl k) ?_
    obtain ⟨zv, hz, hz1, hz2⟩ := hRA.2 cc.toNatClampNeg (own_nat hc hlt (by decide))
    obtain ⟨cl5, Ar5, aq5, aS5, aM5, aH5, aG5⟩ := id V_rA
    refine gb T4 m 19 #[vi cc] [(.int zv)] (fun u k => X4.baloadBytes hx (j := cc) (v := (.int zv)) (by rw [e4]; exact Ar5.1) (State.isArrayOf_alike hZ.alike Ar5.2.1) Ar5.2.2 (inb_of aS5 ⟨hc, hlt⟩) (Has.at aH5 (inb_of aS5 ⟨hc, hlt⟩) hz) (g := (mkF m 12 #[vi cc] [(.int cc), (.ref rA)])) rfl rfl (D d16_12) _ (XS.goto X4.here hx rfl (pc0 := 13) (pc' := 19) rfl (D d16_13) (by decide) (by decide) k)) ?_
    obtain ⟨fs, hr, hrun, hended, hW, hsame⟩ := X4.leave (v := some (.int zv)) (fun h => by rw [Bd.returns] at h; cases h)
    refine ⟨_, _, retI X4 hx Bd.returns (D d16_19) hr, hrun, hended, _, _, rfl, ?_, ⟨_, rfl⟩, hW, hsame.mono (by decide) (by decide)⟩
    show Q_own_rar Z cc rA kA ra h0 n0 _ T4.heap _
    rw [e4]
    exact ⟨zv, rfl, N0, rfl, ⟨hz1, hz2⟩⟩
  · refine gb T1 m 16 #[vi cc] [] (fun u k => XS.icmpYes X1.here hx rfl (pc0 := 5) (pc' := 16) rfl (D d16_5) rfl (XT.ii_ge_t hlt) (by decide) (by decide) k) ?_
    obtain ⟨T6, X6, e6, st6⟩ := getS2 X1 hx hZ hown (host := "") (Or.inl (H 120 rfl)) Via.refl e1 (SUN.ext Old0.2) (g := (mkF m 16 #[vi cc] [])) rfl (D d16_16)
    refine gb T6 m 19 #[vi cc] [(.int 28)] st6 ?_
    clear st6
    obtain ⟨fs, hr, hrun, hended, hW, hsame⟩ := X6.leave (v := some (.int 28)) (fun h => by rw [Bd.returns] at h; cases h)
    refine ⟨_, _, retI X6 hx Bd.returns (D d16_19) hr, hrun, hended, _, _, rfl, ?_, ⟨_, rfl⟩, hW, hsame.mono (by decide) (by decide)⟩
    show Q_own_rar Z cc rA kA ra h0 n0 _ T6.heap _
    rw [e6]
    exact ⟨(28 : Int32), rfl, N0, rfl, (by decide)⟩
theorem own_pn5 : plainName "java/lang/Record" = true := by first | (simp [plainName, overriddenIn]; done) | decide +kernel
theorem d19_0 : dc cd19 0 (.aload_n 0) 1 := by decide +kernel
theorem d19_1 : dc cd19 1 (.invokespecial 1) 3 := by decide +kernel
theorem d19_4 : dc cd19 4 .return_ 1 := by decide +kernel
theorem own_ef_own_recInit (m : MethodId) (x0 : Addr) : entryFrame m #[(.ref x0)] 1 = mkF m 0 #[.val (.ref x0)] [] := by first | (simp [entryFrame, mkF, argsToLocals, Value.category]; done) | rfl
def Q_own_recInit (Z : State) (a : Addr) (h0 : Heap) (n0 : Nat) (v : Option Value) (h : Heap) (L : List Loc) : Prop := v = none ∧ Fr n0 L ∧ h = h0
theorem own_recInit (l : Launch) (Z : State) (a0 : Array Value) (hw : ∀ d ∈ tables_1, d.before a0 Z = true) (ws : List Jvm.Cond) (a : Addr) (h0 : Heap) (n0 : Nat) (Z0 : n0 ≤ h0.size) :
    own_Met l Z mn21 jdk_30_method_1_code 1 none ws rm15 #[(.ref a)] h0 (Q_own_recInit Z a h0 n0) := by
  refine own_start (plainFor_of_name own_pn5) fun p e s m below meth c s₁ Bd hx hby hml hZ hown hnm X0 e0 => ?_
  have H := @own_hw Z a0 hw
  have D := @hb _ _ hby
  have hown : s.vm.findClass "java/lang/Record" = some m.cls := hown
  have N0 := Fr.nil n0
  have K0 := Keep.refl h0 []
  rw [own_ef_own_recInit m a]
  refine gb s₁ m 1 #[vr a] [(.ref a)] (fun u k => XS.aloadN X0.here hx rfl (D d19_0) rfl rfl k) ?_
  obtain ⟨T1, X1, e1, st1⟩ := initO X0 hx hZ hown (H 100 rfl) (H 21 rfl) (H 22 rfl) e0 (g := (mkF m 1 #[vr a] [(.ref a)])) rfl (by rw [hml]; rfl) rfl (D d19_1) (by decide) (W := 0) (own_w0 rfl) (by decide)
  refine gb T1 m 4 #[vr a] [] st1 ?_
  clear st1
  obtain ⟨fs, hr, hrun, hended, hW, hsame⟩ := X1.leave (v := none) (fun _ => rfl)
  refine ⟨_, _, X1.returnOut hx Bd.returns (D d19_4) hr, hrun, hended, _, _, rfl, ?_, ⟨_, rfl⟩, hW, hsame.mono (by decide) (by decide)⟩
  show Q_own_recInit Z a h0 n0 _ T1.heap _
  rw [e1]
  exact ⟨rfl, N0, rfl⟩
theorem own_pd16 : parseMethodDescriptor "()V" = some ⟨[], none⟩ := by decide +kernel
theorem own_pn6 : plainName "backstitch/Needle$Anchor" = true := by first | (simp [plainName, overriddenIn]; done) | decide +kernel
theorem d18_0 : dc cd18 0 (.aload_n 0) 1 := by decide +kernel
theorem d18_1 : dc cd18 1 (.invokespecial 1) 3 := by decide +kernel
theorem d18_4 : dc cd18 4 (.aload_n 0) 1 := by decide +kernel
theorem d18_5 : dc cd18 5 (.iload_n 1) 1 := by decide +kernel
theorem d18_6 : dc cd18 6 (.putfield 7) 3 := by decide +kernel
theorem d18_9 : dc cd18 9 (.aload_n 0) 1 := by decide +kernel
theorem d18_10 : dc cd18 10 (.iload_n 2) 1 := by decide +kernel
theorem d18_11 : dc cd18 11 (.putfield 13) 3 := by decide +kernel
theorem d18_14 : dc cd18 14 (.aload_n 0) 1 := by decide +kernel
theorem d18_15 : dc cd18 15 (.lload_n 3) 1 := by decide +kernel
theorem d18_16 : dc cd18 16 (.putfield 17) 3 := by decide +kernel
theorem d18_19 : dc cd18 19 (.aload_n 0) 1 := by decide +kernel
theorem d18_20 : dc cd18 20 (.iload 5) 2 := by decide +kernel
theorem d18_22 : dc cd18 22 (.putfield 21) 3 := by decide +kernel
theorem d18_25 : dc cd18 25 .return_ 1 := by decide +kernel
theorem own_ef_own_anInit (m : MethodId) (x0 : Addr) (x1 : Int32) (x2 : Int32) (x3 : Int64) (x4 : Int32) : entryFrame m #[(.ref x0), (.int x1), (.int x2), (.long x3), (.int x4)] 6 = mkF m 0 #[.val (.ref x0), .val (.int x1), .val (.int x2), .val (.long x3), .second, .val (.int x4)] [] := by first | (simp [entryFrame, mkF, argsToLocals, Value.category]; done) | rfl
def Q_own_anInit (Z : State) (a : Addr) (ix : Int32) (cv : Int32) (jv : Int64) (xv : Int32) (h0 : Heap) (n0 : Nat) (v : Option Value) (h : Heap) (L : List Loc) : Prop := v = none ∧ Fr n0 L ∧ Keep h0 h [a] ∧ Exa Z h a "backstitch/Needle$Anchor" ∧ Fld Z h a "backstitch/Needle$Anchor" "index" "I" (.int ix) ∧ Fld Z h a "backstitch/Needle$Anchor" "unit" "C" (.int cv)
theorem own_anInit (l : Launch) (Z : State) (a0 : Array Value) (hw : ∀ d ∈ tables_1, d.before a0 Z = true) (ws : List Jvm.Cond) (a : Addr) (ix : Int32) (cv : Int32) (jv : Int64) (xv : Int32) (h0 : Heap) (n0 : Nat) (Z0 : n0 ≤ h0.size) (E_a : Exa Z h0 a "backstitch/Needle$Anchor") (F_a_index : Fld Z h0 a "backstitch/Needle$Anchor" "index" "I" (.int 0)) (F_a_unit : Fld Z h0 a "backstitch/Needle$Anchor" "unit" "C" (.int 0)) (F_a_inEveryByte : Fld Z h0 a "backstitch/Needle$Anchor" "inEveryByte" "J" (.long 0)) (F_a_openingExtra : Fld Z h0 a "backstitch/Needle$Anchor" "openingExtra" "I" (.int 0)) (g_a : n0 ≤ a) (hcv : nar .char cv = cv) :
    own_Met l Z mn22 prog_9_method_1_code 6 none ws rm16 #[(.ref a), (.int ix), (.int cv), (.long jv), (.int xv)] h0 (Q_own_anInit Z a ix cv jv xv h0 n0) := by
  refine own_start (plainFor_of_name own_pn6) fun p e s m below meth c s₁ Bd hx hby hml hZ hown hnm X0 e0 => ?_
  have H := @own_hw Z a0 hw
  have D := @hb _ _ hby
  have hown : s.vm.findClass "backstitch/Needle$Anchor" = some m.cls := hown
  have N0 := Fr.nil n0
  have K0 := Keep.refl h0 [a]
  rw [own_ef_own_anInit m a ix cv jv xv]
  refine gb s₁ m 1 #[vr a, vi ix, vi cv, .val (.long jv), .second, vi xv] [(.ref a)] (fun u k => XS.aloadN X0.here hx rfl (D d18_0) rfl rfl k) ?_
  obtain ⟨_, _, ⟨T1, L1, k1, n1⟩, -, X1, ⟨Lc1, hQ1, l1, y1, z1⟩, st1⟩ := X0.specialBack hx (y := mn21) rfl hown (mvT hZ (H 95 rfl)) (mvT hZ (H 96 rfl)) (mvT hZ (H 99 rfl)) (by decide) (backOf (W := 0) (own_recInit l Z a0 hw [] a h0 n0 Z0 ) hZ (H 99 rfl) (H 98 rfl) (by decide) (by decide)) (g := (mkF m 1 #[vr a, vi ix, vi cv, .val (.long jv), .second, vi xv] [(.ref a)])) rfl (by rw [hml]; rfl) (Steps.refl _) (a := a) (argsL := []) (rest := []) (lenOf own_pd16 rfl) rfl (own_w0 rfl) (D d18_1) (fun _ _ => ⟨rfl, e0, (by decide : 0 + 0 ≤ _), (by decide : 0 + 0 ≤ _)⟩)
  dsimp only [Pt.U, Pt.locs, Pt.cells, Pt.slots] at X1 l1 y1 z1 st1 hQ1
  subst l1 y1 z1
  obtain ⟨rfl, N1, e1⟩ := hQ1
  have NA1 := Fr.app N0 N1
  refine gb T1 m 4 #[vr a, vi ix, vi cv, .val (.long jv), .second, vi xv] [] (fun u k => st1.trans k) ?_
  clear st1
  refine gb T1 m 6 #[vr a, vi ix, vi cv, .val (.long jv), .second, vi xv] [(.int ix), (.ref a)] (fun u k => XS.aloadN X1.here hx rfl (D d18_4) rfl rfl (XS.iloadN X1.here hx rfl (D d18_5) rfl k)) ?_
  obtain ⟨T2, h2, X2, e2, W2, st2⟩ := putF X1 hx hZ hown (host := "") (Or.inl (H 101 rfl)) Via.refl e1 F_a_index E_a (Or.inr ⟨(H 102 rfl), rfl, hnm⟩) (H 89 rfl) (ty := .int) (by decide) rfl rfl (g := (mkF m 6 #[vr a, vi ix, vi cv, .val (.long jv), .second, vi xv] [(.int ix), (.ref a)])) rfl rfl (D d18_6)
  have Z2 : n0 ≤ h2.size := Nat.le_trans Z0 (Keep.of_wr W2).1
  have K2 := K0.wr W2 (Or.inl (List.mem_of_getElem? (i := 0) rfl))
  have N2 := Fr.snoc X2 NA1 g_a
  have F2 := F_a_index.same W2
  refine gb T2 m 9 #[vr a, vi ix, vi cv, .val (.long jv), .second, vi xv] [] st2 ?_
  clear st2
  refine gb T2 m 11 #[vr a, vi ix, vi cv, .val (.long jv), .second, vi xv] [(.int cv), (.ref a)] (fun u k => XS.aloadN X2.here hx rfl (D d18_9) rfl rfl (XS.iloadN X2.here hx rfl (D d18_10) rfl k)) ?_
  have f4 := (F_a_unit.other W2 (Or.inr (slot_ne (Or.inr (H 104 rfl)) (Or.inr (H 102 rfl)) (by decide) (t := .char) (t' := .int) (by decide) (by decide))))
  have f5 := (E_a.wr W2)
  obtain ⟨T3, h3, X3, e3, W3, st3⟩ := putFN X2 hx hZ hown (H 103 rfl) Via.refl e2 f4 f5 (Or.inr ⟨(H 104 rfl), rfl, hnm⟩) (H 89 rfl) (ty := .char) (v' := (.int cv)) (by decide) (own_cput hcv).1 (own_cput hcv).2 (g := (mkF m 11 #[vr a, vi ix, vi cv, .val (.long jv), .second, vi xv] [(.int cv), (.ref a)])) rfl rfl (D d18_11)
  have Z3 : n0 ≤ h3.size := Nat.le_trans Z2 (Keep.of_wr W3).1
  have K3 := K2.wr W3 (Or.inl (List.mem_of_getElem? (i := 0) rfl))
  have N3 := Fr.snoc X3 N2 g_a
  have F3 := f4.same W3
  refine gb T3 m 14 #[vr a, vi ix, vi cv, .val (.long jv), .second, vi xv] [] st3 ?_
  clear st3
  refine gb T3 m 16 #[vr a, vi ix, vi cv, .val (.long jv), .second, vi xv] [(.long jv), (.ref a)] (fun u k => XS.aloadN X3.here hx rfl (D d18_14) rfl rfl (XT.lloadN X3.here hx rfl (D d18_15) rfl k)) ?_
  have f7 := ((F_a_inEveryByte.other W2 (Or.inr (slot_ne (Or.inr (H 106 rfl)) (Or.inr (H 102 rfl)) (by decide) (t := .long) (t' := .int) (by decide) (by decide)))).other W3 (Or.inr (slot_ne (Or.inr (H 106 rfl)) (Or.inr (H 104 rfl)) (by decide) (t := .long) (t' := .char) (by decide) (by decide))))
  have f8 := (f5.wr W3)
  obtain ⟨T6, h6, X6, e6, W6, st6⟩ := putF X3 hx hZ hown (host := "") (Or.inl (H 105 rfl)) Via.refl e3 f7 f8 (Or.inr ⟨(H 106 rfl), rfl, hnm⟩) (H 89 rfl) (ty := .long) (by decide) rfl rfl (g := (mkF m 16 #[vr a, vi ix, vi cv, .val (.long jv), .second, vi xv] [(.long jv), (.ref a)])) rfl rfl (D d18_16)
  have Z6 : n0 ≤ h6.size := Nat.le_trans Z3 (Keep.of_wr W6).1
  have K6 := K3.wr W6 (Or.inl (List.mem_of_getElem? (i := 0) rfl))
  have N6 := Fr.snoc X6 N3 g_a
  have F6 := f7.same W6
  refine gb T6 m 19 #[vr a, vi ix, vi cv, .val (.long jv), .second, vi xv] [] st6 ?_
  clear st6
  refine gb T6 m 22 #[vr a, vi ix, vi cv, .val (.long jv), .second, vi xv] [(.int xv), (.ref a)] (fun u k => XS.aloadN X6.here hx rfl (D d18_19) rfl rfl (XS.iload X6.here hx rfl (D d18_20) rfl k)) ?_
  have f10 := (((F_a_openingExtra.other W2 (Or.inr (slot_ne (Or.inr (H 108 rfl)) (Or.inr (H 102 rfl)) (by decide) (t := .int) (t' := .int) (by decide) (by decide)))).other W3 (Or.inr (slot_ne (Or.inr (H 108 rfl)) (Or.inr (H 104 rfl)) (by decide) (t := .int) (t' := .char) (by decide) (by decide)))).other W6 (Or.inr (slot_ne (Or.inr (H 108 rfl)) (Or.inr (H 106 rfl)) (by decide) (t := .int) (t' := .long) (by decide) (by decide))))
  have f11 := (f8.wr W6)
  obtain ⟨T9, h9, X9, e9, W9, st9⟩ := putF X6 hx hZ hown (host := "") (Or.inl (H 107 rfl)) Via.refl e6 f10 f11 (Or.inr ⟨(H 108 rfl), rfl, hnm⟩) (H 89 rfl) (ty := .int) (by decide) rfl rfl (g := (mkF m 22 #[vr a, vi ix, vi cv, .val (.long jv), .second, vi xv] [(.int xv), (.ref a)])) rfl rfl (D d18_22)
  have Z9 : n0 ≤ h9.size := Nat.le_trans Z6 (Keep.of_wr W9).1
  have K9 := K6.wr W9 (Or.inl (List.mem_of_getElem? (i := 0) rfl))
  have N9 := Fr.snoc X9 N6 g_a
  have F9 := f10.same W9
  refine gb T9 m 25 #[vr a, vi ix, vi cv, .val (.long jv), .second, vi xv] [] st9 ?_
  clear st9
  have f12 := (f11.wr W9)
  have f13 := (((F2.other W3 (Or.inr (slot_ne (Or.inr (H 102 rfl)) (Or.inr (H 104 rfl)) (by decide) (t := .int) (t' := .char) (by decide) (by decide)))).other W6 (Or.inr (slot_ne (Or.inr (H 102 rfl)) (Or.inr (H 106 rfl)) (by decide) (t := .int) (t' := .long) (by decide) (by decide)))).other W9 (Or.inr (slot_ne (Or.inr (H 102 rfl)) (Or.inr (H 108 rfl)) (by decide) (t := .int) (t' := .int) (by decide) (by decide))))
  have f14 := ((F3.other W6 (Or.inr (slot_ne (Or.inr (H 104 rfl)) (Or.inr (H 106 rfl)) (by decide) (t := .char) (t' := .long) (by decide) (by decide)))).other W9 (Or.inr (slot_ne (Or.inr (H 104 rfl)) (Or.inr (H 108 rfl)) (by decide) (t := .char) (t' := .int) (by decide) (by decide))))
  obtain ⟨fs, hr, hrun, hended, hW, hsame⟩ := X9.leave (v := none) (fun _ => rfl)
  refine ⟨_, _, X9.returnOut hx Bd.returns (D d18_25) hr, hrun, hended, _, _, rfl, ?_, ⟨_, rfl⟩, hW, hsame.mono (by decide) (by decide)⟩
  show Q_own_anInit Z a ix cv jv xv h0 n0 _ T9.heap _
  rw [e9]
  exact ⟨rfl, N9, K9, f12, f13, f14⟩
theorem d21_0 : dc cd21 0 (.aload_n 0) 1 := by decide +kernel
theorem d21_1 : dc cd21 1 (.getfield 13) 3 := by decide +kernel
theorem d21_4 : dc cd21 4 .ireturn 1 := by decide +kernel
theorem own_ef_own_anUnit (m : MethodId) (x0 : Addr) : entryFrame m #[(.ref x0)] 1 = mkF m 0 #[.val (.ref x0)] [] := by first | (simp [entryFrame, mkF, argsToLocals, Value.category]; done) | rfl
def Q_own_anUnit (Z : State) (a : Addr) (cv : Int32) (h0 : Heap) (n0 : Nat) (v : Option Value) (h : Heap) (L : List Loc) : Prop := v = some (.int cv) ∧ Fr n0 L ∧ h = h0
theorem own_anUnit (l : Launch) (Z : State) (a0 : Array Value) (hw : ∀ d ∈ tables_1, d.before a0 Z = true) (ws : List Jvm.Cond) (a : Addr) (cv : Int32) (h0 : Heap) (n0 : Nat) (Z0 : n0 ≤ h0.size) (F_a_unit : Fld Z h0 a "backstitch/Needle$Anchor" "unit" "C" (.int cv)) (hcv : nar .char cv = cv) :
    own_Met l Z mn23 prog_9_method_7_code 1 (some .char) ws rm0 #[(.ref a)] h0 (Q_own_anUnit Z a cv h0 n0) := by
  refine own_start (plainFor_of_name own_pn6) fun p e s m below meth c s₁ Bd hx hby hml hZ hown hnm X0 e0 => ?_
  have H := @own_hw Z a0 hw
  have D := @hb _ _ hby
  have hown : s.vm.findClass "backstitch/Needle$Anchor" = some m.cls := hown
  have N0 := Fr.nil n0
  have K0 := Keep.refl h0 []
  rw [own_ef_own_anUnit m a]
  refine gb s₁ m 1 #[vr a] [(.ref a)] (fun u k => XS.aloadN X0.here hx rfl (D d21_0) rfl rfl k) ?_
  obtain ⟨T1, X1, e1, st1⟩ := getF X0 hx hZ hown (host := "") (Or.inl (H 103 rfl)) Via.refl e0 F_a_unit (g := (mkF m 1 #[vr a] [(.ref a)])) rfl rfl (D d21_1)
  refine gb T1 m 4 #[vr a] [(.int cv)] st1 ?_
  clear st1
  obtain ⟨fs, hr, hrun, hended, hW, hsame⟩ := X1.leave (v := some (.int (nar .char cv))) (fun h => by rw [Bd.returns] at h; cases h)
  refine ⟨_, _, retN X1 hx (t := .char) Bd.returns (by simp) (D d21_4) hr, hrun, hended, _, _, rfl, ?_, ⟨_, rfl⟩, hW, hsame.mono (by decide) (by decide)⟩
  show Q_own_anUnit Z a cv h0 n0 _ T1.heap _
  rw [e1]
  exact ⟨(congrArg (fun z => some (Value.int z)) (hcv)), N0, rfl⟩
theorem d45_0 : dc cd45 0 (.aload_n 0) 1 := by decide +kernel
theorem d45_1 : dc cd45 1 (.getfield 7) 3 := by decide +kernel
theorem d45_4 : dc cd45 4 .ireturn 1 := by decide +kernel
theorem own_ef_own_anIndex (m : MethodId) (x0 : Addr) : entryFrame m #[(.ref x0)] 1 = mkF m 0 #[.val (.ref x0)] [] := by first | (simp [entryFrame, mkF, argsToLocals, Value.category]; done) | rfl
def Q_own_anIndex (Z : State) (a : Addr) (ix : Int32) (h0 : Heap) (n0 : Nat) (v : Option Value) (h : Heap) (L : List Loc) : Prop := v = some (.int ix) ∧ Fr n0 L ∧ h = h0
theorem own_anIndex (l : Launch) (Z : State) (a0 : Array Value) (hw : ∀ d ∈ tables_1, d.before a0 Z = true) (ws : List Jvm.Cond) (a : Addr) (ix : Int32) (h0 : Heap) (n0 : Nat) (Z0 : n0 ≤ h0.size) (F_a_index : Fld Z h0 a "backstitch/Needle$Anchor" "index" "I" (.int ix)) :
    own_Met l Z mn24 prog_9_method_6_code 1 (some .int) ws rm0 #[(.ref a)] h0 (Q_own_anIndex Z a ix h0 n0) := by
  refine own_start (plainFor_of_name own_pn6) fun p e s m below meth c s₁ Bd hx hby hml hZ hown hnm X0 e0 => ?_
  have H := @own_hw Z a0 hw
  have D := @hb _ _ hby
  have hown : s.vm.findClass "backstitch/Needle$Anchor" = some m.cls := hown
  have N0 := Fr.nil n0
  have K0 := Keep.refl h0 []
  rw [own_ef_own_anIndex m a]
  refine gb s₁ m 1 #[vr a] [(.ref a)] (fun u k => XS.aloadN X0.here hx rfl (D d45_0) rfl rfl k) ?_
  obtain ⟨T1, X1, e1, st1⟩ := getF X0 hx hZ hown (host := "") (Or.inl (H 101 rfl)) Via.refl e0 F_a_index (g := (mkF m 1 #[vr a] [(.ref a)])) rfl rfl (D d45_1)
  refine gb T1 m 4 #[vr a] [(.int ix)] st1 ?_
  clear st1
  obtain ⟨fs, hr, hrun, hended, hW, hsame⟩ := X1.leave (v := some (.int ix)) (fun h => by rw [Bd.returns] at h; cases h)
  refine ⟨_, _, retI X1 hx Bd.returns (D d45_4) hr, hrun, hended, _, _, rfl, ?_, ⟨_, rfl⟩, hW, hsame.mono (by decide) (by decide)⟩
  show Q_own_anIndex Z a ix h0 n0 _ T1.heap _
  rw [e1]
  exact ⟨rfl, N0, rfl⟩
theorem own_pd17 : parseMethodDescriptor "(ICJI)V" = some ⟨[.int, .char, .long, .int], none⟩ := by decide +kernel
theorem d17_0 : dc cd17 0 (.aload_n 0) 1 := by decide +kernel
theorem d17_1 : dc cd17 1 (.getfield 7) 3 := by decide +kernel
theorem d17_4 : dc cd17 4 .arraylength 1 := by decide +kernel
theorem d17_5 : dc cd17 5 (.ifCond .ne 7) 3 := by decide +kernel
theorem d17_8 : dc cd17 8 (.iconst 0) 1 := by decide +kernel
theorem d17_9 : dc cd17 9 (.goto 9) 3 := by decide +kernel
theorem d17_12 : dc cd17 12 (.aload_n 0) 1 := by decide +kernel
theorem d17_13 : dc cd17 13 (.getfield 7) 3 := by decide +kernel
theorem d17_16 : dc cd17 16 (.iload_n 1) 1 := by decide +kernel
theorem d17_17 : dc cd17 17 .caload 1 := by decide +kernel
theorem d17_18 : dc cd17 18 (.istore_n 2) 1 := by decide +kernel
theorem d17_19 : dc cd17 19 (.new 217) 3 := by decide +kernel
theorem d17_22 : dc cd17 22 .dup 1 := by decide +kernel
theorem d17_23 : dc cd17 23 (.iload_n 1) 1 := by decide +kernel
theorem d17_24 : dc cd17 24 (.iload_n 2) 1 := by decide +kernel
theorem d17_25 : dc cd17 25 (.iload_n 2) 1 := by decide +kernel
theorem d17_26 : dc cd17 26 .i2l 1 := by decide +kernel
theorem d17_27 : dc cd17 27 (.ldc2_w 231) 3 := by decide +kernel
theorem d17_30 : dc cd17 30 .lmul 1 := by decide +kernel
theorem d17_31 : dc cd17 31 (.iload_n 1) 1 := by decide +kernel
theorem d17_32 : dc cd17 32 (.ifCond .ne 7) 3 := by decide +kernel
theorem d17_35 : dc cd17 35 (.iconst 0) 1 := by decide +kernel
theorem d17_36 : dc cd17 36 (.goto 4) 3 := by decide +kernel
theorem d17_39 : dc cd17 39 (.iconst 1) 1 := by decide +kernel
theorem d17_40 : dc cd17 40 (.invokespecial 233) 3 := by decide +kernel
theorem d17_43 : dc cd17 43 .areturn 1 := by decide +kernel
theorem own_ef_own_at_ (m : MethodId) (x0 : Addr) (x1 : Int32) : entryFrame m #[(.ref x0), (.int x1)] 3 = mkF m 0 #[.val (.ref x0), .val (.int x1), .unset] [] := by first | (simp [entryFrame, mkF, argsToLocals, Value.category]; done) | rfl
def Q_own_at_ (Z : State) (a : Addr) (ix : Int32) (b : Addr) (nz : Nat) (us : List Value) (kb : ClassId) (h0 : Heap) (n0 : Nat) (v : Option Value) (h : Heap) (L : List Loc) : Prop := ∃ q : Addr, ∃ cv : Int32, v = some (.ref q) ∧ Fr n0 L ∧ Keep h0 h [] ∧ n0 ≤ q ∧ h0.size ≤ q ∧ Exa Z h q "backstitch/Needle$Anchor" ∧ Fld Z h q "backstitch/Needle$Anchor" "index" "I" (.int ix) ∧ Fld Z h q "backstitch/Needle$Anchor" "unit" "C" (.int cv) ∧ own_ch cv
theorem own_at_ (l : Launch) (Z : State) (a0 : Array Value) (hw : ∀ d ∈ tables_1, d.before a0 Z = true) (ws : List Jvm.Cond) (a : Addr) (ix : Int32) (b : Addr) (nz : Nat) (us : List Value) (kb : ClassId) (h0 : Heap) (n0 : Nat) (Z0 : n0 ≤ h0.size) (E_a : Exa Z h0 a "backstitch/Needle") (F_a_units : Fld Z h0 a "backstitch/Needle" "units" "[C" (.ref b)) (V_b : Arv Z h0 b kb .char (Int32.ofNat nz) us (.int 0)) (hU : own_U nz us) (hnz : nz < 6) (hix : (Int32.ofNat nz) = (0 : Int32) ∨ (¬ ix < 0 ∧ ix < (Int32.ofNat nz))) :
    own_Met l Z mn25 prog_8_method_30_code 3 (some (.object "backstitch/Needle$Anchor")) ws rm17 #[(.ref a), (.int ix)] h0 (Q_own_at_ Z a ix b nz us kb h0 n0) := by
  refine own_start (plainFor_of_name own_pn4) fun p e s m below meth c s₁ Bd hx hby hml hZ hown hnm X0 e0 => ?_
  have H := @own_hw Z a0 hw
  have D := @hb _ _ hby
  have hown : s.vm.findClass "backstitch/Needle" = some m.cls := hown
  have N0 := Fr.nil n0
  have K0 := Keep.refl h0 []
  rw [own_ef_own_at_ m a ix]
  refine gb s₁ m 1 #[vr a, vi ix, un] [(.ref a)] (fun u k => XS.aloadN X0.here hx rfl (D d17_0) rfl rfl k) ?_
  obtain ⟨T1, X1, e1, st1⟩ := getF X0 hx hZ hown (host := "") (Or.inl (H 75 rfl)) Via.refl e0 F_a_units (g := (mkF m 1 #[vr a, vi ix, un] [(.ref a)])) rfl rfl (D d17_1)
  refine gb T1 m 4 #[vr a, vi ix, un] [(.ref b)] st1 ?_
  clear st1
  obtain ⟨cl2, Ar2, aq2, aS2, aM2, aH2, aG2⟩ := id V_b
  refine gb T1 m 5 #[vr a, vi ix, un] [(.int cl2.slots.size.toInt32)] (fun u k => X1.arraylength hx (by rw [e1]; exact Ar2.1) (State.isArrayOf_alike hZ.alike Ar2.2.1) (g := (mkF m 4 #[vr a, vi ix, un] [(.ref b)])) rfl rfl (D d17_4) _ k) ?_
  rw [len_of aS2 aM2]
  by_cases hz0 : (Int32.ofNat nz) = (0 : Int32)
  · refine gb T1 m 19 #[vr a, vi ix, vi 0] [] (fun u k => XS.ifNo X1.here hx rfl (D d17_5) rfl (XT.i0_ne_f hz0) (XT.iconstV X1.here hx rfl (0 : Int32) (D d17_8) (by decide) (XS.goto X1.here hx rfl (pc0 := 9) (pc' := 18) rfl (D d17_9) (by decide) (by decide) (XS.istoreN X1.here hx rfl (D d17_18) rfl (l' := #[vr a, vi ix, vi 0]) rfl k)))) ?_
    obtain ⟨T4, h4, X4, e4, E4, A4, D4, -, st4⟩ := newO X1 hx hZ hown (H 88 rfl) (H 89 rfl) (H 90 rfl) e1 (g := (mkF m 19 #[vr a, vi ix, vi 0] [])) rfl (D d17_19) (by decide) (by decide)
    obtain ⟨b4, g4⟩ : ∃ z, z = h0.size := ⟨_, rfl⟩
    rw [← g4] at A4 D4 st4
    have ne_a_b4 : a ≠ b4 := Nat.ne_of_lt (Nat.lt_of_lt_of_le E_a.lt (Nat.le_of_eq g4.symm))
    have ne_b_b4 : b ≠ b4 := Nat.ne_of_lt (Nat.lt_of_lt_of_le V_b.lt (Nat.le_of_eq g4.symm))
    have gb4 : n0 ≤ b4 := Nat.le_trans Z0 (Nat.le_of_eq g4.symm)
    have sz4 : h0.size ≤ b4 := Nat.le_trans K0.1 (Nat.le_of_eq g4.symm)
    have Z4 : n0 ≤ h4.size := Nat.le_trans Z0 E4.1
    have K4 := K0.ext E4
    refine gb T4 m 22 #[vr a, vi ix, vi 0] [(.ref b4)] st4 ?_
    clear st4
    refine gb T4 m 27 #[vr a, vi ix, vi 0] [(.long ((0 : Int32).toInt64)), (.int 0), (.int ix), (.ref b4), (.ref b4)] (fun u k => XS.dup X4.here hx rfl (D d17_22) rfl rfl (XS.iloadN X4.here hx rfl (D d17_23) rfl (XS.iloadN X4.here hx rfl (D d17_24) rfl (XS.iloadN X4.here hx rfl (D d17_25) rfl (XT.i2l X4.here hx rfl (D d17_26) rfl k))))) ?_
    have rw5 : ((0 : Int32).toInt64) = (0 : Int64) := by decide
    rw [rw5]
    refine gb T4 m 31 #[vr a, vi ix, vi 0] [(.long ((0 : Int64) * (72340172838076673 : Int64))), (.int 0), (.int ix), (.ref b4), (.ref b4)] (fun u k => X4.ldc2J hx hown (mvT hZ (H 91 rfl)) rfl (D d17_27) (XT.lmul X4.here hx rfl (D d17_30) rfl k)) ?_
    have sg6 : ∀ u, Steps p.tables e below (T4.setTop (mkF m 40 #[vr a, vi ix, vi 0] [(.int (if ix = (0 : Int32) then (0 : Int32) else (1 : Int32))), (.long ((0 : Int64) * (72340172838076673 : Int64))), (.int 0), (.int ix), (.ref b4), (.ref b4)])) u → Steps p.tables e below (T4.setTop (mkF m 31 #[vr a, vi ix, vi 0] [(.long ((0 : Int64) * (72340172838076673 : Int64))), (.int 0), (.int ix), (.ref b4), (.ref b4)])) u := by
      intro u k
      refine XS.iloadN X4.here hx rfl (D d17_31) rfl ?_
      show Steps p.tables e below (T4.setTop (mkF m 32 #[vr a, vi ix, vi 0] [(.int ix), (.long ((0 : Int64) * (72340172838076673 : Int64))), (.int 0), (.int ix), (.ref b4), (.ref b4)])) u
      by_cases hc7 : ix = (0 : Int32)
      · refine XS.ifNo X4.here hx rfl (D d17_32) rfl (XT.i0_ne_f hc7) ?_
        show Steps p.tables e below (T4.setTop (mkF m 35 #[vr a, vi ix, vi 0] [(.long ((0 : Int64) * (72340172838076673 : Int64))), (.int 0), (.int ix), (.ref b4), (.ref b4)])) u
        refine XT.iconstV X4.here hx rfl (0 : Int32) (D d17_35) (by decide) ?_
        show Steps p.tables e below (T4.setTop (mkF m 36 #[vr a, vi ix, vi 0] [(.int 0), (.long ((0 : Int64) * (72340172838076673 : Int64))), (.int 0), (.int ix), (.ref b4), (.ref b4)])) u
        refine XS.goto X4.here hx rfl (pc0 := 36) (pc' := 40) rfl (D d17_36) (by decide) (by decide) ?_
        show Steps p.tables e below (T4.setTop (mkF m 40 #[vr a, vi ix, vi 0] [(.int 0), (.long ((0 : Int64) * (72340172838076673 : Int64))), (.int 0), (.int ix), (.ref b4), (.ref b4)])) u
        try simp only [if_pos hc7] at k
        exact k
      · refine XS.ifYes X4.here hx rfl (pc0 := 32) (pc' := 39) rfl (D d17_32) rfl (XT.i0_ne_t hc7) (by decide) (by decide) ?_
        show Steps p.tables e below (T4.setTop (mkF m 39 #[vr a, vi ix, vi 0] [(.long ((0 : Int64) * (72340172838076673 : Int64))), (.int 0), (.int ix), (.ref b4), (.ref b4)])) u
        refine XT.iconstV X4.here hx rfl (1 : Int32) (D d17_39) (by decide) ?_
        show Steps p.tables e below (T4.setTop (mkF m 40 #[vr a, vi ix, vi 0] [(.int 1), (.long ((0 : Int64) * (72340172838076673 : Int64))), (.int 0), (.int ix), (.ref b4), (.ref b4)])) u
        try simp only [if_neg hc7] at k
        exact k
    refine gb T4 m 40 #[vr a, vi ix, vi 0] [(.int (if ix = (0 : Int32) then (0 : Int32) else (1 : Int32))), (.long ((0 : Int64) * (72340172838076673 : Int64))), (.int 0), (.int ix), (.ref b4), (.ref b4)] sg6 ?_
    obtain ⟨_, _, ⟨T8, L8, k8, n8⟩, -, X8, ⟨Lc8, hQ8, l8, y8, z8⟩, st8⟩ := X4.specialBack hx (y := mn22) rfl hown (mvT hZ (H 92 rfl)) (mvT hZ (H 93 rfl)) (mvT hZ (H 94 rfl)) (by decide) (backOf (W := 1) (own_anInit l Z a0 hw [] b4 ix (0 : Int32) ((0 : Int64) * (72340172838076673 : Int64)) (if ix = (0 : Int32) then (0 : Int32) else (1 : Int32)) h4 n0 Z4 A4 (D4 (Or.inr (H 102 rfl)) (ty := .int) (by decide)) (D4 (Or.inr (H 104 rfl)) (ty := .char) (by decide)) (D4 (Or.inr (H 106 rfl)) (ty := .long) (by decide)) (D4 (Or.inr (H 108 rfl)) (ty := .int) (by decide)) gb4 ((by decide) : own_ch (0 : Int32)).2) hZ (H 94 rfl) (H 90 rfl) (by decide) (by decide)) (g := (mkF m 40 #[vr a, vi ix, vi 0] [(.int (if ix = (0 : Int32) then (0 : Int32) else (1 : Int32))), (.long ((0 : Int64) * (72340172838076673 : Int64))), (.int 0), (.int ix), (.ref b4), (.ref b4)])) rfl (by rw [hml]; rfl) (Steps.refl _) (a := b4) (argsL := [(.int ix), (.int 0), (.long ((0 : Int64) * (72340172838076673 : Int64))), (.int (if ix = (0 : Int32) then (0 : Int32) else (1 : Int32)))]) (rest := [(.ref b4)]) (lenOf own_pd17 rfl) rfl (own_w0 rfl) (D d17_40) (fun _ _ => ⟨rfl, e4, (by decide : 1 + 0 ≤ _), (by decide : 4 + 0 ≤ _)⟩)
    dsimp only [Pt.U, Pt.locs, Pt.cells, Pt.slots] at X8 l8 y8 z8 st8 hQ8
    subst l8 y8 z8
    obtain ⟨rfl, N8, Kc8, P8_0, P8_1, P8_2⟩ := hQ8
    have NA8 := Fr.app N0 N8
    have Z8 : n0 ≤ T8.heap.size := Nat.le_trans Z4 Kc8.1
    have K8 := K4.trans Kc8 (allS (Or.inr sz4) all0)
    refine gb T8 m 43 #[vr a, vi ix, vi 0] [(.ref b4)] (fun u k => st8.trans k) ?_
    clear st8
    obtain ⟨fs, hr, hrun, hended, hW, hsame⟩ := X8.leave (v := some (.ref b4)) (fun h => by rw [Bd.returns] at h; cases h)
    refine ⟨_, _, retOut X8 hx (t := (.object "backstitch/Needle$Anchor")) (i := .areturn) Bd.returns rfl (Or.inr (Or.inr (Or.inr (Or.inr ⟨rfl, rfl, rfl⟩)))) (D d17_43) hr, hrun, hended, _, _, rfl, ?_, ⟨_, rfl⟩, hW, hsame.mono (by decide) (by decide)⟩
    show Q_own_at_ Z a ix b nz us kb h0 n0 _ T8.heap _
    exact ⟨b4, (0 : Int32), rfl, NA8, K8, gb4, sz4, P8_0, P8_1, P8_2, (by decide)⟩
  · refine gb T1 m 12 #[vr a, vi ix, un] [] (fun u k => XS.ifYes X1.here hx rfl (pc0 := 5) (pc' := 12) rfl (D d17_5) rfl (XT.i0_ne_t hz0) (by decide) (by decide) k) ?_
    have hi := hix.resolve_left hz0
    obtain ⟨cw, hg, hcw⟩ := hU.2 ix.toNatClampNeg (own_of hi.1 hi.2 (by omega))
    refine gb T1 m 13 #[vr a, vi ix, un] [(.ref a)] (fun u k => XS.aloadN X1.here hx rfl (D d17_12) rfl rfl k) ?_
    obtain ⟨T9, X9, e9, st9⟩ := getF X1 hx hZ hown (host := "") (Or.inl (H 75 rfl)) Via.refl e1 F_a_units (g := (mkF m 13 #[vr a, vi ix, un] [(.ref a)])) rfl rfl (D d17_13)
    refine gb T9 m 16 #[vr a, vi ix, un] [(.ref b)] st9 ?_
    clear st9
    refine gb T9 m 17 #[vr a, vi ix, un] [(.int ix), (.ref b)] (fun u k => XS.iloadN X9.here hx rfl (D d17_16) rfl k) ?_
    obtain ⟨cl10, Ar10, aq10, aS10, aM10, aH10, aG10⟩ := id V_b
    refine gb T9 m 19 #[vr a, vi ix, vi cw] [] (fun u k => X9.caload hx (j := ix) (v := (.int cw)) (by rw [e9]; exact Ar10.1) (State.isArrayOf_alike hZ.alike Ar10.2.1) Ar10.2.2 (inb_of aS10 hi) (Has.at aH10 (inb_of aS10 hi) hg) (g := (mkF m 17 #[vr a, vi ix, un] [(.int ix), (.ref b)])) rfl rfl (D d17_17) _ (XS.istoreN X9.here hx rfl (D d17_18) rfl (l' := #[vr a, vi ix, vi cw]) rfl k)) ?_
    obtain ⟨T11, h11, X11, e11, E11, A11, D11, -, st11⟩ := newO X9 hx hZ hown (H 88 rfl) (H 89 rfl) (H 90 rfl) e9 (g := (mkF m 19 #[vr a, vi ix, vi cw] [])) rfl (D d17_19) (by decide) (by decide)
    obtain ⟨b11, g11⟩ : ∃ z, z = h0.size := ⟨_, rfl⟩
    rw [← g11] at A11 D11 st11
    have ne_a_b11 : a ≠ b11 := Nat.ne_of_lt (Nat.lt_of_lt_of_le E_a.lt (Nat.le_of_eq g11.symm))
    have ne_b_b11 : b ≠ b11 := Nat.ne_of_lt (Nat.lt_of_lt_of_le V_b.lt (Nat.le_of_eq g11.symm))
    have gb11 : n0 ≤ b11 := Nat.le_trans Z0 (Nat.le_of_eq g11.symm)
    have sz11 : h0.size ≤ b11 := Nat.le_trans K0.1 (Nat.le_of_eq g11.symm)
    have Z11 : n0 ≤ h11.size := Nat.le_trans Z0 E11.1
    have K11 := K0.ext E11
    refine gb T11 m 22 #[vr a, vi ix, vi cw] [(.ref b11)] st11 ?_
    clear st11
    refine gb T11 m 31 #[vr a, vi ix, vi cw] [(.long (cw.toInt64 * (72340172838076673 : Int64))), (.int cw), (.int ix), (.ref b11), (.ref b11)] (fun u k => XS.dup X11.here hx rfl (D d17_22) rfl rfl (XS.iloadN X11.here hx rfl (D d17_23) rfl (XS.iloadN X11.here hx rfl (D d17_24) rfl (XS.iloadN X11.here hx rfl (D d17_25) rfl (XT.i2l X11.here hx rfl (D d17_26) rfl (X11.ldc2J hx hown (mvT hZ (H 91 rfl)) rfl (D d17_27) (XT.lmul X11.here hx rfl (D d17_30) rfl k))))))) ?_
    have sg12 : ∀ u, Steps p.tables e below (T11.setTop (mkF m 40 #[vr a, vi ix, vi cw] [(.int (if ix = (0 : Int32) then (0 : Int32) else (1 : Int32))), (.long (cw.toInt64 * (72340172838076673 : Int64))), (.int cw), (.int ix), (.ref b11), (.ref b11)])) u → Steps p.tables e below (T11.setTop (mkF m 31 #[vr a, vi ix, vi cw] [(.long (cw.toInt64 * (72340172838076673 : Int64))), (.int cw), (.int ix), (.ref b11), (.ref b11)])) u := by
      intro u k
      refine XS.iloadN X11.here hx rfl (D d17_31) rfl ?_
      show Steps p.tables e below (T11.setTop (mkF m 32 #[vr a, vi ix, vi cw] [(.int ix), (.long (cw.toInt64 * (72340172838076673 : Int64))), (.int cw), (.int ix), (.ref b11), (.ref b11)])) u
      by_cases hc13 : ix = (0 : Int32)
      · refine XS.ifNo X11.here hx rfl (D d17_32) rfl (XT.i0_ne_f hc13) ?_
        show Steps p.tables e below (T11.setTop (mkF m 35 #[vr a, vi ix, vi cw] [(.long (cw.toInt64 * (72340172838076673 : Int64))), (.int cw), (.int ix), (.ref b11), (.ref b11)])) u
        refine XT.iconstV X11.here hx rfl (0 : Int32) (D d17_35) (by decide) ?_
        show Steps p.tables e below (T11.setTop (mkF m 36 #[vr a, vi ix, vi cw] [(.int 0), (.long (cw.toInt64 * (72340172838076673 : Int64))), (.int cw), (.int ix), (.ref b11), (.ref b11)])) u
        refine XS.goto X11.here hx rfl (pc0 := 36) (pc' := 40) rfl (D d17_36) (by decide) (by decide) ?_
        show Steps p.tables e below (T11.setTop (mkF m 40 #[vr a, vi ix, vi cw] [(.int 0), (.long (cw.toInt64 * (72340172838076673 : Int64))), (.int cw), (.int ix), (.ref b11), (.ref b11)])) u
        try simp only [if_pos hc13] at k
        exact k
      · refine XS.ifYes X11.here hx rfl (pc0 := 32) (pc' := 39) rfl (D d17_32) rfl (XT.i0_ne_t hc13) (by decide) (by decide) ?_
        show Steps p.tables e below (T11.setTop (mkF m 39 #[vr a, vi ix, vi cw] [(.long (cw.toInt64 * (72340172838076673 : Int64))), (.int cw), (.int ix), (.ref b11), (.ref b11)])) u
        refine XT.iconstV X11.here hx rfl (1 : Int32) (D d17_39) (by decide) ?_
        show Steps p.tables e below (T11.setTop (mkF m 40 #[vr a, vi ix, vi cw] [(.int 1), (.long (cw.toInt64 * (72340172838076673 : Int64))), (.int cw), (.int ix), (.ref b11), (.ref b11)])) u
        try simp only [if_neg hc13] at k
        exact k
    refine gb T11 m 40 #[vr a, vi ix, vi cw] [(.int (if ix = (0 : Int32) then (0 : Int32) else (1 : Int32))), (.long (cw.toInt64 * (72340172838076673 : Int64))), (.int cw), (.int ix), (.ref b11), (.ref b11)] sg12 ?_
    obtain ⟨_, _, ⟨T14, L14, k14, n14⟩, -, X14, ⟨Lc14, hQ14, l14, y14, z14⟩, st14⟩ := X11.specialBack hx (y := mn22) rfl hown (mvT hZ (H 92 rfl)) (mvT hZ (H 93 rfl)) (mvT hZ (H 94 rfl)) (by decide) (backOf (W := 1) (own_anInit l Z a0 hw [] b11 ix cw (cw.toInt64 * (72340172838076673 : Int64)) (if ix = (0 : Int32) then (0 : Int32) else (1 : Int32)) h11 n0 Z11 A11 (D11 (Or.inr (H 102 rfl)) (ty := .int) (by decide)) (D11 (Or.inr (H 104 rfl)) (ty := .char) (by decide)) (D11 (Or.inr (H 106 rfl)) (ty := .long) (by decide)) (D11 (Or.inr (H 108 rfl)) (ty := .int) (by decide)) gb11 (hcw : own_ch cw).2) hZ (H 94 rfl) (H 90 rfl) (by decide) (by decide)) (g := (mkF m 40 #[vr a, vi ix, vi cw] [(.int (if ix = (0 : Int32) then (0 : Int32) else (1 : Int32))), (.long (cw.toInt64 * (72340172838076673 : Int64))), (.int cw), (.int ix), (.ref b11), (.ref b11)])) rfl (by rw [hml]; rfl) (Steps.refl _) (a := b11) (argsL := [(.int ix), (.int cw), (.long (cw.toInt64 * (72340172838076673 : Int64))), (.int (if ix = (0 : Int32) then (0 : Int32) else (1 : Int32)))]) (rest := [(.ref b11)]) (lenOf own_pd17 rfl) rfl (own_w0 rfl) (D d17_40) (fun _ _ => ⟨rfl, e11, (by decide : 1 + 0 ≤ _), (by decide : 4 + 0 ≤ _)⟩)
    dsimp only [Pt.U, Pt.locs, Pt.cells, Pt.slots] at X14 l14 y14 z14 st14 hQ14
    subst l14 y14 z14
    obtain ⟨rfl, N14, Kc14, P14_0, P14_1, P14_2⟩ := hQ14
    have NA14 := Fr.app N0 N14
    have Z14 : n0 ≤ T14.heap.size := Nat.le_trans Z11 Kc14.1
    have K14 := K11.trans Kc14 (allS (Or.inr sz11) all0)
    refine gb T14 m 43 #[vr a, vi ix, vi cw] [(.ref b11)] (fun u k => st14.trans k) ?_
    clear st14
    obtain ⟨fs, hr, hrun, hended, hW, hsame⟩ := X14.leave (v := some (.ref b11)) (fun h => by rw [Bd.returns] at h; cases h)
    refine ⟨_, _, retOut X14 hx (t := (.object "backstitch/Needle$Anchor")) (i := .areturn) Bd.returns rfl (Or.inr (Or.inr (Or.inr (Or.inr ⟨rfl, rfl, rfl⟩)))) (D d17_43) hr, hrun, hended, _, _, rfl, ?_, ⟨_, rfl⟩, hW, hsame.mono (by decide) (by decide)⟩
    show Q_own_at_ Z a ix b nz us kb h0 n0 _ T14.heap _
    exact ⟨b11, cw, rfl, NA14, K14, gb11, sz11, P14_0, P14_1, P14_2, hcw⟩
def F_own_min (p0 : Int32) (p1 : Int32) : Int32 := (if p1 < p0 then p1 else p0)
theorem d22_0 : dc cd22 0 (.iload_n 0) 1 := by decide +kernel
theorem d22_1 : dc cd22 1 (.iload_n 1) 1 := by decide +kernel
theorem d22_2 : dc cd22 2 (.if_icmp .gt 7) 3 := by decide +kernel
theorem d22_5 : dc cd22 5 (.iload_n 0) 1 := by decide +kernel
theorem d22_6 : dc cd22 6 (.goto 4) 3 := by decide +kernel
theorem d22_9 : dc cd22 9 (.iload_n 1) 1 := by decide +kernel
theorem d22_10 : dc cd22 10 .ireturn 1 := by decide +kernel
theorem own_ef_own_min (m : MethodId) (x0 : Int32) (x1 : Int32) : entryFrame m #[(.int x0), (.int x1)] 2 = mkF m 0 #[.val (.int x0), .val (.int x1)] [] := by first | (simp [entryFrame, mkF, argsToLocals, Value.category]; done) | rfl
def Q_own_min (Z : State) (p0 : Int32) (p1 : Int32) (h0 : Heap) (n0 : Nat) (v : Option Value) (h : Heap) (L : List Loc) : Prop := v = some (.int (F_own_min p0 p1)) ∧ Fr n0 L ∧ h = h0
theorem own_min (l : Launch) (Z : State) (a0 : Array Value) (hw : ∀ d ∈ tables_1, d.before a0 Z = true) (ws : List Jvm.Cond) (p0 : Int32) (p1 : Int32) (h0 : Heap) (n0 : Nat) (Z0 : n0 ≤ h0.size) :
    own_Met l Z mn26 jdk_29_method_69_code 2 (some .int) ws rm0 #[(.int p0), (.int p1)] h0 (Q_own_min Z p0 p1 h0 n0) := by
  refine own_start (Jvm.Free.JP.mathPlain rfl (by decide +kernel)) fun p e s m below meth c s₁ Bd hx hby hml hZ hown hnm X0 e0 => ?_
  have H := @own_hw Z a0 hw
  have D := @hb _ _ hby
  have hown : s.vm.findClass "java/lang/Math" = some m.cls := hown
  have N0 := Fr.nil n0
  have K0 := Keep.refl h0 []
  rw [own_ef_own_min m p0 p1]
  refine gb s₁ m 2 #[vi p0, vi p1] [(.int p1), (.int p0)] (fun u k => XS.iloadN X0.here hx rfl (D d22_0) rfl (XS.iloadN X0.here hx rfl (D d22_1) rfl k)) ?_
  by_cases hc1 : p1 < p0
  · refine gb s₁ m 10 #[vi p0, vi p1] [(.int p1)] (fun u k => XS.icmpYes X0.here hx rfl (pc0 := 2) (pc' := 9) rfl (D d22_2) rfl (XT.ii_gt_t hc1) (by decide) (by decide) (XS.iloadN X0.here hx rfl (D d22_9) rfl k)) ?_
    obtain ⟨fs, hr, hrun, hended, hW, hsame⟩ := X0.leave (v := some (.int p1)) (fun h => by rw [Bd.returns] at h; cases h)
    refine ⟨_, _, retI X0 hx Bd.returns (D d22_10) hr, hrun, hended, _, _, rfl, ?_, ⟨_, rfl⟩, hW, hsame.mono (by decide) (by decide)⟩
    show Q_own_min Z p0 p1 h0 n0 _ s₁.heap _
    rw [e0]
    exact ⟨by simp only [F_own_min, if_pos hc1], N0, rfl⟩
  · refine gb s₁ m 10 #[vi p0, vi p1] [(.int p0)] (fun u k => XS.icmpNo X0.here hx rfl (D d22_2) rfl (XT.ii_gt_f hc1) (XS.iloadN X0.here hx rfl (D d22_5) rfl (XS.goto X0.here hx rfl (pc0 := 6) (pc' := 10) rfl (D d22_6) (by decide) (by decide) k))) ?_
    obtain ⟨fs, hr, hrun, hended, hW, hsame⟩ := X0.leave (v := some (.int p0)) (fun h => by rw [Bd.returns] at h; cases h)
    refine ⟨_, _, retI X0 hx Bd.returns (D d22_10) hr, hrun, hended, _, _, rfl, ?_, ⟨_, rfl⟩, hW, hsame.mono (by decide) (by decide)⟩
    show Q_own_min Z p0 p1 h0 n0 _ s₁.heap _
    rw [e0]
    exact ⟨by simp only [F_own_min, if_neg hc1], N0, rfl⟩
theorem own_min_a {k : Nat} (h : k < 6) : F_own_min (Int32.ofNat k) (65536 : Int32) = Int32.ofNat k := by
  have q : ∀ k : Fin 6, F_own_min (Int32.ofNat k.val) (65536 : Int32) = Int32.ofNat k.val := by decide +kernel
  exact q ⟨k, h⟩
theorem own_min_b {k : Nat} (h : k < 6) : F_own_min (Int32.ofNat k) (65 : Int32) = Int32.ofNat k := by
  have q : ∀ k : Fin 6, F_own_min (Int32.ofNat k.val) (65 : Int32) = Int32.ofNat k.val := by decide +kernel
  exact q ⟨k, h⟩
theorem own_pd18 : parseMethodDescriptor "()C" = some ⟨[], some .char⟩ := by decide +kernel
theorem own_pd19 : parseMethodDescriptor "(C)I" = some ⟨[.char], some .int⟩ := by decide +kernel
theorem own_pd20 : parseMethodDescriptor "(II)I" = some ⟨[.int, .int], some .int⟩ := by decide +kernel
theorem own_pd21 : parseMethodDescriptor "()I" = some ⟨[], some .int⟩ := by decide +kernel
theorem own_pd22 : parseMethodDescriptor "(I)Lbackstitch/Needle$Anchor;" = some ⟨[.int], some (.object "backstitch/Needle$Anchor")⟩ := by decide +kernel
theorem d20_0 : dc cd20 0 (.aload_n 0) 1 := by decide +kernel
theorem d20_1 : dc cd20 1 (.getfield 25) 3 := by decide +kernel
theorem d20_4 : dc cd20 4 (.invokevirtual 216) 3 := by decide +kernel
theorem d20_7 : dc cd20 7 (.invokestatic 17) 3 := by decide +kernel
theorem d20_10 : dc cd20 10 (.getstatic 222) 3 := by decide +kernel
theorem d20_13 : dc cd20 13 (.if_icmp .eq 8) 3 := by decide +kernel
theorem d20_16 : dc cd20 16 (.iconst 0) 1 := by decide +kernel
theorem d20_17 : dc cd20 17 (.anewarray 217) 3 := by decide +kernel
theorem d20_20 : dc cd20 20 .areturn 1 := by decide +kernel
theorem d20_21 : dc cd20 21 (.aload_n 0) 1 := by decide +kernel
theorem d20_22 : dc cd20 22 (.getfield 13) 3 := by decide +kernel
theorem d20_25 : dc cd20 25 (.ifCond .eq 9) 3 := by decide +kernel
theorem d20_34 : dc cd20 34 (.ldc 227) 2 := by decide +kernel
theorem d20_36 : dc cd20 36 (.bipush 64) 2 := by decide +kernel
theorem d20_38 : dc cd20 38 .idiv 1 := by decide +kernel
theorem d20_39 : dc cd20 39 (.newarray .long) 2 := by decide +kernel
theorem d20_41 : dc cd20 41 (.astore_n 1) 1 := by decide +kernel
theorem d20_42 : dc cd20 42 (.aload_n 0) 1 := by decide +kernel
theorem d20_43 : dc cd20 43 (.getfield 7) 3 := by decide +kernel
theorem d20_46 : dc cd20 46 .arraylength 1 := by decide +kernel
theorem d20_47 : dc cd20 47 (.aload_n 1) 1 := by decide +kernel
theorem d20_48 : dc cd20 48 .arraylength 1 := by decide +kernel
theorem d20_49 : dc cd20 49 (.bipush 64) 2 := by decide +kernel
theorem d20_51 : dc cd20 51 .imul 1 := by decide +kernel
theorem d20_52 : dc cd20 52 (.invokestatic 39) 3 := by decide +kernel
theorem d20_55 : dc cd20 55 (.newarray .int) 2 := by decide +kernel
theorem d20_57 : dc cd20 57 (.astore_n 2) 1 := by decide +kernel
theorem d20_58 : dc cd20 58 (.aload_n 2) 1 := by decide +kernel
theorem d20_59 : dc cd20 59 .arraylength 1 := by decide +kernel
theorem d20_60 : dc cd20 60 (.newarray .int) 2 := by decide +kernel
theorem d20_62 : dc cd20 62 (.astore_n 3) 1 := by decide +kernel
theorem d20_63 : dc cd20 63 (.iconst 0) 1 := by decide +kernel
theorem d20_64 : dc cd20 64 (.istore 4) 2 := by decide +kernel
theorem d20_66 : dc cd20 66 (.iconst 0) 1 := by decide +kernel
theorem d20_67 : dc cd20 67 (.istore 5) 2 := by decide +kernel
theorem d20_69 : dc cd20 69 (.iconst 0) 1 := by decide +kernel
theorem d20_70 : dc cd20 70 (.istore 6) 2 := by decide +kernel
theorem d20_72 : dc cd20 72 (.iload 6) 2 := by decide +kernel
theorem d20_74 : dc cd20 74 (.aload_n 0) 1 := by decide +kernel
theorem d20_75 : dc cd20 75 (.getfield 7) 3 := by decide +kernel
theorem d20_78 : dc cd20 78 .arraylength 1 := by decide +kernel
theorem d20_79 : dc cd20 79 (.if_icmp .ge 87) 3 := by decide +kernel
theorem d20_82 : dc cd20 82 (.aload_n 0) 1 := by decide +kernel
theorem d20_83 : dc cd20 83 (.getfield 7) 3 := by decide +kernel
theorem d20_86 : dc cd20 86 (.iload 6) 2 := by decide +kernel
theorem d20_88 : dc cd20 88 .caload 1 := by decide +kernel
theorem d20_89 : dc cd20 89 (.bipush 6) 2 := by decide +kernel
theorem d20_91 : dc cd20 91 .iushr 1 := by decide +kernel
theorem d20_92 : dc cd20 92 (.istore 7) 2 := by decide +kernel
theorem d20_94 : dc cd20 94 (.lconst 1) 1 := by decide +kernel
theorem d20_95 : dc cd20 95 (.aload_n 0) 1 := by decide +kernel
theorem d20_96 : dc cd20 96 (.getfield 7) 3 := by decide +kernel
theorem d20_99 : dc cd20 99 (.iload 6) 2 := by decide +kernel
theorem d20_101 : dc cd20 101 .caload 1 := by decide +kernel
theorem d20_102 : dc cd20 102 .lshl 1 := by decide +kernel
theorem d20_103 : dc cd20 103 (.lstore 8) 2 := by decide +kernel
theorem d20_105 : dc cd20 105 (.aload_n 1) 1 := by decide +kernel
theorem d20_106 : dc cd20 106 (.iload 7) 2 := by decide +kernel
theorem d20_108 : dc cd20 108 .laload 1 := by decide +kernel
theorem d20_109 : dc cd20 109 (.lload 8) 2 := by decide +kernel
theorem d20_111 : dc cd20 111 .land 1 := by decide +kernel
theorem d20_112 : dc cd20 112 (.lconst 0) 1 := by decide +kernel
theorem d20_113 : dc cd20 113 .lcmp 1 := by decide +kernel
theorem d20_114 : dc cd20 114 (.ifCond .ne 46) 3 := by decide +kernel
theorem d20_117 : dc cd20 117 (.aload_n 1) 1 := by decide +kernel
theorem d20_118 : dc cd20 118 (.iload 7) 2 := by decide +kernel
theorem d20_120 : dc cd20 120 .dup2 1 := by decide +kernel
theorem d20_121 : dc cd20 121 .laload 1 := by decide +kernel
theorem d20_122 : dc cd20 122 (.lload 8) 2 := by decide +kernel
theorem d20_124 : dc cd20 124 .lor 1 := by decide +kernel
theorem d20_125 : dc cd20 125 .lastore 1 := by decide +kernel
theorem d20_126 : dc cd20 126 (.aload_n 2) 1 := by decide +kernel
theorem d20_127 : dc cd20 127 (.iload 5) 2 := by decide +kernel
theorem d20_129 : dc cd20 129 (.iload 6) 2 := by decide +kernel
theorem d20_131 : dc cd20 131 .iastore 1 := by decide +kernel
theorem d20_132 : dc cd20 132 (.aload_n 3) 1 := by decide +kernel
theorem d20_133 : dc cd20 133 (.iload 5) 2 := by decide +kernel
theorem d20_135 : dc cd20 135 (.aload_n 0) 1 := by decide +kernel
theorem d20_136 : dc cd20 136 (.getfield 7) 3 := by decide +kernel
theorem d20_139 : dc cd20 139 (.iload 6) 2 := by decide +kernel
theorem d20_141 : dc cd20 141 .caload 1 := by decide +kernel
theorem d20_142 : dc cd20 142 (.invokestatic 17) 3 := by decide +kernel
theorem d20_145 : dc cd20 145 .iastore 1 := by decide +kernel
theorem d20_146 : dc cd20 146 (.iload 4) 2 := by decide +kernel
theorem d20_148 : dc cd20 148 (.iconst 1) 1 := by decide +kernel
theorem d20_149 : dc cd20 149 (.aload_n 3) 1 := by decide +kernel
theorem d20_150 : dc cd20 150 (.iload 5) 2 := by decide +kernel
theorem d20_152 : dc cd20 152 .iaload 1 := by decide +kernel
theorem d20_153 : dc cd20 153 .ishl 1 := by decide +kernel
theorem d20_154 : dc cd20 154 .ior 1 := by decide +kernel
theorem d20_155 : dc cd20 155 (.istore 4) 2 := by decide +kernel
theorem d20_157 : dc cd20 157 (.iinc 5 1) 3 := by decide +kernel
theorem d20_160 : dc cd20 160 (.iinc 6 1) 3 := by decide +kernel
theorem d20_163 : dc cd20 163 (.goto (-91)) 3 := by decide +kernel
theorem d20_166 : dc cd20 166 (.iload 5) 2 := by decide +kernel
theorem d20_168 : dc cd20 168 (.iconst 2) 1 := by decide +kernel
theorem d20_169 : dc cd20 169 (.if_icmp .ge 8) 3 := by decide +kernel
theorem d20_172 : dc cd20 172 (.iconst 0) 1 := by decide +kernel
theorem d20_173 : dc cd20 173 (.anewarray 217) 3 := by decide +kernel
theorem d20_176 : dc cd20 176 .areturn 1 := by decide +kernel
theorem d20_177 : dc cd20 177 (.iload 5) 2 := by decide +kernel
theorem d20_179 : dc cd20 179 (.bipush 65) 2 := by decide +kernel
theorem d20_181 : dc cd20 181 (.invokestatic 39) 3 := by decide +kernel
theorem d20_184 : dc cd20 184 (.anewarray 217) 3 := by decide +kernel
theorem d20_187 : dc cd20 187 (.astore 6) 2 := by decide +kernel
theorem d20_189 : dc cd20 189 (.iconst 0) 1 := by decide +kernel
theorem d20_190 : dc cd20 190 (.istore 7) 2 := by decide +kernel
theorem d20_192 : dc cd20 192 (.getstatic 222) 3 := by decide +kernel
theorem d20_195 : dc cd20 195 (.istore 8) 2 := by decide +kernel
theorem d20_197 : dc cd20 197 (.iload 7) 2 := by decide +kernel
theorem d20_199 : dc cd20 199 (.aload 6) 2 := by decide +kernel
theorem d20_201 : dc cd20 201 .arraylength 1 := by decide +kernel
theorem d20_202 : dc cd20 202 (.if_icmp .ge 92) 3 := by decide +kernel
theorem d20_205 : dc cd20 205 (.iload 4) 2 := by decide +kernel
theorem d20_207 : dc cd20 207 (.iconst 1) 1 := by decide +kernel
theorem d20_208 : dc cd20 208 (.iload 8) 2 := by decide +kernel
theorem d20_210 : dc cd20 210 .ishl 1 := by decide +kernel
theorem d20_211 : dc cd20 211 .iand 1 := by decide +kernel
theorem d20_212 : dc cd20 212 (.ifCond .ne 6) 3 := by decide +kernel
theorem d20_215 : dc cd20 215 (.goto 73) 3 := by decide +kernel
theorem d20_218 : dc cd20 218 (.iconst 0) 1 := by decide +kernel
theorem d20_219 : dc cd20 219 (.istore 9) 2 := by decide +kernel
theorem d20_221 : dc cd20 221 (.iload 9) 2 := by decide +kernel
theorem d20_223 : dc cd20 223 (.iload 5) 2 := by decide +kernel
theorem d20_225 : dc cd20 225 (.if_icmp .ge 63) 3 := by decide +kernel
theorem d20_228 : dc cd20 228 (.iload 7) 2 := by decide +kernel
theorem d20_230 : dc cd20 230 (.aload 6) 2 := by decide +kernel
theorem d20_232 : dc cd20 232 .arraylength 1 := by decide +kernel
theorem d20_233 : dc cd20 233 (.if_icmp .ge 55) 3 := by decide +kernel
theorem d20_236 : dc cd20 236 (.aload_n 3) 1 := by decide +kernel
theorem d20_237 : dc cd20 237 (.iload 9) 2 := by decide +kernel
theorem d20_239 : dc cd20 239 .iaload 1 := by decide +kernel
theorem d20_240 : dc cd20 240 (.iload 8) 2 := by decide +kernel
theorem d20_242 : dc cd20 242 (.if_icmp .ne 40) 3 := by decide +kernel
theorem d20_245 : dc cd20 245 (.aload 6) 2 := by decide +kernel
theorem d20_247 : dc cd20 247 (.iload 7) 2 := by decide +kernel
theorem d20_249 : dc cd20 249 (.iinc 7 1) 3 := by decide +kernel
theorem d20_252 : dc cd20 252 (.aload_n 2) 1 := by decide +kernel
theorem d20_253 : dc cd20 253 (.iload 9) 2 := by decide +kernel
theorem d20_255 : dc cd20 255 .iaload 1 := by decide +kernel
theorem d20_256 : dc cd20 256 (.aload_n 0) 1 := by decide +kernel
theorem d20_257 : dc cd20 257 (.getfield 25) 3 := by decide +kernel
theorem d20_260 : dc cd20 260 (.invokevirtual 228) 3 := by decide +kernel
theorem d20_263 : dc cd20 263 (.if_icmp .ne 10) 3 := by decide +kernel
theorem d20_266 : dc cd20 266 (.aload_n 0) 1 := by decide +kernel
theorem d20_267 : dc cd20 267 (.getfield 25) 3 := by decide +kernel
theorem d20_270 : dc cd20 270 (.goto 11) 3 := by decide +kernel
theorem d20_273 : dc cd20 273 (.aload_n 0) 1 := by decide +kernel
theorem d20_274 : dc cd20 274 (.aload_n 2) 1 := by decide +kernel
theorem d20_275 : dc cd20 275 (.iload 9) 2 := by decide +kernel
theorem d20_277 : dc cd20 277 .iaload 1 := by decide +kernel
theorem d20_278 : dc cd20 278 (.invokevirtual 21) 3 := by decide +kernel
theorem d20_281 : dc cd20 281 .aastore 1 := by decide +kernel
theorem d20_282 : dc cd20 282 (.iinc 9 1) 3 := by decide +kernel
theorem d20_285 : dc cd20 285 (.goto (-64)) 3 := by decide +kernel
theorem d20_288 : dc cd20 288 (.iinc 8 (-1)) 3 := by decide +kernel
theorem d20_291 : dc cd20 291 (.goto (-94)) 3 := by decide +kernel
theorem d20_294 : dc cd20 294 (.aload 6) 2 := by decide +kernel
theorem d20_296 : dc cd20 296 .areturn 1 := by decide +kernel
theorem own_ef_own_lc (m : MethodId) (x0 : Addr) : entryFrame m #[(.ref x0)] 10 = mkF m 0 #[.val (.ref x0), .unset, .unset, .unset, .unset, .unset, .unset, .unset, .unset, .unset] [] := by first | (simp [entryFrame, mkF, argsToLocals, Value.category]; done) | rfl
def Q_own_lc (Z : State) (a : Addr) (b : Addr) (q : Addr) (cv : Int32) (ix : Int32) (nz : Nat) (us : List Value) (kb : ClassId) (rA : Addr) (kA : ClassId) (ra : List Value) (h0 : Heap) (n0 : Nat) (v : Option Value) (h : Heap) (L : List Loc) : Prop := ∃ r : Addr, v = some (.ref r) ∧ Fr n0 L ∧ Keep h0 h [] ∧ n0 ≤ r ∧ h0.size ≤ r
theorem own_lc (l : Launch) (Z : State) (a0 : Array Value) (hw : ∀ d ∈ tables_1, d.before a0 Z = true) (ws : List Jvm.Cond) (a : Addr) (b : Addr) (q : Addr) (cv : Int32) (ix : Int32) (nz : Nat) (us : List Value) (kb : ClassId) (rA : Addr) (kA : ClassId) (ra : List Value) (h0 : Heap) (n0 : Nat) (Z0 : n0 ≤ h0.size) (E_a : Exa Z h0 a "backstitch/Needle") (E_q : Exa Z h0 q "backstitch/Needle$Anchor") (F_a_units : Fld Z h0 a "backstitch/Needle" "units" "[C" (.ref b)) (F_a_anchor : Fld Z h0 a "backstitch/Needle" "anchor" "Lbackstitch/Needle$Anchor;" (.ref q)) (F_a_ofBytes : Fld Z h0 a "backstitch/Needle" "ofBytes" "Z" (.int 0)) (F_q_unit : Fld Z h0 q "backstitch/Needle$Anchor" "unit" "C" (.int cv)) (F_q_index : Fld Z h0 q "backstitch/Needle$Anchor" "index" "I" (.int ix)) (Old0 : Old Z n0 h0) (SRA : Sta Z Z.heap "backstitch/Needle" "ASCII_RARITY" "[B" (.ref rA)) (SUN : Sta Z Z.heap "backstitch/Needle" "UNORDINARY" "I" (.int 28)) (V_rA : Arv Z h0 rA kA .byte (128 : Int32) ra (.int 0)) (hRA : own_RA ra) (V_b : Arv Z h0 b kb .char (Int32.ofNat nz) us (.int 0)) (hU : own_U nz us) (hnz : nz < 6) (hcv : own_ch cv) :
    own_Met l Z mn27 prog_8_method_29_code 10 (some (.array (.object "backstitch/Needle$Anchor"))) ws rm18 #[(.ref a)] h0 (Q_own_lc Z a b q cv ix nz us kb rA kA ra h0 n0) := by
  refine own_start (plainFor_of_name own_pn4) fun p e s m below meth c s₁ Bd hx hby hml hZ hown hnm X0 e0 => ?_
  have H := @own_hw Z a0 hw
  have D := @hb _ _ hby
  have hown : s.vm.findClass "backstitch/Needle" = some m.cls := hown
  have N0 := Fr.nil n0
  have K0 := Keep.refl h0 []
  rw [own_ef_own_lc m a]
  refine gb s₁ m 1 #[vr a, un, un, un, un, un, un, un, un, un] [(.ref a)] (fun u k => XS.aloadN X0.here hx rfl (D d20_0) rfl rfl k) ?_
  obtain ⟨T1, X1, e1, st1⟩ := getF X0 hx hZ hown (host := "") (Or.inl (H 109 rfl)) Via.refl e0 F_a_anchor (g := (mkF m 1 #[vr a, un, un, un, un, un, un, un, un, un] [(.ref a)])) rfl rfl (D d20_1)
  refine gb T1 m 4 #[vr a, un, un, un, un, un, un, un, un, un] [(.ref q)] st1 ?_
  clear st1
  obtain ⟨cq3, kq3, qa3, qb3, qc3⟩ := isOf hZ e1 E_q
  obtain ⟨_, _, ⟨T2, L2, k2, n2⟩, -, X2, ⟨Lc2, hQ2, l2, y2, z2⟩, st2⟩ := X1.virtualBack hx (y := mn23) (z := mn23) hown (mvT hZ (H 115 rfl)) (mvT hZ (H 116 rfl)) (notFace_of_selects (args := #[]) (mvT hZ (H 118 rfl))) (mvT hZ (H 118 rfl)) (mvT hZ (H 117 rfl)) (by decide) (backOf (W := 0) (own_anUnit l Z a0 hw [] q cv h0 n0 Z0 F_q_unit hcv.2) hZ (H 119 rfl) (H 90 rfl) (by decide) (by decide)) qa3 qc3 (g := (mkF m 4 #[vr a, un, un, un, un, un, un, un, un, un] [(.ref q)])) rfl (by rw [hml]; rfl) (Steps.refl _) (argsL := []) (rest := []) (lenOf own_pd18 rfl) rfl (own_w0 rfl) (D d20_4) (fun _ _ => ⟨rfl, e1, (by decide : 0 + 0 ≤ _), (by decide : 0 + 0 ≤ _)⟩)
  dsimp only [Pt.U, Pt.locs, Pt.cells, Pt.slots] at X2 l2 y2 z2 st2 hQ2
  subst l2 y2 z2
  obtain ⟨rfl, N2, e2⟩ := hQ2
  have NA2 := Fr.app N0 N2
  refine gb T2 m 7 #[vr a, un, un, un, un, un, un, un, un, un] [(.int cv)] (fun u k => st2.trans k) ?_
  clear st2
  obtain ⟨_, _, ⟨T4, L4, k4, n4⟩, -, X4, ⟨Lc4, hQ4, l4, y4, z4⟩, st4⟩ := Jvm.LawKit.callS X2 hx (y := mn20) hown (mvT hZ (H 79 rfl)) (mvT hZ (H 80 rfl)) (mvT hZ (H 41 rfl)) (mvT hZ (H 81 rfl)) (by decide) (backOf (W := 0) (own_rar l Z a0 hw [] cv rA kA ra h0 n0 Z0 Old0 SRA SUN V_rA hRA hcv.1.1) hZ (H 81 rfl) (H 41 rfl) (by decide) (by decide)) (g := (mkF m 7 #[vr a, un, un, un, un, un, un, un, un, un] [(.int cv)])) rfl (by rw [hml]; rfl) (argsL := [(.int cv)]) (rest := []) (lenOf own_pd19 rfl) rfl (own_w0 rfl) (D d20_7) (fun _ _ => ⟨rfl, e2, (by decide : 0 + 0 ≤ _), (by decide : 0 + 0 ≤ _)⟩)
  dsimp only [Pt.U, Pt.locs, Pt.cells, Pt.slots] at X4 l4 y4 z4 st4 hQ4
  subst l4 y4 z4
  obtain ⟨rv4, rfl, N4, e4, P4_0⟩ := hQ4
  have NA4 := Fr.app NA2 N4
  refine gb T4 m 10 #[vr a, un, un, un, un, un, un, un, un, un] [(.int rv4)] st4 ?_
  clear st4
  obtain ⟨T5, X5, e5, st5⟩ := getS2 X4 hx hZ hown (host := "") (Or.inl (H 120 rfl)) Via.refl e4 (SUN.ext Old0.2) (g := (mkF m 10 #[vr a, un, un, un, un, un, un, un, un, un] [(.int rv4)])) rfl (D d20_10)
  refine gb T5 m 13 #[vr a, un, un, un, un, un, un, un, un, un] [(.int 28), (.int rv4)] st5 ?_
  clear st5
  by_cases h28 : rv4 = (28 : Int32)
  · refine gb T5 m 22 #[vr a, un, un, un, un, un, un, un, un, un] [(.ref a)] (fun u k => XS.icmpYes X5.here hx rfl (pc0 := 13) (pc' := 21) rfl (D d20_13) rfl (XT.ii_eq_t h28) (by decide) (by decide) (XS.aloadN X5.here hx rfl (D d20_21) rfl rfl k)) ?_
    obtain ⟨T7, X7, e7, st7⟩ := getF X5 hx hZ hown (host := "") (Or.inl (H 77 rfl)) Via.refl e5 F_a_ofBytes (g := (mkF m 22 #[vr a, un, un, un, un, un, un, un, un, un] [(.ref a)])) rfl rfl (D d20_22)
    refine gb T7 m 25 #[vr a, un, un, un, un, un, un, un, un, un] [(.int 0)] st7 ?_
    clear st7
    refine gb T7 m 39 #[vr a, un, un, un, un, un, un, un, un, un] [(.int ((65536 : Int32) / (64 : Int32)))] (fun u k => XS.ifYes X7.here hx rfl (pc0 := 25) (pc' := 34) rfl (D d20_25) rfl (XT.i0_eq_t (by decide)) (by decide) (by decide) (X7.ldcI hx hown (mvT hZ (H 208 rfl)) rfl (D d20_34) (XT.bipushV X7.here hx rfl (64 : Int32) (D d20_36) (by decide) (XS.idiv X7.here hx rfl (D d20_38) rfl (by decide) k)))) ?_
    have rw8 : ((65536 : Int32) / (64 : Int32)) = (1024 : Int32) := by decide
    rw [rw8]
    obtain ⟨T9, h9, k9, X9, e9, E9, A9, st9⟩ := newP X7 hx hZ (H 209 rfl) e7 (g := (mkF m 39 #[vr a, un, un, un, un, un, un, un, un, un] [(.int 1024)])) rfl (D d20_39) rfl (by decide) (cap := 1024) (by decide) (by decide) (by decide) (by decide)
    obtain ⟨b9, g9⟩ : ∃ z, z = h0.size := ⟨_, rfl⟩
    rw [← g9] at A9 st9
    have ne_a_b9 : a ≠ b9 := Nat.ne_of_lt (Nat.lt_of_lt_of_le E_a.lt (Nat.le_of_eq g9.symm))
    have ne_q_b9 : q ≠ b9 := Nat.ne_of_lt (Nat.lt_of_lt_of_le E_q.lt (Nat.le_of_eq g9.symm))
    have ne_rA_b9 : rA ≠ b9 := Nat.ne_of_lt (Nat.lt_of_lt_of_le V_rA.lt (Nat.le_of_eq g9.symm))
    have ne_b_b9 : b ≠ b9 := Nat.ne_of_lt (Nat.lt_of_lt_of_le V_b.lt (Nat.le_of_eq g9.symm))
    have gb9 : n0 ≤ b9 := Nat.le_trans Z0 (Nat.le_of_eq g9.symm)
    have sz9 : h0.size ≤ b9 := Nat.le_trans K0.1 (Nat.le_of_eq g9.symm)
    have Z9 : n0 ≤ h9.size := Nat.le_trans Z0 E9.1
    have K9 := K0.ext E9
    have O9 := Old0.ext E9
    have V9 : Arv Z h9 b9 k9 .long (1024 : Int32) (([] : List Value) ++ List.replicate 1024 ((.long 0) : Value)) (.long 0) := (Arv.new A9 (by decide)).pad (pad_rep [] (.long 0) 1024)
    refine gb T9 m 41 #[vr a, un, un, un, un, un, un, un, un, un] [(.ref b9)] st9 ?_
    clear st9
    refine gb T9 m 43 #[vr a, vr b9, un, un, un, un, un, un, un, un] [(.ref a)] (fun u k => XS.astoreN X9.here hx rfl (D d20_41) rfl rfl (l' := #[vr a, vr b9, un, un, un, un, un, un, un, un]) rfl (XS.aloadN X9.here hx rfl (D d20_42) rfl rfl k)) ?_
    have f10 := (F_a_units.ext E9)
    obtain ⟨T11, X11, e11, st11⟩ := getF X9 hx hZ hown (host := "") (Or.inl (H 75 rfl)) Via.refl e9 f10 (g := (mkF m 43 #[vr a, vr b9, un, un, un, un, un, un, un, un] [(.ref a)])) rfl rfl (D d20_43)
    refine gb T11 m 46 #[vr a, vr b9, un, un, un, un, un, un, un, un] [(.ref b)] st11 ?_
    clear st11
    have f12 := (V_b.ext E9)
    obtain ⟨cl13, Ar13, aq13, aS13, aM13, aH13, aG13⟩ := id f12
    refine gb T11 m 47 #[vr a, vr b9, un, un, un, un, un, un, un, un] [(.int cl13.slots.size.toInt32)] (fun u k => X11.arraylength hx (by rw [e11]; exact Ar13.1) (State.isArrayOf_alike hZ.alike Ar13.2.1) (g := (mkF m 46 #[vr a, vr b9, un, un, un, un, un, un, un, un] [(.ref b)])) rfl rfl (D d20_46) _ k) ?_
    rw [len_of aS13 aM13]
    refine gb T11 m 48 #[vr a, vr b9, un, un, un, un, un, un, un, un] [(.ref b9), (.int (Int32.ofNat nz))] (fun u k => XS.aloadN X11.here hx rfl (D d20_47) rfl rfl k) ?_
    obtain ⟨cl14, Ar14, aq14, aS14, aM14, aH14, aG14⟩ := id V9
    refine gb T11 m 49 #[vr a, vr b9, un, un, un, un, un, un, un, un] [(.int cl14.slots.size.toInt32), (.int (Int32.ofNat nz))] (fun u k => X11.arraylength hx (by rw [e11]; exact Ar14.1) (State.isArrayOf_alike hZ.alike Ar14.2.1) (g := (mkF m 48 #[vr a, vr b9, un, un, un, un, un, un, un, un] [(.ref b9), (.int (Int32.ofNat nz))])) rfl rfl (D d20_48) _ k) ?_
    rw [len_of aS14 aM14]
    refine gb T11 m 52 #[vr a, vr b9, un, un, un, un, un, un, un, un] [(.int ((1024 : Int32) * (64 : Int32))), (.int (Int32.ofNat nz))] (fun u k => XT.bipushV X11.here hx rfl (64 : Int32) (D d20_49) (by decide) (XS.imul X11.here hx rfl (D d20_51) rfl k)) ?_
    have rw15 : ((1024 : Int32) * (64 : Int32)) = (65536 : Int32) := by decide
    rw [rw15]
    obtain ⟨_, _, ⟨T16, L16, k16, n16⟩, -, X16, ⟨Lc16, hQ16, l16, y16, z16⟩, st16⟩ := Jvm.LawKit.callS X11 hx (y := mn26) hown (mvT hZ (H 125 rfl)) (mvT hZ (H 126 rfl)) (mvT hZ (H 127 rfl)) (mvT hZ (H 128 rfl)) (by decide) (backOf (W := 0) (own_min l Z a0 hw [] (Int32.ofNat nz) (65536 : Int32) h9 n0 Z9 ) hZ (H 128 rfl) (H 127 rfl) (by decide) (by decide)) (g := (mkF m 52 #[vr a, vr b9, un, un, un, un, un, un, un, un] [(.int 65536), (.int (Int32.ofNat nz))])) rfl (by rw [hml]; rfl) (argsL := [(.int (Int32.ofNat nz)), (.int 65536)]) (rest := []) (lenOf own_pd20 rfl) rfl (own_w0 rfl) (D d20_52) (fun _ _ => ⟨rfl, e11, (by decide : 1 + 0 ≤ _), (by decide : 1024 + 0 ≤ _)⟩)
    dsimp only [Pt.U, Pt.locs, Pt.cells, Pt.slots] at X16 l16 y16 z16 st16 hQ16
    subst l16 y16 z16
    obtain ⟨rfl, N16, e16⟩ := hQ16
    have NA16 := Fr.app NA4 N16
    refine gb T16 m 55 #[vr a, vr b9, un, un, un, un, un, un, un, un] [(.int (F_own_min (Int32.ofNat nz) (65536 : Int32)))] st16 ?_
    clear st16
    have rw17 : (F_own_min (Int32.ofNat nz) (65536 : Int32)) = (Int32.ofNat nz) := own_min_a hnz
    rw [rw17]
    obtain ⟨T18, h18, k18, X18, e18, E18, A18, st18⟩ := newP X16 hx hZ (H 135 rfl) e16 (g := (mkF m 55 #[vr a, vr b9, un, un, un, un, un, un, un, un] [(.int (Int32.ofNat nz))])) rfl (D d20_55) rfl (own_j nz (by omega)).1 (cap := 5) (by rw [(own_j nz (by omega)).2.1]; omega) (by decide) (by decide) (by decide)
    obtain ⟨b18, g18⟩ : ∃ z, z = h9.size := ⟨_, rfl⟩
    rw [← g18] at A18 st18
    have f19 := (E_a.ext E9)
    have ne_a_b18 : a ≠ b18 := Nat.ne_of_lt (Nat.lt_of_lt_of_le f19.lt (Nat.le_of_eq g18.symm))
    have f20 := (E_q.ext E9)
    have ne_q_b18 : q ≠ b18 := Nat.ne_of_lt (Nat.lt_of_lt_of_le f20.lt (Nat.le_of_eq g18.symm))
    have f21 := (V_rA.ext E9)
    have ne_rA_b18 : rA ≠ b18 := Nat.ne_of_lt (Nat.lt_of_lt_of_le f21.lt (Nat.le_of_eq g18.symm))
    have ne_b_b18 : b ≠ b18 := Nat.ne_of_lt (Nat.lt_of_lt_of_le f12.lt (Nat.le_of_eq g18.symm))
    have ne_b9_b18 : b9 ≠ b18 := Nat.ne_of_lt (Nat.lt_of_lt_of_le V9.lt (Nat.le_of_eq g18.symm))
    have gb18 : n0 ≤ b18 := Nat.le_trans Z9 (Nat.le_of_eq g18.symm)
    have sz18 : h0.size ≤ b18 := Nat.le_trans K9.1 (Nat.le_of_eq g18.symm)
    have Z18 : n0 ≤ h18.size := Nat.le_trans Z9 E18.1
    have K18 := K9.ext E18
    have O18 := O9.ext E18
    have V18 : Arv Z h18 b18 k18 .int (Int32.ofNat nz) (([] : List Value) ++ List.replicate nz ((.int 0) : Value)) (.int 0) := (Arv.new A18 (own_j nz (by omega)).1).pad (pad_rep [] (.int 0) nz)
    refine gb T18 m 57 #[vr a, vr b9, un, un, un, un, un, un, un, un] [(.ref b18)] st18 ?_
    clear st18
    refine gb T18 m 59 #[vr a, vr b9, vr b18, un, un, un, un, un, un, un] [(.ref b18)] (fun u k => XS.astoreN X18.here hx rfl (D d20_57) rfl rfl (l' := #[vr a, vr b9, vr b18, un, un, un, un, un, un, un]) rfl (XS.aloadN X18.here hx rfl (D d20_58) rfl rfl k)) ?_
    obtain ⟨cl22, Ar22, aq22, aS22, aM22, aH22, aG22⟩ := id V18
    refine gb T18 m 60 #[vr a, vr b9, vr b18, un, un, un, un, un, un, un] [(.int cl22.slots.size.toInt32)] (fun u k => X18.arraylength hx (by rw [e18]; exact Ar22.1) (State.isArrayOf_alike hZ.alike Ar22.2.1) (g := (mkF m 59 #[vr a, vr b9, vr b18, un, un, un, un, un, un, un] [(.ref b18)])) rfl rfl (D d20_59) _ k) ?_
    rw [len_of aS22 aM22]
    obtain ⟨T23, h23, k23, X23, e23, E23, A23, st23⟩ := newP X18 hx hZ (H 135 rfl) e18 (g := (mkF m 60 #[vr a, vr b9, vr b18, un, un, un, un, un, un, un] [(.int (Int32.ofNat nz))])) rfl (D d20_60) rfl (own_j nz (by omega)).1 (cap := 5) (by rw [(own_j nz (by omega)).2.1]; omega) (by decide) (by decide) (by decide)
    obtain ⟨b23, g23⟩ : ∃ z, z = h18.size := ⟨_, rfl⟩
    rw [← g23] at A23 st23
    have f24 := (f19.ext E18)
    have ne_a_b23 : a ≠ b23 := Nat.ne_of_lt (Nat.lt_of_lt_of_le f24.lt (Nat.le_of_eq g23.symm))
    have f25 := (f20.ext E18)
    have ne_q_b23 : q ≠ b23 := Nat.ne_of_lt (Nat.lt_of_lt_of_le f25.lt (Nat.le_of_eq g23.symm))
    have f26 := (f21.ext E18)
    have ne_rA_b23 : rA ≠ b23 := Nat.ne_of_lt (Nat.lt_of_lt_of_le f26.lt (Nat.le_of_eq g23.symm))
    have f27 := (f12.ext E18)
    have ne_b_b23 : b ≠ b23 := Nat.ne_of_lt (Nat.lt_of_lt_of_le f27.lt (Nat.le_of_eq g23.symm))
    have f28 := (V9.ext E18)
    have ne_b9_b23 : b9 ≠ b23 := Nat.ne_of_lt (Nat.lt_of_lt_of_le f28.lt (Nat.le_of_eq g23.symm))
    have ne_b18_b23 : b18 ≠ b23 := Nat.ne_of_lt (Nat.lt_of_lt_of_le V18.lt (Nat.le_of_eq g23.symm))
    have gb23 : n0 ≤ b23 := Nat.le_trans Z18 (Nat.le_of_eq g23.symm)
    have sz23 : h0.size ≤ b23 := Nat.le_trans K18.1 (Nat.le_of_eq g23.symm)
    have Z23 : n0 ≤ h23.size := Nat.le_trans Z18 E23.1
    have K23 := K18.ext E23
    have O23 := O18.ext E23
    have V23 : Arv Z h23 b23 k23 .int (Int32.ofNat nz) (([] : List Value) ++ List.replicate nz ((.int 0) : Value)) (.int 0) := (Arv.new A23 (own_j nz (by omega)).1).pad (pad_rep [] (.int 0) nz)
    refine gb T23 m 62 #[vr a, vr b9, vr b18, un, un, un, un, un, un, un] [(.ref b23)] st23 ?_
    clear st23
    refine gb T23 m 72 #[vr a, vr b9, vr b18, vr b23, vi 0, vi 0, vi 0, un, un, un] [] (fun u k => XS.astoreN X23.here hx rfl (D d20_62) rfl rfl (l' := #[vr a, vr b9, vr b18, vr b23, un, un, un, un, un, un]) rfl (XT.iconstV X23.here hx rfl (0 : Int32) (D d20_63) (by decide) (XS.istore X23.here hx rfl (D d20_64) rfl (l' := #[vr a, vr b9, vr b18, vr b23, vi 0, un, un, un, un, un]) rfl (XT.iconstV X23.here hx rfl (0 : Int32) (D d20_66) (by decide) (XS.istore X23.here hx rfl (D d20_67) rfl (l' := #[vr a, vr b9, vr b18, vr b23, vi 0, vi 0, un, un, un, un]) rfl (XT.iconstV X23.here hx rfl (0 : Int32) (D d20_69) (by decide) (XS.istore X23.here hx rfl (D d20_70) rfl (l' := #[vr a, vr b9, vr b18, vr b23, vi 0, vi 0, vi 0, un, un, un]) rfl k))))))) ?_
    have loop : ∀ (d i : Nat), d + i = nz → ∀ (kk : Nat) (mask : Int32) (ql : List Int32) (v7 : Int32) (v8 : Int64) (T9 : State) (L9 : List Loc) (ls9 ps9 cl9 : List Value), kk ≤ i → own_L 1024 ls9 → own_PC nz kk mask ql ps9 cl9 → Stand p l e rm18 s m #[(.ref a)] below meth c T9 L9 3 1034 → Fr n0 L9 → n0 ≤ T9.heap.size → Keep h0 T9.heap [] → Old Z n0 T9.heap → Exa Z T9.heap a "backstitch/Needle" → Exa Z T9.heap q "backstitch/Needle$Anchor" → Fld Z T9.heap a "backstitch/Needle" "units" "[C" (.ref b) → Fld Z T9.heap a "backstitch/Needle" "anchor" "Lbackstitch/Needle$Anchor;" (.ref q) → Fld Z T9.heap q "backstitch/Needle$Anchor" "index" "I" (.int ix) → Arv Z T9.heap b kb .char (Int32.ofNat nz) us (.int 0) → Arv Z T9.heap rA kA .byte (128 : Int32) ra (.int 0) → Arv Z T9.heap b9 k9 .long (1024 : Int32) ls9 (.long 0) → Arv Z T9.heap b18 k18 .int (Int32.ofNat nz) ps9 (.int 0) → Arv Z T9.heap b23 k23 .int (Int32.ofNat nz) cl9 (.int 0) → Go p e below (own_F s below (Q_own_lc Z a b q cv ix nz us kb rA kA ra h0 n0) rm18.cells rm18.slots) (T9.setTop (mkF m 72 #[vr a, vr b9, vr b18, vr b23, vi mask, vi (Int32.ofNat kk), vi (Int32.ofNat i), vi v7, .val (.long v8), .second] [])) := by
      intro d
      induction d with
      | zero =>
        intro i hi kk mask ql v7 v8 T9 L9 ls9 ps9 cl9 hk hL9 hP9 X9 N9 Z9 K9 O9 G9_0 G9_1 G9_2 G9_3 G9_4 G9_5 G9_6 G9_7 G9_8 G9_9
        have hkn := hP9.2.2.2.1
        have hql : ql.length = kk := hP9.2.2.1
        refine gb T9 m 75 #[vr a, vr b9, vr b18, vr b23, vi mask, vi (Int32.ofNat kk), vi (Int32.ofNat i), vi v7, .val (.long v8), .second] [(.ref a), (.int (Int32.ofNat i))] (fun u k => XS.iload X9.here hx rfl (D d20_72) rfl (XS.aloadN X9.here hx rfl (D d20_74) rfl rfl k)) ?_
        obtain ⟨T29, X29, e29, st29⟩ := getF X9 hx hZ hown (host := "") (Or.inl (H 75 rfl)) Via.refl rfl G9_2 (g := (mkF m 75 #[vr a, vr b9, vr b18, vr b23, vi mask, vi (Int32.ofNat kk), vi (Int32.ofNat i), vi v7, .val (.long v8), .second] [(.ref a), (.int (Int32.ofNat i))])) rfl rfl (D d20_75)
        refine gb T29 m 78 #[vr a, vr b9, vr b18, vr b23, vi mask, vi (Int32.ofNat kk), vi (Int32.ofNat i), vi v7, .val (.long v8), .second] [(.ref b), (.int (Int32.ofNat i))] st29 ?_
        clear st29
        obtain ⟨cl30, Ar30, aq30, aS30, aM30, aH30, aG30⟩ := id G9_5
        refine gb T29 m 79 #[vr a, vr b9, vr b18, vr b23, vi mask, vi (Int32.ofNat kk), vi (Int32.ofNat i), vi v7, .val (.long v8), .second] [(.int cl30.slots.size.toInt32), (.int (Int32.ofNat i))] (fun u k => X29.arraylength hx (by rw [e29]; exact Ar30.1) (State.isArrayOf_alike hZ.alike Ar30.2.1) (g := (mkF m 78 #[vr a, vr b9, vr b18, vr b23, vi mask, vi (Int32.ofNat kk), vi (Int32.ofNat i), vi v7, .val (.long v8), .second] [(.ref b), (.int (Int32.ofNat i))])) rfl rfl (D d20_78) _ k) ?_
        rw [len_of aS30 aM30]
        refine gb T29 m 169 #[vr a, vr b9, vr b18, vr b23, vi mask, vi (Int32.ofNat kk), vi (Int32.ofNat i), vi v7, .val (.long v8), .second] [(.int 2), (.int (Int32.ofNat kk))] (fun u k => XS.icmpYes X29.here hx rfl (pc0 := 79) (pc' := 166) rfl (D d20_79) rfl (XT.ii_ge_t (fun h => absurd ((own_lt (by omega) (by omega)).mp h) (by omega))) (by decide) (by decide) (XS.iload X29.here hx rfl (D d20_166) rfl (XT.iconstV X29.here hx rfl (2 : Int32) (D d20_168) (by decide) k))) ?_
        by_cases hk2 : (Int32.ofNat kk) < (2 : Int32)
        · refine gb T29 m 173 #[vr a, vr b9, vr b18, vr b23, vi mask, vi (Int32.ofNat kk), vi (Int32.ofNat i), vi v7, .val (.long v8), .second] [(.int 0)] (fun u k => XS.icmpNo X29.here hx rfl (D d20_169) rfl (XT.ii_ge_f hk2) (XT.iconstV X29.here hx rfl (0 : Int32) (D d20_172) (by decide) k)) ?_
          obtain ⟨T32, h32, k32, X32, e32, E32, A32, B32, -, st32⟩ := newRE X29 hx hZ hown (H 88 rfl) (H 122 rfl) e29 (g := (mkF m 173 #[vr a, vr b9, vr b18, vr b23, vi mask, vi (Int32.ofNat kk), vi (Int32.ofNat i), vi v7, .val (.long v8), .second] [(.int 0)])) rfl (D d20_173) rfl (by decide) (cap := 0) (by decide) (by decide) (by decide) (by decide) (ad := "[Lbackstitch/Needle$Anchor;") (by decide +kernel)
          obtain ⟨b32, g32⟩ : ∃ z, z = T9.heap.size := ⟨_, rfl⟩
          rw [← g32] at A32 B32 st32
          have ne_a_b32 : a ≠ b32 := Nat.ne_of_lt (Nat.lt_of_lt_of_le G9_0.lt (Nat.le_of_eq g32.symm))
          have ne_q_b32 : q ≠ b32 := Nat.ne_of_lt (Nat.lt_of_lt_of_le G9_1.lt (Nat.le_of_eq g32.symm))
          have ne_rA_b32 : rA ≠ b32 := Nat.ne_of_lt (Nat.lt_of_lt_of_le G9_6.lt (Nat.le_of_eq g32.symm))
          have ne_b_b32 : b ≠ b32 := Nat.ne_of_lt (Nat.lt_of_lt_of_le G9_5.lt (Nat.le_of_eq g32.symm))
          have ne_b9_b32 : b9 ≠ b32 := Nat.ne_of_lt (Nat.lt_of_lt_of_le G9_7.lt (Nat.le_of_eq g32.symm))
          have ne_b18_b32 : b18 ≠ b32 := Nat.ne_of_lt (Nat.lt_of_lt_of_le G9_8.lt (Nat.le_of_eq g32.symm))
          have ne_b23_b32 : b23 ≠ b32 := Nat.ne_of_lt (Nat.lt_of_lt_of_le G9_9.lt (Nat.le_of_eq g32.symm))
          have gb32 : n0 ≤ b32 := Nat.le_trans Z9 (Nat.le_of_eq g32.symm)
          have sz32 : h0.size ≤ b32 := Nat.le_trans K9.1 (Nat.le_of_eq g32.symm)
          have Z32 : n0 ≤ h32.size := Nat.le_trans Z9 E32.1
          have K32 := K9.ext E32
          have O32 := O9.ext E32
          have V32 : Arv Z h32 b32 k32 (.object "backstitch/Needle$Anchor") (0 : Int32) [] .null := (Arv.new A32 (by decide)).pad (pad_rep [] .null 0)
          refine gb T32 m 176 #[vr a, vr b9, vr b18, vr b23, vi mask, vi (Int32.ofNat kk), vi (Int32.ofNat i), vi v7, .val (.long v8), .second] [(.ref b32)] st32 ?_
          clear st32
          obtain ⟨fs, hr, hrun, hended, hW, hsame⟩ := X32.leave (v := some (.ref b32)) (fun h => by rw [Bd.returns] at h; cases h)
          refine ⟨_, _, retOut X32 hx (t := (.array (.object "backstitch/Needle$Anchor"))) (i := .areturn) Bd.returns rfl (Or.inr (Or.inr (Or.inr (Or.inr ⟨rfl, rfl, rfl⟩)))) (D d20_176) hr, hrun, hended, _, _, rfl, ?_, ⟨_, rfl⟩, hW, hsame.mono (by decide) (by decide)⟩
          show Q_own_lc Z a b q cv ix nz us kb rA kA ra h0 n0 _ T32.heap _
          rw [e32]
          exact ⟨b32, rfl, N9, K32, gb32, sz32⟩
        · refine gb T29 m 181 #[vr a, vr b9, vr b18, vr b23, vi mask, vi (Int32.ofNat kk), vi (Int32.ofNat i), vi v7, .val (.long v8), .second] [(.int 65), (.int (Int32.ofNat kk))] (fun u k => XS.icmpYes X29.here hx rfl (pc0 := 169) (pc' := 177) rfl (D d20_169) rfl (XT.ii_ge_t hk2) (by decide) (by decide) (XS.iload X29.here hx rfl (D d20_177) rfl (XT.bipushV X29.here hx rfl (65 : Int32) (D d20_179) (by decide) k))) ?_
          obtain ⟨_, _, ⟨T33, L33, k33, n33⟩, -, X33, ⟨Lc33, hQ33, l33, y33, z33⟩, st33⟩ := Jvm.LawKit.callS X29 hx (y := mn26) hown (mvT hZ (H 125 rfl)) (mvT hZ (H 126 rfl)) (mvT hZ (H 127 rfl)) (mvT hZ (H 128 rfl)) (by decide) (backOf (W := 0) (own_min l Z a0 hw [] (Int32.ofNat kk) (65 : Int32) T9.heap n0 Z9 ) hZ (H 128 rfl) (H 127 rfl) (by decide) (by decide)) (g := (mkF m 181 #[vr a, vr b9, vr b18, vr b23, vi mask, vi (Int32.ofNat kk), vi (Int32.ofNat i), vi v7, .val (.long v8), .second] [(.int 65), (.int (Int32.ofNat kk))])) rfl (by rw [hml]; rfl) (argsL := [(.int (Int32.ofNat kk)), (.int 65)]) (rest := []) (lenOf own_pd20 rfl) rfl (own_w0 rfl) (D d20_181) (fun _ _ => ⟨rfl, e29, (by decide : 3 + 0 ≤ _), (by decide : 1034 + 0 ≤ _)⟩)
          dsimp only [Pt.U, Pt.locs, Pt.cells, Pt.slots] at X33 l33 y33 z33 st33 hQ33
          subst l33 y33 z33
          obtain ⟨rfl, N33, e33⟩ := hQ33
          have NA33 := Fr.app N9 N33
          refine gb T33 m 184 #[vr a, vr b9, vr b18, vr b23, vi mask, vi (Int32.ofNat kk), vi (Int32.ofNat i), vi v7, .val (.long v8), .second] [(.int (F_own_min (Int32.ofNat kk) (65 : Int32)))] st33 ?_
          clear st33
          have rw34 : (F_own_min (Int32.ofNat kk) (65 : Int32)) = (Int32.ofNat kk) := own_min_b (by omega)
          rw [rw34]
          obtain ⟨T35, h35, k35, X35, e35, E35, A35, B35, OV35, st35⟩ := newRE X33 hx hZ hown (H 88 rfl) (H 122 rfl) e33 (g := (mkF m 184 #[vr a, vr b9, vr b18, vr b23, vi mask, vi (Int32.ofNat kk), vi (Int32.ofNat i), vi v7, .val (.long v8), .second] [(.int (Int32.ofNat kk))])) rfl (D d20_184) rfl (own_j kk (by omega)).1 (cap := 5) (by rw [(own_j kk (by omega)).2.1]; omega) (by decide) (by decide) (by decide) (ad := "[Lbackstitch/Needle$Anchor;") (by decide +kernel)
          obtain ⟨b35, g35⟩ : ∃ z, z = T9.heap.size := ⟨_, rfl⟩
          rw [← g35] at A35 B35 st35
          have ne_a_b35 : a ≠ b35 := Nat.ne_of_lt (Nat.lt_of_lt_of_le G9_0.lt (Nat.le_of_eq g35.symm))
          have ne_q_b35 : q ≠ b35 := Nat.ne_of_lt (Nat.lt_of_lt_of_le G9_1.lt (Nat.le_of_eq g35.symm))
          have ne_rA_b35 : rA ≠ b35 := Nat.ne_of_lt (Nat.lt_of_lt_of_le G9_6.lt (Nat.le_of_eq g35.symm))
          have ne_b_b35 : b ≠ b35 := Nat.ne_of_lt (Nat.lt_of_lt_of_le G9_5.lt (Nat.le_of_eq g35.symm))
          have ne_b9_b35 : b9 ≠ b35 := Nat.ne_of_lt (Nat.lt_of_lt_of_le G9_7.lt (Nat.le_of_eq g35.symm))
          have ne_b18_b35 : b18 ≠ b35 := Nat.ne_of_lt (Nat.lt_of_lt_of_le G9_8.lt (Nat.le_of_eq g35.symm))
          have ne_b23_b35 : b23 ≠ b35 := Nat.ne_of_lt (Nat.lt_of_lt_of_le G9_9.lt (Nat.le_of_eq g35.symm))
          have gb35 : n0 ≤ b35 := Nat.le_trans Z9 (Nat.le_of_eq g35.symm)
          have sz35 : h0.size ≤ b35 := Nat.le_trans K9.1 (Nat.le_of_eq g35.symm)
          have Z35 : n0 ≤ h35.size := Nat.le_trans Z9 E35.1
          have K35 := K9.ext E35
          have O35 := O9.ext E35
          have V35 : Arv Z h35 b35 k35 (.object "backstitch/Needle$Anchor") (Int32.ofNat kk) (([] : List Value) ++ List.replicate kk (.null : Value)) .null := (Arv.new A35 (own_j kk (by omega)).1).pad (pad_rep [] .null kk)
          refine gb T35 m 187 #[vr a, vr b9, vr b18, vr b23, vi mask, vi (Int32.ofNat kk), vi (Int32.ofNat i), vi v7, .val (.long v8), .second] [(.ref b35)] st35 ?_
          clear st35
          refine gb T35 m 192 #[vr a, vr b9, vr b18, vr b23, vi mask, vi (Int32.ofNat kk), vr b35, vi 0, .val (.long v8), .second] [] (fun u k => XS.astore X35.here hx rfl (D d20_187) rfl rfl (l' := #[vr a, vr b9, vr b18, vr b23, vi mask, vi (Int32.ofNat kk), vr b35, vi v7, .val (.long v8), .second]) rfl (XT.iconstV X35.here hx rfl (0 : Int32) (D d20_189) (by decide) (XS.istore X35.here hx rfl (D d20_190) rfl (l' := #[vr a, vr b9, vr b18, vr b23, vi mask, vi (Int32.ofNat kk), vr b35, vi 0, .val (.long v8), .second]) rfl k))) ?_
          obtain ⟨T36, X36, e36, st36⟩ := getS2 X35 hx hZ hown (host := "") (Or.inl (H 120 rfl)) Via.refl e35 (SUN.ext O35.2) (g := (mkF m 192 #[vr a, vr b9, vr b18, vr b23, vi mask, vi (Int32.ofNat kk), vr b35, vi 0, .val (.long v8), .second] [])) rfl (D d20_192)
          refine gb T36 m 195 #[vr a, vr b9, vr b18, vr b23, vi mask, vi (Int32.ofNat kk), vr b35, vi 0, .val (.long v8), .second] [(.int 28)] st36 ?_
          clear st36
          refine gb T36 m 197 #[vr a, vr b9, vr b18, vr b23, vi mask, vi (Int32.ofNat kk), vr b35, vi 0, vi 28, un] [] (fun u k => XS.istore X36.here hx rfl (D d20_195) rfl (l' := #[vr a, vr b9, vr b18, vr b23, vi mask, vi (Int32.ofNat kk), vr b35, vi 0, vi 28, un]) rfl k) ?_
          have outer : ∀ (q9 : Nat), q9 ≤ 29 → ∀ (f : Nat) (o9 : Slot) (cz sz : Nat) (T8 : State) (L8 : List Loc) (rs8 : List Value), (o9 = un ∨ ∃ v : Int32, o9 = vi v) → f = own_cnt ql q9 → cz ≤ 4 + f → sz ≤ 1039 + 4 * f → rs8.length = kk → Stand p l e rm18 s m #[(.ref a)] below meth c T8 L8 cz sz → Fr n0 L8 → n0 ≤ T8.heap.size → Keep h0 T8.heap [] → Exa Z T8.heap a "backstitch/Needle" → Exa Z T8.heap q "backstitch/Needle$Anchor" → Fld Z T8.heap a "backstitch/Needle" "units" "[C" (.ref b) → Fld Z T8.heap a "backstitch/Needle" "anchor" "Lbackstitch/Needle$Anchor;" (.ref q) → Fld Z T8.heap q "backstitch/Needle$Anchor" "index" "I" (.int ix) → Arv Z T8.heap b kb .char (Int32.ofNat nz) us (.int 0) → Arv Z T8.heap b18 k18 .int (Int32.ofNat nz) ps9 (.int 0) → Arv Z T8.heap b23 k23 .int (Int32.ofNat nz) cl9 (.int 0) → Arv Z T8.heap b35 k35 (.object "backstitch/Needle$Anchor") (Int32.ofNat kk) rs8 .null → Go p e below (own_F s below (Q_own_lc Z a b q cv ix nz us kb rA kA ra h0 n0) rm18.cells rm18.slots) (T8.setTop (mkF m 197 #[vr a, vr b9, vr b18, vr b23, vi mask, vi (Int32.ofNat kk), vr b35, vi (Int32.ofNat f), vi (own_cl q9), o9] [])) := by
            intro q9
            induction q9 with
            | zero =>
              intro hq f o9 cz sz T8 L8 rs8 ho hf hcz hsz hr8 X8 N8 Z8 K8 G8_0 G8_1 G8_2 G8_3 G8_4 G8_5 G8_6 G8_7 G8_8
              rw [own_cnt0] at hf
              refine gb T8 m 201 #[vr a, vr b9, vr b18, vr b23, vi mask, vi (Int32.ofNat kk), vr b35, vi (Int32.ofNat f), vi (own_cl 0), o9] [(.ref b35), (.int (Int32.ofNat f))] (fun u k => XS.iload X8.here hx rfl (D d20_197) rfl (XS.aload X8.here hx rfl (D d20_199) rfl rfl k)) ?_
              obtain ⟨cl37, Ar37, aq37, aS37, aM37, aH37, aG37⟩ := id G8_8
              refine gb T8 m 202 #[vr a, vr b9, vr b18, vr b23, vi mask, vi (Int32.ofNat kk), vr b35, vi (Int32.ofNat f), vi (own_cl 0), o9] [(.int cl37.slots.size.toInt32), (.int (Int32.ofNat f))] (fun u k => X8.arraylength hx Ar37.1 (State.isArrayOf_alike hZ.alike Ar37.2.1) (g := (mkF m 201 #[vr a, vr b9, vr b18, vr b23, vi mask, vi (Int32.ofNat kk), vr b35, vi (Int32.ofNat f), vi (own_cl 0), o9] [(.ref b35), (.int (Int32.ofNat f))])) rfl rfl (D d20_201) _ k) ?_
              rw [len_of aS37 aM37]
              refine gb T8 m 296 #[vr a, vr b9, vr b18, vr b23, vi mask, vi (Int32.ofNat kk), vr b35, vi (Int32.ofNat f), vi (own_cl 0), o9] [(.ref b35)] (fun u k => XS.icmpYes X8.here hx rfl (pc0 := 202) (pc' := 294) rfl (D d20_202) rfl (XT.ii_ge_t (fun h => absurd ((own_lt (by omega) (by omega)).mp h) (by omega))) (by decide) (by decide) (XS.aload X8.here hx rfl (D d20_294) rfl rfl k)) ?_
              obtain ⟨fs, hr, hrun, hended, hW, hsame⟩ := X8.leave (v := some (.ref b35)) (fun h => by rw [Bd.returns] at h; cases h)
              refine ⟨_, _, retOut X8 hx (t := (.array (.object "backstitch/Needle$Anchor"))) (i := .areturn) Bd.returns rfl (Or.inr (Or.inr (Or.inr (Or.inr ⟨rfl, rfl, rfl⟩)))) (D d20_296) hr, hrun, hended, _, _, rfl, ?_, ⟨_, rfl⟩, hW, hsame.mono (by show cz ≤ 9; omega) (by show sz ≤ 1059; omega)⟩
              show Q_own_lc Z a b q cv ix nz us kb rA kA ra h0 n0 _ T8.heap _
              exact ⟨b35, rfl, N8, K8, gb35, sz35⟩
            | succ c9 ih =>
              have inner : c9 + 1 ≤ 29 → ∀ (d j : Nat), d + j = kk → ∀ (f cz sz : Nat) (T8 : State) (L8 : List Loc) (rs8 : List Value), f = own_cnt ql (c9 + 1) + own_eqn ql j c9 → f ≤ kk → cz ≤ 4 + f → sz ≤ 1039 + 4 * f → rs8.length = kk → Stand p l e rm18 s m #[(.ref a)] below meth c T8 L8 cz sz → Fr n0 L8 → n0 ≤ T8.heap.size → Keep h0 T8.heap [] → Exa Z T8.heap a "backstitch/Needle" → Exa Z T8.heap q "backstitch/Needle$Anchor" → Fld Z T8.heap a "backstitch/Needle" "units" "[C" (.ref b) → Fld Z T8.heap a "backstitch/Needle" "anchor" "Lbackstitch/Needle$Anchor;" (.ref q) → Fld Z T8.heap q "backstitch/Needle$Anchor" "index" "I" (.int ix) → Arv Z T8.heap b kb .char (Int32.ofNat nz) us (.int 0) → Arv Z T8.heap b18 k18 .int (Int32.ofNat nz) ps9 (.int 0) → Arv Z T8.heap b23 k23 .int (Int32.ofNat nz) cl9 (.int 0) → Arv Z T8.heap b35 k35 (.object "backstitch/Needle$Anchor") (Int32.ofNat kk) rs8 .null → Go p e below (own_F s below (Q_own_lc Z a b q cv ix nz us kb rA kA ra h0 n0) rm18.cells rm18.slots) (T8.setTop (mkF m 221 #[vr a, vr b9, vr b18, vr b23, vi mask, vi (Int32.ofNat kk), vr b35, vi (Int32.ofNat f), vi (Int32.ofNat c9), vi (Int32.ofNat j)] [])) := by
                intro hq d
                have hcs := own_cnt_succ ql c9
                have hcl := own_cnt_le ql c9
                induction d with
                | zero =>
                  intro j hj f cz sz T8 L8 rs8 hf hfk hcz hsz hr8 X8 N8 Z8 K8 G8_0 G8_1 G8_2 G8_3 G8_4 G8_5 G8_6 G8_7 G8_8
                  obtain rfl : j = ql.length := by omega
                  refine gb T8 m 197 #[vr a, vr b9, vr b18, vr b23, vi mask, vi (Int32.ofNat kk), vr b35, vi (Int32.ofNat f), vi ((Int32.ofNat c9) + (-1 : Int32)), vi (Int32.ofNat ql.length)] [] (fun u k => XS.iload X8.here hx rfl (D d20_221) rfl (XS.iload X8.here hx rfl (D d20_223) rfl (XS.icmpYes X8.here hx rfl (pc0 := 225) (pc' := 288) rfl (D d20_225) rfl (XT.ii_ge_t (fun h => absurd ((own_lt (by omega) (by omega)).mp h) (by omega))) (by decide) (by decide) (XT.iincV X8.here hx rfl (-1 : Int32) (D d20_288) (by decide) rfl (l' := #[vr a, vr b9, vr b18, vr b23, vi mask, vi (Int32.ofNat kk), vr b35, vi (Int32.ofNat f), vi ((Int32.ofNat c9) + (-1 : Int32)), vi (Int32.ofNat ql.length)]) rfl (XS.goto X8.here hx rfl (pc0 := 291) (pc' := 197) rfl (D d20_291) (by decide) (by decide) k))))) ?_
                  have rw38 : ((Int32.ofNat c9) + (-1 : Int32)) = (own_cl c9) := own_cl_step c9 (by omega)
                  rw [rw38]
                  exact ih (by omega)  f (.val (.int (Int32.ofNat ql.length))) _ _ T8 _ _ (Or.inr ⟨_, rfl⟩) (by omega) hcz hsz hr8 X8 N8 Z8 K8 G8_0 G8_1 G8_2 G8_3 G8_4 G8_5 G8_6 G8_7 G8_8 
                | succ d ihn =>
                  intro j hj f cz sz T8 L8 rs8 hf hfk hcz hsz hr8 X8 N8 Z8 K8 G8_0 G8_1 G8_2 G8_3 G8_4 G8_5 G8_6 G8_7 G8_8
                  have hel := own_eqn_le ql j c9
                  have Jj := own_j j (by omega)
                  have Jf := own_j f (by omega)
                  refine gb T8 m 232 #[vr a, vr b9, vr b18, vr b23, vi mask, vi (Int32.ofNat kk), vr b35, vi (Int32.ofNat f), vi (Int32.ofNat c9), vi (Int32.ofNat j)] [(.ref b35), (.int (Int32.ofNat f))] (fun u k => XS.iload X8.here hx rfl (D d20_221) rfl (XS.iload X8.here hx rfl (D d20_223) rfl (XS.icmpNo X8.here hx rfl (D d20_225) rfl (XT.ii_ge_f ((own_lt (by omega) (by omega)).mpr (by omega))) (XS.iload X8.here hx rfl (D d20_228) rfl (XS.aload X8.here hx rfl (D d20_230) rfl rfl k))))) ?_
                  obtain ⟨cl39, Ar39, aq39, aS39, aM39, aH39, aG39⟩ := id G8_8
                  refine gb T8 m 233 #[vr a, vr b9, vr b18, vr b23, vi mask, vi (Int32.ofNat kk), vr b35, vi (Int32.ofNat f), vi (Int32.ofNat c9), vi (Int32.ofNat j)] [(.int cl39.slots.size.toInt32), (.int (Int32.ofNat f))] (fun u k => X8.arraylength hx Ar39.1 (State.isArrayOf_alike hZ.alike Ar39.2.1) (g := (mkF m 232 #[vr a, vr b9, vr b18, vr b23, vi mask, vi (Int32.ofNat kk), vr b35, vi (Int32.ofNat f), vi (Int32.ofNat c9), vi (Int32.ofNat j)] [(.ref b35), (.int (Int32.ofNat f))])) rfl rfl (D d20_232) _ k) ?_
                  rw [len_of aS39 aM39]
                  have hes := own_eqn_step (ql := ql) (j := j) c9 (by omega)
                  by_cases hfl : (Int32.ofNat f) < (Int32.ofNat kk)
                  · refine gb T8 m 236 #[vr a, vr b9, vr b18, vr b23, vi mask, vi (Int32.ofNat kk), vr b35, vi (Int32.ofNat f), vi (Int32.ofNat c9), vi (Int32.ofNat j)] [] (fun u k => XS.icmpNo X8.here hx rfl (D d20_233) rfl (XT.ii_ge_f hfl) k) ?_
                    have hfl := (own_lt (by omega) (by omega)).mp hfl
                    have hqm := hP9.2.2.2.2.2.2 (ql.getD j 0) (by rw [List.getD_eq_getElem?_getD, List.getElem?_eq_getElem (by omega)]; exact List.getElem_mem _)
                    have hqe := own_at_eq hqm.1 hqm.2.1 (c := c9) (by omega)
                    refine gb T8 m 239 #[vr a, vr b9, vr b18, vr b23, vi mask, vi (Int32.ofNat kk), vr b35, vi (Int32.ofNat f), vi (Int32.ofNat c9), vi (Int32.ofNat j)] [(.int (Int32.ofNat j)), (.ref b23)] (fun u k => XS.aloadN X8.here hx rfl (D d20_236) rfl rfl (XS.iload X8.here hx rfl (D d20_237) rfl k)) ?_
                    obtain ⟨cl41, Ar41, aq41, aS41, aM41, aH41, aG41⟩ := id G8_7
                    refine gb T8 m 242 #[vr a, vr b9, vr b18, vr b23, vi mask, vi (Int32.ofNat kk), vr b35, vi (Int32.ofNat f), vi (Int32.ofNat c9), vi (Int32.ofNat j)] [(.int (Int32.ofNat c9)), (.int (ql.getD j 0))] (fun u k => X8.iaload hx (j := (Int32.ofNat j)) (v := (.int (ql.getD j 0))) Ar41.1 (State.isArrayOf_alike hZ.alike Ar41.2.1) Ar41.2.2 (inb_of aS41 ⟨Jj.1, (own_lt (by omega) (by omega)).mpr (by omega)⟩) (Has.at aH41 (inb_of aS41 ⟨Jj.1, (own_lt (by omega) (by omega)).mpr (by omega)⟩) (by rw [Jj.2.1]; exact hP9.2.2.2.2.2.1 j (by omega))) (g := (mkF m 239 #[vr a, vr b9, vr b18, vr b23, vi mask, vi (Int32.ofNat kk), vr b35, vi (Int32.ofNat f), vi (Int32.ofNat c9), vi (Int32.ofNat j)] [(.int (Int32.ofNat j)), (.ref b23)])) rfl rfl (D d20_239) _ (XS.iload X8.here hx rfl (D d20_240) rfl k)) ?_
                    by_cases hqc : (ql.getD j 0) = (Int32.ofNat c9)
                    · refine gb T8 m 245 #[vr a, vr b9, vr b18, vr b23, vi mask, vi (Int32.ofNat kk), vr b35, vi (Int32.ofNat f), vi (Int32.ofNat c9), vi (Int32.ofNat j)] [] (fun u k => XS.icmpNo X8.here hx rfl (D d20_242) rfl (XT.ii_ne_f hqc) k) ?_
                      rw [if_pos (hqe.mp hqc)] at hes
                      obtain ⟨pj, hpj, hp0, hp1⟩ := hP9.2.2.2.2.1 j (by omega)
                      refine gb T8 m 255 #[vr a, vr b9, vr b18, vr b23, vi mask, vi (Int32.ofNat kk), vr b35, vi ((Int32.ofNat f) + (1 : Int32)), vi (Int32.ofNat c9), vi (Int32.ofNat j)] [(.int (Int32.ofNat j)), (.ref b18), (.int (Int32.ofNat f)), (.ref b35)] (fun u k => XS.aload X8.here hx rfl (D d20_245) rfl rfl (XS.iload X8.here hx rfl (D d20_247) rfl (XT.iincV X8.here hx rfl (1 : Int32) (D d20_249) (by decide) rfl (l' := #[vr a, vr b9, vr b18, vr b23, vi mask, vi (Int32.ofNat kk), vr b35, vi ((Int32.ofNat f) + (1 : Int32)), vi (Int32.ofNat c9), vi (Int32.ofNat j)]) rfl (XS.aloadN X8.here hx rfl (D d20_252) rfl rfl (XS.iload X8.here hx rfl (D d20_253) rfl k))))) ?_
                      have rw43 : ((Int32.ofNat f) + (1 : Int32)) = (Int32.ofNat (f + 1)) := Jf.2.2
                      rw [rw43]
                      obtain ⟨cl44, Ar44, aq44, aS44, aM44, aH44, aG44⟩ := id G8_6
                      refine gb T8 m 257 #[vr a, vr b9, vr b18, vr b23, vi mask, vi (Int32.ofNat kk), vr b35, vi (Int32.ofNat (f + 1)), vi (Int32.ofNat c9), vi (Int32.ofNat j)] [(.ref a), (.int pj), (.int (Int32.ofNat f)), (.ref b35)] (fun u k => X8.iaload hx (j := (Int32.ofNat j)) (v := (.int pj)) Ar44.1 (State.isArrayOf_alike hZ.alike Ar44.2.1) Ar44.2.2 (inb_of aS44 ⟨Jj.1, (own_lt (by omega) (by omega)).mpr (by omega)⟩) (Has.at aH44 (inb_of aS44 ⟨Jj.1, (own_lt (by omega) (by omega)).mpr (by omega)⟩) (by rw [Jj.2.1]; exact hpj)) (g := (mkF m 255 #[vr a, vr b9, vr b18, vr b23, vi mask, vi (Int32.ofNat kk), vr b35, vi (Int32.ofNat (f + 1)), vi (Int32.ofNat c9), vi (Int32.ofNat j)] [(.int (Int32.ofNat j)), (.ref b18), (.int (Int32.ofNat f)), (.ref b35)])) rfl rfl (D d20_255) _ (XS.aloadN X8.here hx rfl (D d20_256) rfl rfl k)) ?_
                      obtain ⟨T45, X45, e45, st45⟩ := getF X8 hx hZ hown (host := "") (Or.inl (H 109 rfl)) Via.refl rfl G8_3 (g := (mkF m 257 #[vr a, vr b9, vr b18, vr b23, vi mask, vi (Int32.ofNat kk), vr b35, vi (Int32.ofNat (f + 1)), vi (Int32.ofNat c9), vi (Int32.ofNat j)] [(.ref a), (.int pj), (.int (Int32.ofNat f)), (.ref b35)])) rfl rfl (D d20_257)
                      refine gb T45 m 260 #[vr a, vr b9, vr b18, vr b23, vi mask, vi (Int32.ofNat kk), vr b35, vi (Int32.ofNat (f + 1)), vi (Int32.ofNat c9), vi (Int32.ofNat j)] [(.ref q), (.int pj), (.int (Int32.ofNat f)), (.ref b35)] st45 ?_
                      clear st45
                      obtain ⟨cq47, kq47, qa47, qb47, qc47⟩ := isOf hZ e45 G8_1
                      obtain ⟨_, _, ⟨T46, L46, k46, n46⟩, -, X46, ⟨Lc46, hQ46, l46, y46, z46⟩, st46⟩ := X45.virtualBack hx (y := mn24) (z := mn24) hown (mvT hZ (H 249 rfl)) (mvT hZ (H 250 rfl)) (notFace_of_selects (args := #[]) (mvT hZ (H 252 rfl))) (mvT hZ (H 252 rfl)) (mvT hZ (H 251 rfl)) (by decide) (backOf (W := 3) (own_anIndex l Z a0 hw [] q ix T8.heap n0 Z8 G8_4) hZ (H 253 rfl) (H 90 rfl) (by decide) (by decide)) qa47 qc47 (g := (mkF m 260 #[vr a, vr b9, vr b18, vr b23, vi mask, vi (Int32.ofNat kk), vr b35, vi (Int32.ofNat (f + 1)), vi (Int32.ofNat c9), vi (Int32.ofNat j)] [(.ref q), (.int pj), (.int (Int32.ofNat f)), (.ref b35)])) rfl (by rw [hml]; rfl) (Steps.refl _) (argsL := []) (rest := [(.int pj), (.int (Int32.ofNat f)), (.ref b35)]) (lenOf own_pd21 rfl) rfl (own_w0 rfl) (D d20_260) (fun _ _ => ⟨rfl, e45, (by show cz + 0 ≤ 9; omega), (by show sz + 0 ≤ 1059; omega)⟩)
                      dsimp only [Pt.U, Pt.locs, Pt.cells, Pt.slots] at X46 l46 y46 z46 st46 hQ46
                      subst l46; rw [y46, z46] at X46
                      obtain ⟨rfl, N46, e46⟩ := hQ46
                      have NA46 := Fr.app N8 N46
                      refine gb T46 m 263 #[vr a, vr b9, vr b18, vr b23, vi mask, vi (Int32.ofNat kk), vr b35, vi (Int32.ofNat (f + 1)), vi (Int32.ofNat c9), vi (Int32.ofNat j)] [(.int ix), (.int pj), (.int (Int32.ofNat f)), (.ref b35)] (fun u k => st46.trans k) ?_
                      clear st46
                      by_cases hpi : pj = ix
                      · refine gb T46 m 267 #[vr a, vr b9, vr b18, vr b23, vi mask, vi (Int32.ofNat kk), vr b35, vi (Int32.ofNat (f + 1)), vi (Int32.ofNat c9), vi (Int32.ofNat j)] [(.ref a), (.int (Int32.ofNat f)), (.ref b35)] (fun u k => XS.icmpNo X46.here hx rfl (D d20_263) rfl (XT.ii_ne_f hpi) (XS.aloadN X46.here hx rfl (D d20_266) rfl rfl k)) ?_
                        obtain ⟨T49, X49, e49, st49⟩ := getF X46 hx hZ hown (host := "") (Or.inl (H 109 rfl)) Via.refl e46 G8_3 (g := (mkF m 267 #[vr a, vr b9, vr b18, vr b23, vi mask, vi (Int32.ofNat kk), vr b35, vi (Int32.ofNat (f + 1)), vi (Int32.ofNat c9), vi (Int32.ofNat j)] [(.ref a), (.int (Int32.ofNat f)), (.ref b35)])) rfl rfl (D d20_267)
                        refine gb T49 m 270 #[vr a, vr b9, vr b18, vr b23, vi mask, vi (Int32.ofNat kk), vr b35, vi (Int32.ofNat (f + 1)), vi (Int32.ofNat c9), vi (Int32.ofNat j)] [(.ref q), (.int (Int32.ofNat f)), (.ref b35)] st49 ?_
                        clear st49
                        refine gb T49 m 281 #[vr a, vr b9, vr b18, vr b23, vi mask, vi (Int32.ofNat kk), vr b35, vi (Int32.ofNat (f + 1)), vi (Int32.ofNat c9), vi (Int32.ofNat j)] [(.ref q), (.int (Int32.ofNat f)), (.ref b35)] (fun u k => XS.goto X49.here hx rfl (pc0 := 270) (pc' := 281) rfl (D d20_270) (by decide) (by decide) k) ?_
                        obtain ⟨cl50, Ar50, aq50, aS50, aM50, aH50, aG50⟩ := id G8_8
                        obtain ⟨T51, h51, X51, e51, W51, st51⟩ := stR X49 hx hZ e49 Ar50 (j := (Int32.ofNat f)) (inb_of aS50 ⟨Jf.1, (own_lt (by omega) (by omega)).mpr (by omega)⟩) rfl (Sto.ofV Ar50 aq50 OV35 (Ins.self G8_1)) (g := (mkF m 281 #[vr a, vr b9, vr b18, vr b23, vi mask, vi (Int32.ofNat kk), vr b35, vi (Int32.ofNat (f + 1)), vi (Int32.ofNat c9), vi (Int32.ofNat j)] [(.ref q), (.int (Int32.ofNat f)), (.ref b35)])) rfl rfl (D d20_281)
                        have Z51 : n0 ≤ h51.size := Nat.le_trans Z8 (Keep.of_wr W51).1
                        have K51 := K8.wr W51 (Or.inr sz35)
                        have N51 := Fr.snoc X51 NA46 gb35
                        have V51 : Arv Z h51 b35 k35 (.object "backstitch/Needle$Anchor") (Int32.ofNat kk) (rs8.set f (.ref q)) .null := Arv.set Ar50 aq50 aS50 aM50 aH50 aG50 rfl W51 (f) Jf.2.1 (by rw [hr8]; omega)
                        refine gb T51 m 282 #[vr a, vr b9, vr b18, vr b23, vi mask, vi (Int32.ofNat kk), vr b35, vi (Int32.ofNat (f + 1)), vi (Int32.ofNat c9), vi (Int32.ofNat j)] [] st51 ?_
                        clear st51
                        refine gb T51 m 221 #[vr a, vr b9, vr b18, vr b23, vi mask, vi (Int32.ofNat kk), vr b35, vi (Int32.ofNat (f + 1)), vi (Int32.ofNat c9), vi ((Int32.ofNat j) + (1 : Int32))] [] (fun u k => XT.iincV X51.here hx rfl (1 : Int32) (D d20_282) (by decide) rfl (l' := #[vr a, vr b9, vr b18, vr b23, vi mask, vi (Int32.ofNat kk), vr b35, vi (Int32.ofNat (f + 1)), vi (Int32.ofNat c9), vi ((Int32.ofNat j) + (1 : Int32))]) rfl (XS.goto X51.here hx rfl (pc0 := 285) (pc' := 221) rfl (D d20_285) (by decide) (by decide) k)) ?_
                        have rw52 : ((Int32.ofNat j) + (1 : Int32)) = (Int32.ofNat (j + 1)) := Jj.2.2
                        rw [rw52]
                        have f53 := (G8_0.wr W51)
                        have f54 := (G8_1.wr W51)
                        have f55 := (G8_2.other W51 (Or.inl ne_a_b35))
                        have f56 := (G8_3.other W51 (Or.inl ne_a_b35))
                        have f57 := (G8_4.other W51 (Or.inl ne_q_b35))
                        have f58 := (G8_5.other W51 ne_b_b35)
                        have f59 := (G8_6.other W51 ne_b18_b35)
                        have f60 := (G8_7.other W51 ne_b23_b35)
                        subst e51
                        exact ihn (j + 1) (by omega) (f + 1) _ _ T51 _ _ (by omega) (by omega) (by omega) (by omega) ((List.length_set ..).trans hr8) X51 N51 Z51 K51 f53 f54 f55 f56 f57 f58 f59 f60 V51 
                      · refine gb T46 m 277 #[vr a, vr b9, vr b18, vr b23, vi mask, vi (Int32.ofNat kk), vr b35, vi (Int32.ofNat (f + 1)), vi (Int32.ofNat c9), vi (Int32.ofNat j)] [(.int (Int32.ofNat j)), (.ref b18), (.ref a), (.int (Int32.ofNat f)), (.ref b35)] (fun u k => XS.icmpYes X46.here hx rfl (pc0 := 263) (pc' := 273) rfl (D d20_263) rfl (XT.ii_ne_t hpi) (by decide) (by decide) (XS.aloadN X46.here hx rfl (D d20_273) rfl rfl (XS.aloadN X46.here hx rfl (D d20_274) rfl rfl (XS.iload X46.here hx rfl (D d20_275) rfl k)))) ?_
                        obtain ⟨cl61, Ar61, aq61, aS61, aM61, aH61, aG61⟩ := id G8_6
                        refine gb T46 m 278 #[vr a, vr b9, vr b18, vr b23, vi mask, vi (Int32.ofNat kk), vr b35, vi (Int32.ofNat (f + 1)), vi (Int32.ofNat c9), vi (Int32.ofNat j)] [(.int pj), (.ref a), (.int (Int32.ofNat f)), (.ref b35)] (fun u k => X46.iaload hx (j := (Int32.ofNat j)) (v := (.int pj)) (by rw [e46]; exact Ar61.1) (State.isArrayOf_alike hZ.alike Ar61.2.1) Ar61.2.2 (inb_of aS61 ⟨Jj.1, (own_lt (by omega) (by omega)).mpr (by omega)⟩) (Has.at aH61 (inb_of aS61 ⟨Jj.1, (own_lt (by omega) (by omega)).mpr (by omega)⟩) (by rw [Jj.2.1]; exact hpj)) (g := (mkF m 277 #[vr a, vr b9, vr b18, vr b23, vi mask, vi (Int32.ofNat kk), vr b35, vi (Int32.ofNat (f + 1)), vi (Int32.ofNat c9), vi (Int32.ofNat j)] [(.int (Int32.ofNat j)), (.ref b18), (.ref a), (.int (Int32.ofNat f)), (.ref b35)])) rfl rfl (D d20_277) _ k) ?_
                        obtain ⟨cq63, qa63, qb63⟩ := G8_0.cell
                        obtain ⟨_, _, ⟨T62, L62, k62, n62⟩, -, X62, ⟨Lc62, hQ62, l62, y62, z62⟩, st62⟩ := own_priv X46 hx (y := mn25) hown (mvT hZ (H 84 rfl)) (mvT hZ (H 85 rfl)) (mvT hZ (H 44 rfl)) (Cond.privateMethod_at (mvP hZ (H 86 rfl) (args := #[]))) (mvT hZ (H 87 rfl)) (by decide) (backOf (W := 2) (own_at_ l Z a0 hw [] a pj b nz us kb T8.heap n0 Z8 G8_0 G8_2 G8_5 hU hnz (Or.inr ⟨hp0, hp1⟩)) hZ (H 87 rfl) (H 41 rfl) (by decide) (by decide)) (g := (mkF m 278 #[vr a, vr b9, vr b18, vr b23, vi mask, vi (Int32.ofNat kk), vr b35, vi (Int32.ofNat (f + 1)), vi (Int32.ofNat c9), vi (Int32.ofNat j)] [(.int pj), (.ref a), (.int (Int32.ofNat f)), (.ref b35)])) rfl (by rw [hml]; rfl) (a := a) (by rw [e46]; exact qa63) qb63 (argsL := [(.int pj)]) (rest := [(.int (Int32.ofNat f)), (.ref b35)]) (lenOf own_pd22 rfl) rfl (own_w0 rfl) (D d20_278) (fun _ _ => ⟨rfl, e46, (by show (cz + 0) + 1 ≤ 9; omega), (by show (sz + 0) + 4 ≤ 1059; omega)⟩)
                        dsimp only [Pt.U, Pt.locs, Pt.cells, Pt.slots] at X62 l62 y62 z62 st62 hQ62
                        subst l62; rw [y62, z62] at X62
                        obtain ⟨q62, cv62, rfl, N62, Kc62, gb_q62, szc_q62, P62_0, P62_1, P62_2, P62_3⟩ := hQ62
                        have NA62 := Fr.app NA46 N62
                        have Z62 : n0 ≤ T62.heap.size := Nat.le_trans Z8 Kc62.1
                        have K62 := K8.trans Kc62 all0
                        have sz_q62 : h0.size ≤ q62 := Nat.le_trans K8.1 szc_q62
                        have ne_a_q62 : a ≠ q62 := Nat.ne_of_lt (Nat.lt_of_lt_of_le G8_0.lt szc_q62)
                        have ne_q_q62 : q ≠ q62 := Nat.ne_of_lt (Nat.lt_of_lt_of_le G8_1.lt szc_q62)
                        have ne_b_q62 : b ≠ q62 := Nat.ne_of_lt (Nat.lt_of_lt_of_le G8_5.lt szc_q62)
                        have ne_b18_q62 : b18 ≠ q62 := Nat.ne_of_lt (Nat.lt_of_lt_of_le G8_6.lt szc_q62)
                        have ne_b23_q62 : b23 ≠ q62 := Nat.ne_of_lt (Nat.lt_of_lt_of_le G8_7.lt szc_q62)
                        have ne_b35_q62 : b35 ≠ q62 := Nat.ne_of_lt (Nat.lt_of_lt_of_le G8_8.lt szc_q62)
                        refine gb T62 m 281 #[vr a, vr b9, vr b18, vr b23, vi mask, vi (Int32.ofNat kk), vr b35, vi (Int32.ofNat (f + 1)), vi (Int32.ofNat c9), vi (Int32.ofNat j)] [(.ref q62), (.int (Int32.ofNat f)), (.ref b35)] (fun u k => st62.trans k) ?_
                        clear st62
                        have f64 := (G8_8.keep Kc62 nin0)
                        obtain ⟨cl65, Ar65, aq65, aS65, aM65, aH65, aG65⟩ := id f64
                        obtain ⟨T66, h66, X66, e66, W66, st66⟩ := stR X62 hx hZ rfl Ar65 (j := (Int32.ofNat f)) (inb_of aS65 ⟨Jf.1, (own_lt (by omega) (by omega)).mpr (by omega)⟩) rfl (Sto.ofV Ar65 aq65 OV35 (Ins.self P62_0)) (g := (mkF m 281 #[vr a, vr b9, vr b18, vr b23, vi mask, vi (Int32.ofNat kk), vr b35, vi (Int32.ofNat (f + 1)), vi (Int32.ofNat c9), vi (Int32.ofNat j)] [(.ref q62), (.int (Int32.ofNat f)), (.ref b35)])) rfl rfl (D d20_281)
                        have Z66 : n0 ≤ h66.size := Nat.le_trans Z62 (Keep.of_wr W66).1
                        have K66 := K62.wr W66 (Or.inr sz35)
                        have N66 := Fr.snoc X66 NA62 gb35
                        have V66 : Arv Z h66 b35 k35 (.object "backstitch/Needle$Anchor") (Int32.ofNat kk) (rs8.set f (.ref q62)) .null := Arv.set Ar65 aq65 aS65 aM65 aH65 aG65 rfl W66 (f) Jf.2.1 (by rw [hr8]; omega)
                        refine gb T66 m 282 #[vr a, vr b9, vr b18, vr b23, vi mask, vi (Int32.ofNat kk), vr b35, vi (Int32.ofNat (f + 1)), vi (Int32.ofNat c9), vi (Int32.ofNat j)] [] st66 ?_
                        clear st66
                        refine gb T66 m 221 #[vr a, vr b9, vr b18, vr b23, vi mask, vi (Int32.ofNat kk), vr b35, vi (Int32.ofNat (f + 1)), vi (Int32.ofNat c9), vi ((Int32.ofNat j) + (1 : Int32))] [] (fun u k => XT.iincV X66.here hx rfl (1 : Int32) (D d20_282) (by decide) rfl (l' := #[vr a, vr b9, vr b18, vr b23, vi mask, vi (Int32.ofNat kk), vr b35, vi (Int32.ofNat (f + 1)), vi (Int32.ofNat c9), vi ((Int32.ofNat j) + (1 : Int32))]) rfl (XS.goto X66.here hx rfl (pc0 := 285) (pc' := 221) rfl (D d20_285) (by decide) (by decide) k)) ?_
                        have rw67 : ((Int32.ofNat j) + (1 : Int32)) = (Int32.ofNat (j + 1)) := Jj.2.2
                        rw [rw67]
                        have f68 := ((G8_0.keep Kc62).wr W66)
                        have f69 := ((G8_1.keep Kc62).wr W66)
                        have f70 := ((G8_2.keep Kc62 nin0).other W66 (Or.inl ne_a_b35))
                        have f71 := ((G8_3.keep Kc62 nin0).other W66 (Or.inl ne_a_b35))
                        have f72 := ((G8_4.keep Kc62 nin0).other W66 (Or.inl ne_q_b35))
                        have f73 := ((G8_5.keep Kc62 nin0).other W66 ne_b_b35)
                        have f74 := ((G8_6.keep Kc62 nin0).other W66 ne_b18_b35)
                        have f75 := ((G8_7.keep Kc62 nin0).other W66 ne_b23_b35)
                        subst e66
                        exact ihn (j + 1) (by omega) (f + 1) _ _ T66 _ _ (by omega) (by omega) (by omega) (by omega) ((List.length_set ..).trans hr8) X66 N66 Z66 K66 f68 f69 f70 f71 f72 f73 f74 f75 V66 
                    · refine gb T8 m 282 #[vr a, vr b9, vr b18, vr b23, vi mask, vi (Int32.ofNat kk), vr b35, vi (Int32.ofNat f), vi (Int32.ofNat c9), vi (Int32.ofNat j)] [] (fun u k => XS.icmpYes X8.here hx rfl (pc0 := 242) (pc' := 282) rfl (D d20_242) rfl (XT.ii_ne_t hqc) (by decide) (by decide) k) ?_
                      rw [if_neg (fun q => hqc (hqe.mpr q))] at hes
                      refine gb T8 m 221 #[vr a, vr b9, vr b18, vr b23, vi mask, vi (Int32.ofNat kk), vr b35, vi (Int32.ofNat f), vi (Int32.ofNat c9), vi ((Int32.ofNat j) + (1 : Int32))] [] (fun u k => XT.iincV X8.here hx rfl (1 : Int32) (D d20_282) (by decide) rfl (l' := #[vr a, vr b9, vr b18, vr b23, vi mask, vi (Int32.ofNat kk), vr b35, vi (Int32.ofNat f), vi (Int32.ofNat c9), vi ((Int32.ofNat j) + (1 : Int32))]) rfl (XS.goto X8.here hx rfl (pc0 := 285) (pc' := 221) rfl (D d20_285) (by decide) (by decide) k)) ?_
                      have rw76 : ((Int32.ofNat j) + (1 : Int32)) = (Int32.ofNat (j + 1)) := Jj.2.2
                      rw [rw76]
                      exact ihn (j + 1) (by omega) f _ _ T8 _ _ (by omega) (by omega) (by omega) (by omega) hr8 X8 N8 Z8 K8 G8_0 G8_1 G8_2 G8_3 G8_4 G8_5 G8_6 G8_7 G8_8 
                  · refine gb T8 m 288 #[vr a, vr b9, vr b18, vr b23, vi mask, vi (Int32.ofNat kk), vr b35, vi (Int32.ofNat f), vi (Int32.ofNat c9), vi (Int32.ofNat j)] [] (fun u k => XS.icmpYes X8.here hx rfl (pc0 := 233) (pc' := 288) rfl (D d20_233) rfl (XT.ii_ge_t hfl) (by decide) (by decide) k) ?_
                    have hfl : ¬ f < kk := fun q => hfl ((own_lt (by omega) (by omega)).mpr q)
                    refine gb T8 m 197 #[vr a, vr b9, vr b18, vr b23, vi mask, vi (Int32.ofNat kk), vr b35, vi (Int32.ofNat f), vi ((Int32.ofNat c9) + (-1 : Int32)), vi (Int32.ofNat j)] [] (fun u k => XT.iincV X8.here hx rfl (-1 : Int32) (D d20_288) (by decide) rfl (l' := #[vr a, vr b9, vr b18, vr b23, vi mask, vi (Int32.ofNat kk), vr b35, vi (Int32.ofNat f), vi ((Int32.ofNat c9) + (-1 : Int32)), vi (Int32.ofNat j)]) rfl (XS.goto X8.here hx rfl (pc0 := 291) (pc' := 197) rfl (D d20_291) (by decide) (by decide) k)) ?_
                    have rw77 : ((Int32.ofNat c9) + (-1 : Int32)) = (own_cl c9) := own_cl_step c9 (by omega)
                    rw [rw77]
                    exact ih (by omega)  f (.val (.int (Int32.ofNat j))) _ _ T8 _ _ (Or.inr ⟨_, rfl⟩) (by omega) hcz hsz hr8 X8 N8 Z8 K8 G8_0 G8_1 G8_2 G8_3 G8_4 G8_5 G8_6 G8_7 G8_8 
              intro hq f o9 cz sz T8 L8 rs8 ho hf hcz hsz hr8 X8 N8 Z8 K8 G8_0 G8_1 G8_2 G8_3 G8_4 G8_5 G8_6 G8_7 G8_8
              show Go p e below (own_F s below (Q_own_lc Z a b q cv ix nz us kb rA kA ra h0 n0) rm18.cells rm18.slots) (T8.setTop (mkF m 197 #[vr a, vr b9, vr b18, vr b23, vi mask, vi (Int32.ofNat kk), vr b35, vi (Int32.ofNat f), vi (Int32.ofNat c9), o9] []))
              have hfk := own_cnt_le ql (c9 + 1)
              refine gb T8 m 201 #[vr a, vr b9, vr b18, vr b23, vi mask, vi (Int32.ofNat kk), vr b35, vi (Int32.ofNat f), vi (Int32.ofNat c9), o9] [(.ref b35), (.int (Int32.ofNat f))] (fun u k => XS.iload X8.here hx rfl (D d20_197) rfl (XS.aload X8.here hx rfl (D d20_199) rfl rfl k)) ?_
              obtain ⟨cl78, Ar78, aq78, aS78, aM78, aH78, aG78⟩ := id G8_8
              refine gb T8 m 202 #[vr a, vr b9, vr b18, vr b23, vi mask, vi (Int32.ofNat kk), vr b35, vi (Int32.ofNat f), vi (Int32.ofNat c9), o9] [(.int cl78.slots.size.toInt32), (.int (Int32.ofNat f))] (fun u k => X8.arraylength hx Ar78.1 (State.isArrayOf_alike hZ.alike Ar78.2.1) (g := (mkF m 201 #[vr a, vr b9, vr b18, vr b23, vi mask, vi (Int32.ofNat kk), vr b35, vi (Int32.ofNat f), vi (Int32.ofNat c9), o9] [(.ref b35), (.int (Int32.ofNat f))])) rfl rfl (D d20_201) _ k) ?_
              rw [len_of aS78 aM78]
              by_cases hfl : (Int32.ofNat f) < (Int32.ofNat kk)
              · refine gb T8 m 212 #[vr a, vr b9, vr b18, vr b23, vi mask, vi (Int32.ofNat kk), vr b35, vi (Int32.ofNat f), vi (Int32.ofNat c9), o9] [(.int (mask &&& ((1 : Int32) <<< ((Int32.ofNat c9) &&& 31))))] (fun u k => XS.icmpNo X8.here hx rfl (D d20_202) rfl (XT.ii_ge_f hfl) (XS.iload X8.here hx rfl (D d20_205) rfl (XT.iconstV X8.here hx rfl (1 : Int32) (D d20_207) (by decide) (XS.iload X8.here hx rfl (D d20_208) rfl (XT.ishl X8.here hx rfl (D d20_210) rfl (XS.iand X8.here hx rfl (D d20_211) rfl k)))))) ?_
                by_cases hm0 : (mask &&& ((1 : Int32) <<< ((Int32.ofNat c9) &&& 31))) = (0 : Int32)
                · refine gb T8 m 197 #[vr a, vr b9, vr b18, vr b23, vi mask, vi (Int32.ofNat kk), vr b35, vi (Int32.ofNat f), vi ((Int32.ofNat c9) + (-1 : Int32)), o9] [] (fun u k => XS.ifNo X8.here hx rfl (D d20_212) rfl (XT.i0_ne_f hm0) (XS.goto X8.here hx rfl (pc0 := 215) (pc' := 288) rfl (D d20_215) (by decide) (by decide) (XT.iincV X8.here hx rfl (-1 : Int32) (D d20_288) (by decide) rfl (l' := #[vr a, vr b9, vr b18, vr b23, vi mask, vi (Int32.ofNat kk), vr b35, vi (Int32.ofNat f), vi ((Int32.ofNat c9) + (-1 : Int32)), o9]) rfl (XS.goto X8.here hx rfl (pc0 := 291) (pc' := 197) rfl (D d20_291) (by decide) (by decide) k)))) ?_
                  have rw81 : ((Int32.ofNat c9) + (-1 : Int32)) = (own_cl c9) := own_cl_step c9 (by omega)
                  rw [rw81]
                  exact ih (by omega)  f o9 _ _ T8 _ _ ho (by rw [own_nobit hP9 (by omega) hm0]; exact hf) hcz hsz hr8 X8 N8 Z8 K8 G8_0 G8_1 G8_2 G8_3 G8_4 G8_5 G8_6 G8_7 G8_8 
                · refine gb T8 m 219 #[vr a, vr b9, vr b18, vr b23, vi mask, vi (Int32.ofNat kk), vr b35, vi (Int32.ofNat f), vi (Int32.ofNat c9), o9] [(.int 0)] (fun u k => XS.ifYes X8.here hx rfl (pc0 := 212) (pc' := 218) rfl (D d20_212) rfl (XT.i0_ne_t hm0) (by decide) (by decide) (XT.iconstV X8.here hx rfl (0 : Int32) (D d20_218) (by decide) k)) ?_
                  rcases ho with rfl | ⟨v9, rfl⟩
                  · refine gb T8 m 221 #[vr a, vr b9, vr b18, vr b23, vi mask, vi (Int32.ofNat kk), vr b35, vi (Int32.ofNat f), vi (Int32.ofNat c9), vi 0] [] (fun u k => XS.istore X8.here hx rfl (D d20_219) rfl (l' := #[vr a, vr b9, vr b18, vr b23, vi mask, vi (Int32.ofNat kk), vr b35, vi (Int32.ofNat f), vi (Int32.ofNat c9), vi 0]) rfl k) ?_
                    show Go p e below (own_F s below (Q_own_lc Z a b q cv ix nz us kb rA kA ra h0 n0) rm18.cells rm18.slots) (T8.setTop (mkF m 221 #[vr a, vr b9, vr b18, vr b23, vi mask, vi (Int32.ofNat kk), vr b35, vi (Int32.ofNat f), vi (Int32.ofNat c9), vi (Int32.ofNat 0)] []))
                    exact inner hq kk 0 (by omega) f _ _ T8 _ _ (by rw [own_eqn_z]; omega) (by omega) hcz hsz hr8 X8 N8 Z8 K8 G8_0 G8_1 G8_2 G8_3 G8_4 G8_5 G8_6 G8_7 G8_8 
                  · refine gb T8 m 221 #[vr a, vr b9, vr b18, vr b23, vi mask, vi (Int32.ofNat kk), vr b35, vi (Int32.ofNat f), vi (Int32.ofNat c9), vi 0] [] (fun u k => XS.istore X8.here hx rfl (D d20_219) rfl (l' := #[vr a, vr b9, vr b18, vr b23, vi mask, vi (Int32.ofNat kk), vr b35, vi (Int32.ofNat f), vi (Int32.ofNat c9), vi 0]) rfl k) ?_
                    show Go p e below (own_F s below (Q_own_lc Z a b q cv ix nz us kb rA kA ra h0 n0) rm18.cells rm18.slots) (T8.setTop (mkF m 221 #[vr a, vr b9, vr b18, vr b23, vi mask, vi (Int32.ofNat kk), vr b35, vi (Int32.ofNat f), vi (Int32.ofNat c9), vi (Int32.ofNat 0)] []))
                    exact inner hq kk 0 (by omega) f _ _ T8 _ _ (by rw [own_eqn_z]; omega) (by omega) hcz hsz hr8 X8 N8 Z8 K8 G8_0 G8_1 G8_2 G8_3 G8_4 G8_5 G8_6 G8_7 G8_8 
              · refine gb T8 m 296 #[vr a, vr b9, vr b18, vr b23, vi mask, vi (Int32.ofNat kk), vr b35, vi (Int32.ofNat f), vi (Int32.ofNat c9), o9] [(.ref b35)] (fun u k => XS.icmpYes X8.here hx rfl (pc0 := 202) (pc' := 294) rfl (D d20_202) rfl (XT.ii_ge_t hfl) (by decide) (by decide) (XS.aload X8.here hx rfl (D d20_294) rfl rfl k)) ?_
                obtain ⟨fs, hr, hrun, hended, hW, hsame⟩ := X8.leave (v := some (.ref b35)) (fun h => by rw [Bd.returns] at h; cases h)
                refine ⟨_, _, retOut X8 hx (t := (.array (.object "backstitch/Needle$Anchor"))) (i := .areturn) Bd.returns rfl (Or.inr (Or.inr (Or.inr (Or.inr ⟨rfl, rfl, rfl⟩)))) (D d20_296) hr, hrun, hended, _, _, rfl, ?_, ⟨_, rfl⟩, hW, hsame.mono (by show cz ≤ 9; omega) (by show sz ≤ 1059; omega)⟩
                show Q_own_lc Z a b q cv ix nz us kb rA kA ra h0 n0 _ T8.heap _
                exact ⟨b35, rfl, N8, K8, gb35, sz35⟩
          show Go p e below (own_F s below (Q_own_lc Z a b q cv ix nz us kb rA kA ra h0 n0) rm18.cells rm18.slots) (T36.setTop (mkF m 197 #[vr a, vr b9, vr b18, vr b23, vi mask, vi (Int32.ofNat kk), vr b35, vi (Int32.ofNat 0), vi (own_cl 29), un] []))
          have hc29 := own_cnt29 hP9
          have f82 := (G9_0.ext E35)
          have f83 := (G9_1.ext E35)
          have f84 := (G9_2.ext E35)
          have f85 := (G9_3.ext E35)
          have f86 := (G9_4.ext E35)
          have f87 := (G9_5.ext E35)
          have f88 := (G9_8.ext E35)
          have f89 := (G9_9.ext E35)
          subst e36
          exact outer 29 (by omega) 0 _ _ _ T36 _ _ (Or.inl rfl) hc29.symm (by omega) (by omega) (by simp : (([] : List Value) ++ List.replicate kk (.null : Value)).length = kk) X36 NA33 Z35 K35 f82 f83 f84 f85 f86 f87 f88 f89 V35 
      | succ d ih =>
        intro i hi kk mask ql v7 v8 T9 L9 ls9 ps9 cl9 hk hL9 hP9 X9 N9 Z9 K9 O9 G9_0 G9_1 G9_2 G9_3 G9_4 G9_5 G9_6 G9_7 G9_8 G9_9
        have Ji := own_j i (by omega)
        have Jk := own_j kk (by omega)
        obtain ⟨ci, hci, hcc⟩ := hU.2 i (by omega)
        have J6 := own_u6 hcc
        have J6n := own_nat J6.1 J6.2 (by decide : (1024 : Int32).toNatClampNeg = 1024)
        obtain ⟨sv, hsv⟩ := hL9.2 _ J6n
        refine gb T9 m 75 #[vr a, vr b9, vr b18, vr b23, vi mask, vi (Int32.ofNat kk), vi (Int32.ofNat i), vi v7, .val (.long v8), .second] [(.ref a), (.int (Int32.ofNat i))] (fun u k => XS.iload X9.here hx rfl (D d20_72) rfl (XS.aloadN X9.here hx rfl (D d20_74) rfl rfl k)) ?_
        obtain ⟨T90, X90, e90, st90⟩ := getF X9 hx hZ hown (host := "") (Or.inl (H 75 rfl)) Via.refl rfl G9_2 (g := (mkF m 75 #[vr a, vr b9, vr b18, vr b23, vi mask, vi (Int32.ofNat kk), vi (Int32.ofNat i), vi v7, .val (.long v8), .second] [(.ref a), (.int (Int32.ofNat i))])) rfl rfl (D d20_75)
        refine gb T90 m 78 #[vr a, vr b9, vr b18, vr b23, vi mask, vi (Int32.ofNat kk), vi (Int32.ofNat i), vi v7, .val (.long v8), .second] [(.ref b), (.int (Int32.ofNat i))] st90 ?_
        clear st90
        obtain ⟨cl91, Ar91, aq91, aS91, aM91, aH91, aG91⟩ := id G9_5
        refine gb T90 m 79 #[vr a, vr b9, vr b18, vr b23, vi mask, vi (Int32.ofNat kk), vi (Int32.ofNat i), vi v7, .val (.long v8), .second] [(.int cl91.slots.size.toInt32), (.int (Int32.ofNat i))] (fun u k => X90.arraylength hx (by rw [e90]; exact Ar91.1) (State.isArrayOf_alike hZ.alike Ar91.2.1) (g := (mkF m 78 #[vr a, vr b9, vr b18, vr b23, vi mask, vi (Int32.ofNat kk), vi (Int32.ofNat i), vi v7, .val (.long v8), .second] [(.ref b), (.int (Int32.ofNat i))])) rfl rfl (D d20_78) _ k) ?_
        rw [len_of aS91 aM91]
        refine gb T90 m 83 #[vr a, vr b9, vr b18, vr b23, vi mask, vi (Int32.ofNat kk), vi (Int32.ofNat i), vi v7, .val (.long v8), .second] [(.ref a)] (fun u k => XS.icmpNo X90.here hx rfl (D d20_79) rfl (XT.ii_ge_f ((own_lt (by omega) (by omega)).mpr (by omega))) (XS.aloadN X90.here hx rfl (D d20_82) rfl rfl k)) ?_
        obtain ⟨T92, X92, e92, st92⟩ := getF X90 hx hZ hown (host := "") (Or.inl (H 75 rfl)) Via.refl e90 G9_2 (g := (mkF m 83 #[vr a, vr b9, vr b18, vr b23, vi mask, vi (Int32.ofNat kk), vi (Int32.ofNat i), vi v7, .val (.long v8), .second] [(.ref a)])) rfl rfl (D d20_83)
        refine gb T92 m 86 #[vr a, vr b9, vr b18, vr b23, vi mask, vi (Int32.ofNat kk), vi (Int32.ofNat i), vi v7, .val (.long v8), .second] [(.ref b)] st92 ?_
        clear st92
        refine gb T92 m 88 #[vr a, vr b9, vr b18, vr b23, vi mask, vi (Int32.ofNat kk), vi (Int32.ofNat i), vi v7, .val (.long v8), .second] [(.int (Int32.ofNat i)), (.ref b)] (fun u k => XS.iload X92.here hx rfl (D d20_86) rfl k) ?_
        obtain ⟨cl93, Ar93, aq93, aS93, aM93, aH93, aG93⟩ := id G9_5
        refine gb T92 m 96 #[vr a, vr b9, vr b18, vr b23, vi mask, vi (Int32.ofNat kk), vi (Int32.ofNat i), vi (XT.ushr ci (6 : Int32)), .val (.long v8), .second] [(.ref a), (.long 1)] (fun u k => X92.caload hx (j := (Int32.ofNat i)) (v := (.int ci)) (by rw [e92]; exact Ar93.1) (State.isArrayOf_alike hZ.alike Ar93.2.1) Ar93.2.2 (inb_of aS93 ⟨Ji.1, (own_lt (by omega) (by omega)).mpr (by omega)⟩) (Has.at aH93 (inb_of aS93 ⟨Ji.1, (own_lt (by omega) (by omega)).mpr (by omega)⟩) (by rw [Ji.2.1]; exact hci)) (g := (mkF m 88 #[vr a, vr b9, vr b18, vr b23, vi mask, vi (Int32.ofNat kk), vi (Int32.ofNat i), vi v7, .val (.long v8), .second] [(.int (Int32.ofNat i)), (.ref b)])) rfl rfl (D d20_88) _ (XT.bipushV X92.here hx rfl (6 : Int32) (D d20_89) (by decide) (XT.iushr X92.here hx rfl (D d20_91) rfl (XS.istore X92.here hx rfl (D d20_92) rfl (l' := #[vr a, vr b9, vr b18, vr b23, vi mask, vi (Int32.ofNat kk), vi (Int32.ofNat i), vi (XT.ushr ci (6 : Int32)), .val (.long v8), .second]) rfl (XT.lconstV X92.here hx rfl (1 : Int64) (D d20_94) (by decide) (XS.aloadN X92.here hx rfl (D d20_95) rfl rfl k)))))) ?_
        obtain ⟨T94, X94, e94, st94⟩ := getF X92 hx hZ hown (host := "") (Or.inl (H 75 rfl)) Via.refl e92 G9_2 (g := (mkF m 96 #[vr a, vr b9, vr b18, vr b23, vi mask, vi (Int32.ofNat kk), vi (Int32.ofNat i), vi (XT.ushr ci (6 : Int32)), .val (.long v8), .second] [(.ref a), (.long 1)])) rfl rfl (D d20_96)
        refine gb T94 m 99 #[vr a, vr b9, vr b18, vr b23, vi mask, vi (Int32.ofNat kk), vi (Int32.ofNat i), vi (XT.ushr ci (6 : Int32)), .val (.long v8), .second] [(.ref b), (.long 1)] st94 ?_
        clear st94
        refine gb T94 m 101 #[vr a, vr b9, vr b18, vr b23, vi mask, vi (Int32.ofNat kk), vi (Int32.ofNat i), vi (XT.ushr ci (6 : Int32)), .val (.long v8), .second] [(.int (Int32.ofNat i)), (.ref b), (.long 1)] (fun u k => XS.iload X94.here hx rfl (D d20_99) rfl k) ?_
        obtain ⟨cl95, Ar95, aq95, aS95, aM95, aH95, aG95⟩ := id G9_5
        refine gb T94 m 108 #[vr a, vr b9, vr b18, vr b23, vi mask, vi (Int32.ofNat kk), vi (Int32.ofNat i), vi (XT.ushr ci (6 : Int32)), .val (.long ((1 : Int64) <<< (ci.toInt64 &&& 63))), .second] [(.int (XT.ushr ci (6 : Int32))), (.ref b9)] (fun u k => X94.caload hx (j := (Int32.ofNat i)) (v := (.int ci)) (by rw [e94]; exact Ar95.1) (State.isArrayOf_alike hZ.alike Ar95.2.1) Ar95.2.2 (inb_of aS95 ⟨Ji.1, (own_lt (by omega) (by omega)).mpr (by omega)⟩) (Has.at aH95 (inb_of aS95 ⟨Ji.1, (own_lt (by omega) (by omega)).mpr (by omega)⟩) (by rw [Ji.2.1]; exact hci)) (g := (mkF m 101 #[vr a, vr b9, vr b18, vr b23, vi mask, vi (Int32.ofNat kk), vi (Int32.ofNat i), vi (XT.ushr ci (6 : Int32)), .val (.long v8), .second] [(.int (Int32.ofNat i)), (.ref b), (.long 1)])) rfl rfl (D d20_101) _ (XT.lshl X94.here hx rfl (D d20_102) rfl (XT.lstore X94.here hx rfl (D d20_103) rfl (l' := #[vr a, vr b9, vr b18, vr b23, vi mask, vi (Int32.ofNat kk), vi (Int32.ofNat i), vi (XT.ushr ci (6 : Int32)), .val (.long ((1 : Int64) <<< (ci.toInt64 &&& 63))), .second]) rfl (XS.aloadN X94.here hx rfl (D d20_105) rfl rfl (XS.iload X94.here hx rfl (D d20_106) rfl k))))) ?_
        obtain ⟨cl96, Ar96, aq96, aS96, aM96, aH96, aG96⟩ := id G9_7
        refine gb T94 m 114 #[vr a, vr b9, vr b18, vr b23, vi mask, vi (Int32.ofNat kk), vi (Int32.ofNat i), vi (XT.ushr ci (6 : Int32)), .val (.long ((1 : Int64) <<< (ci.toInt64 &&& 63))), .second] [(.int (XT.cmpL (sv &&& ((1 : Int64) <<< (ci.toInt64 &&& 63))) (0 : Int64)))] (fun u k => X94.laload hx (j := (XT.ushr ci (6 : Int32))) (v := (.long sv)) (by rw [e94]; exact Ar96.1) (State.isArrayOf_alike hZ.alike Ar96.2.1) Ar96.2.2 (inb_of aS96 J6) (Has.at aH96 (inb_of aS96 J6) hsv) (g := (mkF m 108 #[vr a, vr b9, vr b18, vr b23, vi mask, vi (Int32.ofNat kk), vi (Int32.ofNat i), vi (XT.ushr ci (6 : Int32)), .val (.long ((1 : Int64) <<< (ci.toInt64 &&& 63))), .second] [(.int (XT.ushr ci (6 : Int32))), (.ref b9)])) rfl rfl (D d20_108) _ (XT.lload X94.here hx rfl (D d20_109) rfl (XT.land X94.here hx rfl (D d20_111) rfl (XT.lconstV X94.here hx rfl (0 : Int64) (D d20_112) (by decide) (XT.lcmp X94.here hx rfl (D d20_113) rfl k))))) ?_
        by_cases hsn : (sv &&& ((1 : Int64) <<< (ci.toInt64 &&& 63))) = (0 : Int64)
        · refine gb T94 m 121 #[vr a, vr b9, vr b18, vr b23, vi mask, vi (Int32.ofNat kk), vi (Int32.ofNat i), vi (XT.ushr ci (6 : Int32)), .val (.long ((1 : Int64) <<< (ci.toInt64 &&& 63))), .second] [(.int (XT.ushr ci (6 : Int32))), (.ref b9), (.int (XT.ushr ci (6 : Int32))), (.ref b9)] (fun u k => XS.ifNo X94.here hx rfl (D d20_114) rfl (XT.ll_ne_f hsn) (XS.aloadN X94.here hx rfl (D d20_117) rfl rfl (XS.iload X94.here hx rfl (D d20_118) rfl (XT.dup2 X94.here hx rfl (D d20_120) rfl rfl rfl k)))) ?_
          obtain ⟨cl98, Ar98, aq98, aS98, aM98, aH98, aG98⟩ := id G9_7
          refine gb T94 m 125 #[vr a, vr b9, vr b18, vr b23, vi mask, vi (Int32.ofNat kk), vi (Int32.ofNat i), vi (XT.ushr ci (6 : Int32)), .val (.long ((1 : Int64) <<< (ci.toInt64 &&& 63))), .second] [(.long (sv ||| ((1 : Int64) <<< (ci.toInt64 &&& 63)))), (.int (XT.ushr ci (6 : Int32))), (.ref b9)] (fun u k => X94.laload hx (j := (XT.ushr ci (6 : Int32))) (v := (.long sv)) (by rw [e94]; exact Ar98.1) (State.isArrayOf_alike hZ.alike Ar98.2.1) Ar98.2.2 (inb_of aS98 J6) (Has.at aH98 (inb_of aS98 J6) hsv) (g := (mkF m 121 #[vr a, vr b9, vr b18, vr b23, vi mask, vi (Int32.ofNat kk), vi (Int32.ofNat i), vi (XT.ushr ci (6 : Int32)), .val (.long ((1 : Int64) <<< (ci.toInt64 &&& 63))), .second] [(.int (XT.ushr ci (6 : Int32))), (.ref b9), (.int (XT.ushr ci (6 : Int32))), (.ref b9)])) rfl rfl (D d20_121) _ (XT.lload X94.here hx rfl (D d20_122) rfl (XT.lor X94.here hx rfl (D d20_124) rfl k))) ?_
          obtain ⟨cl99, Ar99, aq99, aS99, aM99, aH99, aG99⟩ := id G9_7
          obtain ⟨T100, h100, X100, e100, W100, st100⟩ := stJ X94 hx hZ e94 Ar99 (j := (XT.ushr ci (6 : Int32))) (inb_of aS99 J6) (g := (mkF m 125 #[vr a, vr b9, vr b18, vr b23, vi mask, vi (Int32.ofNat kk), vi (Int32.ofNat i), vi (XT.ushr ci (6 : Int32)), .val (.long ((1 : Int64) <<< (ci.toInt64 &&& 63))), .second] [(.long (sv ||| ((1 : Int64) <<< (ci.toInt64 &&& 63)))), (.int (XT.ushr ci (6 : Int32))), (.ref b9)])) rfl rfl (D d20_125)
          have Z100 : n0 ≤ h100.size := Nat.le_trans Z9 (Keep.of_wr W100).1
          have K100 := K9.wr W100 (Or.inr sz9)
          have N100 := Fr.snoc X100 N9 gb9
          have O100 := O9.wr W100 gb9
          have V100 : Arv Z h100 b9 k9 .long (1024 : Int32) (ls9.set (XT.ushr ci (6 : Int32)).toNatClampNeg (.long (sv ||| ((1 : Int64) <<< (ci.toInt64 &&& 63))))) (.long 0) := Arv.set Ar99 aq99 aS99 aM99 aH99 aG99 rfl W100 ((XT.ushr ci (6 : Int32)).toNatClampNeg) rfl (by rw [hL9.1]; exact J6n)
          refine gb T100 m 126 #[vr a, vr b9, vr b18, vr b23, vi mask, vi (Int32.ofNat kk), vi (Int32.ofNat i), vi (XT.ushr ci (6 : Int32)), .val (.long ((1 : Int64) <<< (ci.toInt64 &&& 63))), .second] [] st100 ?_
          clear st100
          refine gb T100 m 131 #[vr a, vr b9, vr b18, vr b23, vi mask, vi (Int32.ofNat kk), vi (Int32.ofNat i), vi (XT.ushr ci (6 : Int32)), .val (.long ((1 : Int64) <<< (ci.toInt64 &&& 63))), .second] [(.int (Int32.ofNat i)), (.int (Int32.ofNat kk)), (.ref b18)] (fun u k => XS.aloadN X100.here hx rfl (D d20_126) rfl rfl (XS.iload X100.here hx rfl (D d20_127) rfl (XS.iload X100.here hx rfl (D d20_129) rfl k))) ?_
          have f101 := (G9_8.other W100 (Ne.symm ne_b9_b18))
          obtain ⟨cl102, Ar102, aq102, aS102, aM102, aH102, aG102⟩ := id f101
          obtain ⟨T103, h103, X103, e103, W103, st103⟩ := stI X100 hx hZ e100 Ar102 (j := (Int32.ofNat kk)) (inb_of aS102 ⟨Jk.1, (own_lt (by omega) (by omega)).mpr (by omega)⟩) (g := (mkF m 131 #[vr a, vr b9, vr b18, vr b23, vi mask, vi (Int32.ofNat kk), vi (Int32.ofNat i), vi (XT.ushr ci (6 : Int32)), .val (.long ((1 : Int64) <<< (ci.toInt64 &&& 63))), .second] [(.int (Int32.ofNat i)), (.int (Int32.ofNat kk)), (.ref b18)])) rfl rfl (D d20_131)
          have Z103 : n0 ≤ h103.size := Nat.le_trans Z100 (Keep.of_wr W103).1
          have K103 := K100.wr W103 (Or.inr sz18)
          have N103 := Fr.snoc X103 N100 gb18
          have O103 := O100.wr W103 gb18
          have V103 : Arv Z h103 b18 k18 .int (Int32.ofNat nz) (ps9.set kk (.int (Int32.ofNat i))) (.int 0) := Arv.set Ar102 aq102 aS102 aM102 aH102 aG102 rfl W103 (kk) Jk.2.1 (by rw [hP9.1]; omega)
          refine gb T103 m 132 #[vr a, vr b9, vr b18, vr b23, vi mask, vi (Int32.ofNat kk), vi (Int32.ofNat i), vi (XT.ushr ci (6 : Int32)), .val (.long ((1 : Int64) <<< (ci.toInt64 &&& 63))), .second] [] st103 ?_
          clear st103
          refine gb T103 m 136 #[vr a, vr b9, vr b18, vr b23, vi mask, vi (Int32.ofNat kk), vi (Int32.ofNat i), vi (XT.ushr ci (6 : Int32)), .val (.long ((1 : Int64) <<< (ci.toInt64 &&& 63))), .second] [(.ref a), (.int (Int32.ofNat kk)), (.ref b23)] (fun u k => XS.aloadN X103.here hx rfl (D d20_132) rfl rfl (XS.iload X103.here hx rfl (D d20_133) rfl (XS.aloadN X103.here hx rfl (D d20_135) rfl rfl k))) ?_
          have f104 := ((G9_2.other W100 (Or.inl ne_a_b9)).other W103 (Or.inl ne_a_b18))
          obtain ⟨T105, X105, e105, st105⟩ := getF X103 hx hZ hown (host := "") (Or.inl (H 75 rfl)) Via.refl e103 f104 (g := (mkF m 136 #[vr a, vr b9, vr b18, vr b23, vi mask, vi (Int32.ofNat kk), vi (Int32.ofNat i), vi (XT.ushr ci (6 : Int32)), .val (.long ((1 : Int64) <<< (ci.toInt64 &&& 63))), .second] [(.ref a), (.int (Int32.ofNat kk)), (.ref b23)])) rfl rfl (D d20_136)
          refine gb T105 m 139 #[vr a, vr b9, vr b18, vr b23, vi mask, vi (Int32.ofNat kk), vi (Int32.ofNat i), vi (XT.ushr ci (6 : Int32)), .val (.long ((1 : Int64) <<< (ci.toInt64 &&& 63))), .second] [(.ref b), (.int (Int32.ofNat kk)), (.ref b23)] st105 ?_
          clear st105
          refine gb T105 m 141 #[vr a, vr b9, vr b18, vr b23, vi mask, vi (Int32.ofNat kk), vi (Int32.ofNat i), vi (XT.ushr ci (6 : Int32)), .val (.long ((1 : Int64) <<< (ci.toInt64 &&& 63))), .second] [(.int (Int32.ofNat i)), (.ref b), (.int (Int32.ofNat kk)), (.ref b23)] (fun u k => XS.iload X105.here hx rfl (D d20_139) rfl k) ?_
          have f106 := ((G9_5.other W100 ne_b_b9).other W103 ne_b_b18)
          obtain ⟨cl107, Ar107, aq107, aS107, aM107, aH107, aG107⟩ := id f106
          refine gb T105 m 142 #[vr a, vr b9, vr b18, vr b23, vi mask, vi (Int32.ofNat kk), vi (Int32.ofNat i), vi (XT.ushr ci (6 : Int32)), .val (.long ((1 : Int64) <<< (ci.toInt64 &&& 63))), .second] [(.int ci), (.int (Int32.ofNat kk)), (.ref b23)] (fun u k => X105.caload hx (j := (Int32.ofNat i)) (v := (.int ci)) (by rw [e105]; exact Ar107.1) (State.isArrayOf_alike hZ.alike Ar107.2.1) Ar107.2.2 (inb_of aS107 ⟨Ji.1, (own_lt (by omega) (by omega)).mpr (by omega)⟩) (Has.at aH107 (inb_of aS107 ⟨Ji.1, (own_lt (by omega) (by omega)).mpr (by omega)⟩) (by rw [Ji.2.1]; exact hci)) (g := (mkF m 141 #[vr a, vr b9, vr b18, vr b23, vi mask, vi (Int32.ofNat kk), vi (Int32.ofNat i), vi (XT.ushr ci (6 : Int32)), .val (.long ((1 : Int64) <<< (ci.toInt64 &&& 63))), .second] [(.int (Int32.ofNat i)), (.ref b), (.int (Int32.ofNat kk)), (.ref b23)])) rfl rfl (D d20_141) _ k) ?_
          have f108 := ((G9_6.other W100 ne_rA_b9).other W103 ne_rA_b18)
          obtain ⟨_, _, ⟨T109, L109, k109, n109⟩, -, X109, ⟨Lc109, hQ109, l109, y109, z109⟩, st109⟩ := Jvm.LawKit.callS X105 hx (y := mn20) hown (mvT hZ (H 79 rfl)) (mvT hZ (H 80 rfl)) (mvT hZ (H 41 rfl)) (mvT hZ (H 81 rfl)) (by decide) (backOf (W := 2) (own_rar l Z a0 hw [] ci rA kA ra h103 n0 Z103 O103 SRA SUN f108 hRA hcc.1.1) hZ (H 81 rfl) (H 41 rfl) (by decide) (by decide)) (g := (mkF m 142 #[vr a, vr b9, vr b18, vr b23, vi mask, vi (Int32.ofNat kk), vi (Int32.ofNat i), vi (XT.ushr ci (6 : Int32)), .val (.long ((1 : Int64) <<< (ci.toInt64 &&& 63))), .second] [(.int ci), (.int (Int32.ofNat kk)), (.ref b23)])) rfl (by rw [hml]; rfl) (argsL := [(.int ci)]) (rest := [(.int (Int32.ofNat kk)), (.ref b23)]) (lenOf own_pd19 rfl) rfl (own_w0 rfl) (D d20_142) (fun _ _ => ⟨rfl, e105, (by decide : 3 + 0 ≤ _), (by decide : 1034 + 0 ≤ _)⟩)
          dsimp only [Pt.U, Pt.locs, Pt.cells, Pt.slots] at X109 l109 y109 z109 st109 hQ109
          subst l109 y109 z109
          obtain ⟨rv109, rfl, N109, e109, P109_0⟩ := hQ109
          have NA109 := Fr.app N103 N109
          refine gb T109 m 145 #[vr a, vr b9, vr b18, vr b23, vi mask, vi (Int32.ofNat kk), vi (Int32.ofNat i), vi (XT.ushr ci (6 : Int32)), .val (.long ((1 : Int64) <<< (ci.toInt64 &&& 63))), .second] [(.int rv109), (.int (Int32.ofNat kk)), (.ref b23)] st109 ?_
          clear st109
          have f110 := ((G9_9.other W100 (Ne.symm ne_b9_b23)).other W103 (Ne.symm ne_b18_b23))
          obtain ⟨cl111, Ar111, aq111, aS111, aM111, aH111, aG111⟩ := id f110
          obtain ⟨T112, h112, X112, e112, W112, st112⟩ := stI X109 hx hZ e109 Ar111 (j := (Int32.ofNat kk)) (inb_of aS111 ⟨Jk.1, (own_lt (by omega) (by omega)).mpr (by omega)⟩) (g := (mkF m 145 #[vr a, vr b9, vr b18, vr b23, vi mask, vi (Int32.ofNat kk), vi (Int32.ofNat i), vi (XT.ushr ci (6 : Int32)), .val (.long ((1 : Int64) <<< (ci.toInt64 &&& 63))), .second] [(.int rv109), (.int (Int32.ofNat kk)), (.ref b23)])) rfl rfl (D d20_145)
          have Z112 : n0 ≤ h112.size := Nat.le_trans Z103 (Keep.of_wr W112).1
          have K112 := K103.wr W112 (Or.inr sz23)
          have N112 := Fr.snoc X112 NA109 gb23
          have O112 := O103.wr W112 gb23
          have V112 : Arv Z h112 b23 k23 .int (Int32.ofNat nz) (cl9.set kk (.int rv109)) (.int 0) := Arv.set Ar111 aq111 aS111 aM111 aH111 aG111 rfl W112 (kk) Jk.2.1 (by rw [hP9.2.1]; omega)
          refine gb T112 m 146 #[vr a, vr b9, vr b18, vr b23, vi mask, vi (Int32.ofNat kk), vi (Int32.ofNat i), vi (XT.ushr ci (6 : Int32)), .val (.long ((1 : Int64) <<< (ci.toInt64 &&& 63))), .second] [] st112 ?_
          clear st112
          refine gb T112 m 152 #[vr a, vr b9, vr b18, vr b23, vi mask, vi (Int32.ofNat kk), vi (Int32.ofNat i), vi (XT.ushr ci (6 : Int32)), .val (.long ((1 : Int64) <<< (ci.toInt64 &&& 63))), .second] [(.int (Int32.ofNat kk)), (.ref b23), (.int 1), (.int mask)] (fun u k => XS.iload X112.here hx rfl (D d20_146) rfl (XT.iconstV X112.here hx rfl (1 : Int32) (D d20_148) (by decide) (XS.aloadN X112.here hx rfl (D d20_149) rfl rfl (XS.iload X112.here hx rfl (D d20_150) rfl k)))) ?_
          obtain ⟨cl113, Ar113, aq113, aS113, aM113, aH113, aG113⟩ := id V112
          refine gb T112 m 72 #[vr a, vr b9, vr b18, vr b23, vi (mask ||| ((1 : Int32) <<< (rv109 &&& 31))), vi ((Int32.ofNat kk) + (1 : Int32)), vi ((Int32.ofNat i) + (1 : Int32)), vi (XT.ushr ci (6 : Int32)), .val (.long ((1 : Int64) <<< (ci.toInt64 &&& 63))), .second] [] (fun u k => X112.iaload hx (j := (Int32.ofNat kk)) (v := (.int rv109)) (by rw [e112]; exact Ar113.1) (State.isArrayOf_alike hZ.alike Ar113.2.1) Ar113.2.2 (inb_of aS113 ⟨Jk.1, (own_lt (by omega) (by omega)).mpr (by omega)⟩) (Has.at aH113 (inb_of aS113 ⟨Jk.1, (own_lt (by omega) (by omega)).mpr (by omega)⟩) (by rw [Jk.2.1]; exact own_set_self (by rw [hP9.2.1]; omega))) (g := (mkF m 152 #[vr a, vr b9, vr b18, vr b23, vi mask, vi (Int32.ofNat kk), vi (Int32.ofNat i), vi (XT.ushr ci (6 : Int32)), .val (.long ((1 : Int64) <<< (ci.toInt64 &&& 63))), .second] [(.int (Int32.ofNat kk)), (.ref b23), (.int 1), (.int mask)])) rfl rfl (D d20_152) _ (XT.ishl X112.here hx rfl (D d20_153) rfl (XT.ior X112.here hx rfl (D d20_154) rfl (XS.istore X112.here hx rfl (D d20_155) rfl (l' := #[vr a, vr b9, vr b18, vr b23, vi (mask ||| ((1 : Int32) <<< (rv109 &&& 31))), vi (Int32.ofNat kk), vi (Int32.ofNat i), vi (XT.ushr ci (6 : Int32)), .val (.long ((1 : Int64) <<< (ci.toInt64 &&& 63))), .second]) rfl (XT.iincV X112.here hx rfl (1 : Int32) (D d20_157) (by decide) rfl (l' := #[vr a, vr b9, vr b18, vr b23, vi (mask ||| ((1 : Int32) <<< (rv109 &&& 31))), vi ((Int32.ofNat kk) + (1 : Int32)), vi (Int32.ofNat i), vi (XT.ushr ci (6 : Int32)), .val (.long ((1 : Int64) <<< (ci.toInt64 &&& 63))), .second]) rfl (XT.iincV X112.here hx rfl (1 : Int32) (D d20_160) (by decide) rfl (l' := #[vr a, vr b9, vr b18, vr b23, vi (mask ||| ((1 : Int32) <<< (rv109 &&& 31))), vi ((Int32.ofNat kk) + (1 : Int32)), vi ((Int32.ofNat i) + (1 : Int32)), vi (XT.ushr ci (6 : Int32)), .val (.long ((1 : Int64) <<< (ci.toInt64 &&& 63))), .second]) rfl (XS.goto X112.here hx rfl (pc0 := 163) (pc' := 72) rfl (D d20_163) (by decide) (by decide) k))))))) ?_
          have rw114 : ((Int32.ofNat kk) + (1 : Int32)) = (Int32.ofNat (kk + 1)) := Jk.2.2
          rw [rw114]
          have rw115 : ((Int32.ofNat i) + (1 : Int32)) = (Int32.ofNat (i + 1)) := Ji.2.2
          rw [rw115]
          have f116 := (((G9_0.wr W100).wr W103).wr W112)
          have f117 := (((G9_1.wr W100).wr W103).wr W112)
          have f118 := (f104.other W112 (Or.inl ne_a_b23))
          have f119 := (((G9_3.other W100 (Or.inl ne_a_b9)).other W103 (Or.inl ne_a_b18)).other W112 (Or.inl ne_a_b23))
          have f120 := (((G9_4.other W100 (Or.inl ne_q_b9)).other W103 (Or.inl ne_q_b18)).other W112 (Or.inl ne_q_b23))
          have f121 := (f106.other W112 ne_b_b23)
          have f122 := (f108.other W112 ne_rA_b23)
          have f123 := ((V100.other W103 ne_b9_b18).other W112 ne_b9_b23)
          have f124 := (V103.other W112 ne_b18_b23)
          subst e112
          exact ih (i + 1) (by omega) (kk + 1) (mask ||| ((1 : Int32) <<< (rv109 &&& 31))) (ql ++ [rv109]) _ _ T112 _ _ _ _ (by omega) (hL9.set _ _) (hP9.step (by omega) (by omega) (by omega) P109_0.1 P109_0.2) X112 N112 Z112 K112 O112 f116 f117 f118 f119 f120 f121 f122 f123 f124 V112 
        · refine gb T94 m 72 #[vr a, vr b9, vr b18, vr b23, vi mask, vi (Int32.ofNat kk), vi ((Int32.ofNat i) + (1 : Int32)), vi (XT.ushr ci (6 : Int32)), .val (.long ((1 : Int64) <<< (ci.toInt64 &&& 63))), .second] [] (fun u k => XS.ifYes X94.here hx rfl (pc0 := 114) (pc' := 160) rfl (D d20_114) rfl (XT.ll_ne_t hsn) (by decide) (by decide) (XT.iincV X94.here hx rfl (1 : Int32) (D d20_160) (by decide) rfl (l' := #[vr a, vr b9, vr b18, vr b23, vi mask, vi (Int32.ofNat kk), vi ((Int32.ofNat i) + (1 : Int32)), vi (XT.ushr ci (6 : Int32)), .val (.long ((1 : Int64) <<< (ci.toInt64 &&& 63))), .second]) rfl (XS.goto X94.here hx rfl (pc0 := 163) (pc' := 72) rfl (D d20_163) (by decide) (by decide) k))) ?_
          have rw125 : ((Int32.ofNat i) + (1 : Int32)) = (Int32.ofNat (i + 1)) := Ji.2.2
          rw [rw125]
          exact ih (i + 1) (by omega) kk mask ql _ _ T94 _ _ _ _ (by omega) hL9 hP9 X94 N9 (by rw [e94]; exact Z9) (by rw [e94]; exact K9) (by rw [e94]; exact O9) (by rw [e94]; exact G9_0) (by rw [e94]; exact G9_1) (by rw [e94]; exact G9_2) (by rw [e94]; exact G9_3) (by rw [e94]; exact G9_4) (by rw [e94]; exact G9_5) (by rw [e94]; exact G9_6) (by rw [e94]; exact G9_7) (by rw [e94]; exact G9_8) (by rw [e94]; exact G9_9) 
    by_cases hz0 : nz = 0
    · refine gb T23 m 75 #[vr a, vr b9, vr b18, vr b23, vi 0, vi 0, vi 0, un, un, un] [(.ref a), (.int 0)] (fun u k => XS.iload X23.here hx rfl (D d20_72) rfl (XS.aloadN X23.here hx rfl (D d20_74) rfl rfl k)) ?_
      have f126 := ((f10.ext E18).ext E23)
      obtain ⟨T127, X127, e127, st127⟩ := getF X23 hx hZ hown (host := "") (Or.inl (H 75 rfl)) Via.refl e23 f126 (g := (mkF m 75 #[vr a, vr b9, vr b18, vr b23, vi 0, vi 0, vi 0, un, un, un] [(.ref a), (.int 0)])) rfl rfl (D d20_75)
      refine gb T127 m 78 #[vr a, vr b9, vr b18, vr b23, vi 0, vi 0, vi 0, un, un, un] [(.ref b), (.int 0)] st127 ?_
      clear st127
      have f128 := (f27.ext E23)
      obtain ⟨cl129, Ar129, aq129, aS129, aM129, aH129, aG129⟩ := id f128
      refine gb T127 m 79 #[vr a, vr b9, vr b18, vr b23, vi 0, vi 0, vi 0, un, un, un] [(.int cl129.slots.size.toInt32), (.int 0)] (fun u k => X127.arraylength hx (by rw [e127]; exact Ar129.1) (State.isArrayOf_alike hZ.alike Ar129.2.1) (g := (mkF m 78 #[vr a, vr b9, vr b18, vr b23, vi 0, vi 0, vi 0, un, un, un] [(.ref b), (.int 0)])) rfl rfl (D d20_78) _ k) ?_
      rw [len_of aS129 aM129]
      refine gb T127 m 173 #[vr a, vr b9, vr b18, vr b23, vi 0, vi 0, vi 0, un, un, un] [(.int 0)] (fun u k => XS.icmpYes X127.here hx rfl (pc0 := 79) (pc' := 166) rfl (D d20_79) rfl (XT.ii_ge_t (by rw [hz0]; decide)) (by decide) (by decide) (XS.iload X127.here hx rfl (D d20_166) rfl (XT.iconstV X127.here hx rfl (2 : Int32) (D d20_168) (by decide) (XS.icmpNo X127.here hx rfl (D d20_169) rfl (XT.ii_ge_f (by decide)) (XT.iconstV X127.here hx rfl (0 : Int32) (D d20_172) (by decide) k))))) ?_
      obtain ⟨T130, h130, k130, X130, e130, E130, A130, B130, -, st130⟩ := newRE X127 hx hZ hown (H 88 rfl) (H 122 rfl) e127 (g := (mkF m 173 #[vr a, vr b9, vr b18, vr b23, vi 0, vi 0, vi 0, un, un, un] [(.int 0)])) rfl (D d20_173) rfl (by decide) (cap := 0) (by decide) (by decide) (by decide) (by decide) (ad := "[Lbackstitch/Needle$Anchor;") (by decide +kernel)
      obtain ⟨b130, g130⟩ : ∃ z, z = h23.size := ⟨_, rfl⟩
      rw [← g130] at A130 B130 st130
      have f131 := (f24.ext E23)
      have ne_a_b130 : a ≠ b130 := Nat.ne_of_lt (Nat.lt_of_lt_of_le f131.lt (Nat.le_of_eq g130.symm))
      have f132 := (f25.ext E23)
      have ne_q_b130 : q ≠ b130 := Nat.ne_of_lt (Nat.lt_of_lt_of_le f132.lt (Nat.le_of_eq g130.symm))
      have f133 := (f26.ext E23)
      have ne_rA_b130 : rA ≠ b130 := Nat.ne_of_lt (Nat.lt_of_lt_of_le f133.lt (Nat.le_of_eq g130.symm))
      have ne_b_b130 : b ≠ b130 := Nat.ne_of_lt (Nat.lt_of_lt_of_le f128.lt (Nat.le_of_eq g130.symm))
      have f134 := (f28.ext E23)
      have ne_b9_b130 : b9 ≠ b130 := Nat.ne_of_lt (Nat.lt_of_lt_of_le f134.lt (Nat.le_of_eq g130.symm))
      have f135 := (V18.ext E23)
      have ne_b18_b130 : b18 ≠ b130 := Nat.ne_of_lt (Nat.lt_of_lt_of_le f135.lt (Nat.le_of_eq g130.symm))
      have ne_b23_b130 : b23 ≠ b130 := Nat.ne_of_lt (Nat.lt_of_lt_of_le V23.lt (Nat.le_of_eq g130.symm))
      have gb130 : n0 ≤ b130 := Nat.le_trans Z23 (Nat.le_of_eq g130.symm)
      have sz130 : h0.size ≤ b130 := Nat.le_trans K23.1 (Nat.le_of_eq g130.symm)
      have Z130 : n0 ≤ h130.size := Nat.le_trans Z23 E130.1
      have K130 := K23.ext E130
      have O130 := O23.ext E130
      have V130 : Arv Z h130 b130 k130 (.object "backstitch/Needle$Anchor") (0 : Int32) [] .null := (Arv.new A130 (by decide)).pad (pad_rep [] .null 0)
      refine gb T130 m 176 #[vr a, vr b9, vr b18, vr b23, vi 0, vi 0, vi 0, un, un, un] [(.ref b130)] st130 ?_
      clear st130
      obtain ⟨fs, hr, hrun, hended, hW, hsame⟩ := X130.leave (v := some (.ref b130)) (fun h => by rw [Bd.returns] at h; cases h)
      refine ⟨_, _, retOut X130 hx (t := (.array (.object "backstitch/Needle$Anchor"))) (i := .areturn) Bd.returns rfl (Or.inr (Or.inr (Or.inr (Or.inr ⟨rfl, rfl, rfl⟩)))) (D d20_176) hr, hrun, hended, _, _, rfl, ?_, ⟨_, rfl⟩, hW, hsame.mono (by decide) (by decide)⟩
      show Q_own_lc Z a b q cv ix nz us kb rA kA ra h0 n0 _ T130.heap _
      rw [e130]
      exact ⟨b130, rfl, NA16, K130, gb130, sz130⟩
    · show Go p e below (own_F s below (Q_own_lc Z a b q cv ix nz us kb rA kA ra h0 n0) rm18.cells rm18.slots) (T23.setTop (mkF m 72 #[vr a, vr b9, vr b18, vr b23, vi 0, vi (Int32.ofNat 0), vi (Int32.ofNat 0), un, un, un] []))
      have hL0 := own_L0 1024
      have hP0 := own_PC0 nz
      have Ji := own_j 0 (by omega)
      have Jk := own_j 0 (by omega)
      obtain ⟨ci, hci, hcc⟩ := hU.2 0 (by omega)
      have J6 := own_u6 hcc
      have J6n := own_nat J6.1 J6.2 (by decide : (1024 : Int32).toNatClampNeg = 1024)
      obtain ⟨sv, hsv⟩ := hL0.2 _ J6n
      refine gb T23 m 75 #[vr a, vr b9, vr b18, vr b23, vi 0, vi (Int32.ofNat 0), vi (Int32.ofNat 0), un, un, un] [(.ref a), (.int (Int32.ofNat 0))] (fun u k => XS.iload X23.here hx rfl (D d20_72) rfl (XS.aloadN X23.here hx rfl (D d20_74) rfl rfl k)) ?_
      have f136 := ((f10.ext E18).ext E23)
      obtain ⟨T137, X137, e137, st137⟩ := getF X23 hx hZ hown (host := "") (Or.inl (H 75 rfl)) Via.refl e23 f136 (g := (mkF m 75 #[vr a, vr b9, vr b18, vr b23, vi 0, vi (Int32.ofNat 0), vi (Int32.ofNat 0), un, un, un] [(.ref a), (.int (Int32.ofNat 0))])) rfl rfl (D d20_75)
      refine gb T137 m 78 #[vr a, vr b9, vr b18, vr b23, vi 0, vi (Int32.ofNat 0), vi (Int32.ofNat 0), un, un, un] [(.ref b), (.int (Int32.ofNat 0))] st137 ?_
      clear st137
      have f138 := (f27.ext E23)
      obtain ⟨cl139, Ar139, aq139, aS139, aM139, aH139, aG139⟩ := id f138
      refine gb T137 m 79 #[vr a, vr b9, vr b18, vr b23, vi 0, vi (Int32.ofNat 0), vi (Int32.ofNat 0), un, un, un] [(.int cl139.slots.size.toInt32), (.int (Int32.ofNat 0))] (fun u k => X137.arraylength hx (by rw [e137]; exact Ar139.1) (State.isArrayOf_alike hZ.alike Ar139.2.1) (g := (mkF m 78 #[vr a, vr b9, vr b18, vr b23, vi 0, vi (Int32.ofNat 0), vi (Int32.ofNat 0), un, un, un] [(.ref b), (.int (Int32.ofNat 0))])) rfl rfl (D d20_78) _ k) ?_
      rw [len_of aS139 aM139]
      refine gb T137 m 83 #[vr a, vr b9, vr b18, vr b23, vi 0, vi (Int32.ofNat 0), vi (Int32.ofNat 0), un, un, un] [(.ref a)] (fun u k => XS.icmpNo X137.here hx rfl (D d20_79) rfl (XT.ii_ge_f ((own_lt (by omega) (by omega)).mpr (by omega))) (XS.aloadN X137.here hx rfl (D d20_82) rfl rfl k)) ?_
      obtain ⟨T140, X140, e140, st140⟩ := getF X137 hx hZ hown (host := "") (Or.inl (H 75 rfl)) Via.refl e137 f136 (g := (mkF m 83 #[vr a, vr b9, vr b18, vr b23, vi 0, vi (Int32.ofNat 0), vi (Int32.ofNat 0), un, un, un] [(.ref a)])) rfl rfl (D d20_83)
      refine gb T140 m 86 #[vr a, vr b9, vr b18, vr b23, vi 0, vi (Int32.ofNat 0), vi (Int32.ofNat 0), un, un, un] [(.ref b)] st140 ?_
      clear st140
      refine gb T140 m 88 #[vr a, vr b9, vr b18, vr b23, vi 0, vi (Int32.ofNat 0), vi (Int32.ofNat 0), un, un, un] [(.int (Int32.ofNat 0)), (.ref b)] (fun u k => XS.iload X140.here hx rfl (D d20_86) rfl k) ?_
      obtain ⟨cl141, Ar141, aq141, aS141, aM141, aH141, aG141⟩ := id f138
      refine gb T140 m 96 #[vr a, vr b9, vr b18, vr b23, vi 0, vi (Int32.ofNat 0), vi (Int32.ofNat 0), vi (XT.ushr ci (6 : Int32)), un, un] [(.ref a), (.long 1)] (fun u k => X140.caload hx (j := (Int32.ofNat 0)) (v := (.int ci)) (by rw [e140]; exact Ar141.1) (State.isArrayOf_alike hZ.alike Ar141.2.1) Ar141.2.2 (inb_of aS141 ⟨Ji.1, (own_lt (by omega) (by omega)).mpr (by omega)⟩) (Has.at aH141 (inb_of aS141 ⟨Ji.1, (own_lt (by omega) (by omega)).mpr (by omega)⟩) (by rw [Ji.2.1]; exact hci)) (g := (mkF m 88 #[vr a, vr b9, vr b18, vr b23, vi 0, vi (Int32.ofNat 0), vi (Int32.ofNat 0), un, un, un] [(.int (Int32.ofNat 0)), (.ref b)])) rfl rfl (D d20_88) _ (XT.bipushV X140.here hx rfl (6 : Int32) (D d20_89) (by decide) (XT.iushr X140.here hx rfl (D d20_91) rfl (XS.istore X140.here hx rfl (D d20_92) rfl (l' := #[vr a, vr b9, vr b18, vr b23, vi 0, vi (Int32.ofNat 0), vi (Int32.ofNat 0), vi (XT.ushr ci (6 : Int32)), un, un]) rfl (XT.lconstV X140.here hx rfl (1 : Int64) (D d20_94) (by decide) (XS.aloadN X140.here hx rfl (D d20_95) rfl rfl k)))))) ?_
      obtain ⟨T142, X142, e142, st142⟩ := getF X140 hx hZ hown (host := "") (Or.inl (H 75 rfl)) Via.refl e140 f136 (g := (mkF m 96 #[vr a, vr b9, vr b18, vr b23, vi 0, vi (Int32.ofNat 0), vi (Int32.ofNat 0), vi (XT.ushr ci (6 : Int32)), un, un] [(.ref a), (.long 1)])) rfl rfl (D d20_96)
      refine gb T142 m 99 #[vr a, vr b9, vr b18, vr b23, vi 0, vi (Int32.ofNat 0), vi (Int32.ofNat 0), vi (XT.ushr ci (6 : Int32)), un, un] [(.ref b), (.long 1)] st142 ?_
      clear st142
      refine gb T142 m 101 #[vr a, vr b9, vr b18, vr b23, vi 0, vi (Int32.ofNat 0), vi (Int32.ofNat 0), vi (XT.ushr ci (6 : Int32)), un, un] [(.int (Int32.ofNat 0)), (.ref b), (.long 1)] (fun u k => XS.iload X142.here hx rfl (D d20_99) rfl k) ?_
      obtain ⟨cl143, Ar143, aq143, aS143, aM143, aH143, aG143⟩ := id f138
      refine gb T142 m 108 #[vr a, vr b9, vr b18, vr b23, vi 0, vi (Int32.ofNat 0), vi (Int32.ofNat 0), vi (XT.ushr ci (6 : Int32)), .val (.long ((1 : Int64) <<< (ci.toInt64 &&& 63))), .second] [(.int (XT.ushr ci (6 : Int32))), (.ref b9)] (fun u k => X142.caload hx (j := (Int32.ofNat 0)) (v := (.int ci)) (by rw [e142]; exact Ar143.1) (State.isArrayOf_alike hZ.alike Ar143.2.1) Ar143.2.2 (inb_of aS143 ⟨Ji.1, (own_lt (by omega) (by omega)).mpr (by omega)⟩) (Has.at aH143 (inb_of aS143 ⟨Ji.1, (own_lt (by omega) (by omega)).mpr (by omega)⟩) (by rw [Ji.2.1]; exact hci)) (g := (mkF m 101 #[vr a, vr b9, vr b18, vr b23, vi 0, vi (Int32.ofNat 0), vi (Int32.ofNat 0), vi (XT.ushr ci (6 : Int32)), un, un] [(.int (Int32.ofNat 0)), (.ref b), (.long 1)])) rfl rfl (D d20_101) _ (XT.lshl X142.here hx rfl (D d20_102) rfl (XT.lstore X142.here hx rfl (D d20_103) rfl (l' := #[vr a, vr b9, vr b18, vr b23, vi 0, vi (Int32.ofNat 0), vi (Int32.ofNat 0), vi (XT.ushr ci (6 : Int32)), .val (.long ((1 : Int64) <<< (ci.toInt64 &&& 63))), .second]) rfl (XS.aloadN X142.here hx rfl (D d20_105) rfl rfl (XS.iload X142.here hx rfl (D d20_106) rfl k))))) ?_
      have f144 := (f28.ext E23)
      obtain ⟨cl145, Ar145, aq145, aS145, aM145, aH145, aG145⟩ := id f144
      refine gb T142 m 114 #[vr a, vr b9, vr b18, vr b23, vi 0, vi (Int32.ofNat 0), vi (Int32.ofNat 0), vi (XT.ushr ci (6 : Int32)), .val (.long ((1 : Int64) <<< (ci.toInt64 &&& 63))), .second] [(.int (XT.cmpL (sv &&& ((1 : Int64) <<< (ci.toInt64 &&& 63))) (0 : Int64)))] (fun u k => X142.laload hx (j := (XT.ushr ci (6 : Int32))) (v := (.long sv)) (by rw [e142]; exact Ar145.1) (State.isArrayOf_alike hZ.alike Ar145.2.1) Ar145.2.2 (inb_of aS145 J6) (Has.at aH145 (inb_of aS145 J6) hsv) (g := (mkF m 108 #[vr a, vr b9, vr b18, vr b23, vi 0, vi (Int32.ofNat 0), vi (Int32.ofNat 0), vi (XT.ushr ci (6 : Int32)), .val (.long ((1 : Int64) <<< (ci.toInt64 &&& 63))), .second] [(.int (XT.ushr ci (6 : Int32))), (.ref b9)])) rfl rfl (D d20_108) _ (XT.lload X142.here hx rfl (D d20_109) rfl (XT.land X142.here hx rfl (D d20_111) rfl (XT.lconstV X142.here hx rfl (0 : Int64) (D d20_112) (by decide) (XT.lcmp X142.here hx rfl (D d20_113) rfl k))))) ?_
      by_cases hsn : (sv &&& ((1 : Int64) <<< (ci.toInt64 &&& 63))) = (0 : Int64)
      · refine gb T142 m 121 #[vr a, vr b9, vr b18, vr b23, vi 0, vi (Int32.ofNat 0), vi (Int32.ofNat 0), vi (XT.ushr ci (6 : Int32)), .val (.long ((1 : Int64) <<< (ci.toInt64 &&& 63))), .second] [(.int (XT.ushr ci (6 : Int32))), (.ref b9), (.int (XT.ushr ci (6 : Int32))), (.ref b9)] (fun u k => XS.ifNo X142.here hx rfl (D d20_114) rfl (XT.ll_ne_f hsn) (XS.aloadN X142.here hx rfl (D d20_117) rfl rfl (XS.iload X142.here hx rfl (D d20_118) rfl (XT.dup2 X142.here hx rfl (D d20_120) rfl rfl rfl k)))) ?_
        obtain ⟨cl147, Ar147, aq147, aS147, aM147, aH147, aG147⟩ := id f144
        refine gb T142 m 125 #[vr a, vr b9, vr b18, vr b23, vi 0, vi (Int32.ofNat 0), vi (Int32.ofNat 0), vi (XT.ushr ci (6 : Int32)), .val (.long ((1 : Int64) <<< (ci.toInt64 &&& 63))), .second] [(.long (sv ||| ((1 : Int64) <<< (ci.toInt64 &&& 63)))), (.int (XT.ushr ci (6 : Int32))), (.ref b9)] (fun u k => X142.laload hx (j := (XT.ushr ci (6 : Int32))) (v := (.long sv)) (by rw [e142]; exact Ar147.1) (State.isArrayOf_alike hZ.alike Ar147.2.1) Ar147.2.2 (inb_of aS147 J6) (Has.at aH147 (inb_of aS147 J6) hsv) (g := (mkF m 121 #[vr a, vr b9, vr b18, vr b23, vi 0, vi (Int32.ofNat 0), vi (Int32.ofNat 0), vi (XT.ushr ci (6 : Int32)), .val (.long ((1 : Int64) <<< (ci.toInt64 &&& 63))), .second] [(.int (XT.ushr ci (6 : Int32))), (.ref b9), (.int (XT.ushr ci (6 : Int32))), (.ref b9)])) rfl rfl (D d20_121) _ (XT.lload X142.here hx rfl (D d20_122) rfl (XT.lor X142.here hx rfl (D d20_124) rfl k))) ?_
        obtain ⟨cl148, Ar148, aq148, aS148, aM148, aH148, aG148⟩ := id f144
        obtain ⟨T149, h149, X149, e149, W149, st149⟩ := stJ X142 hx hZ e142 Ar148 (j := (XT.ushr ci (6 : Int32))) (inb_of aS148 J6) (g := (mkF m 125 #[vr a, vr b9, vr b18, vr b23, vi 0, vi (Int32.ofNat 0), vi (Int32.ofNat 0), vi (XT.ushr ci (6 : Int32)), .val (.long ((1 : Int64) <<< (ci.toInt64 &&& 63))), .second] [(.long (sv ||| ((1 : Int64) <<< (ci.toInt64 &&& 63)))), (.int (XT.ushr ci (6 : Int32))), (.ref b9)])) rfl rfl (D d20_125)
        have Z149 : n0 ≤ h149.size := Nat.le_trans Z23 (Keep.of_wr W149).1
        have K149 := K23.wr W149 (Or.inr sz9)
        have N149 := Fr.snoc X149 NA16 gb9
        have O149 := O23.wr W149 gb9
        have V149 : Arv Z h149 b9 k9 .long (1024 : Int32) ((([] : List Value) ++ List.replicate 1024 ((.long 0) : Value)).set (XT.ushr ci (6 : Int32)).toNatClampNeg (.long (sv ||| ((1 : Int64) <<< (ci.toInt64 &&& 63))))) (.long 0) := Arv.set Ar148 aq148 aS148 aM148 aH148 aG148 rfl W149 ((XT.ushr ci (6 : Int32)).toNatClampNeg) rfl (by rw [hL0.1]; exact J6n)
        refine gb T149 m 126 #[vr a, vr b9, vr b18, vr b23, vi 0, vi (Int32.ofNat 0), vi (Int32.ofNat 0), vi (XT.ushr ci (6 : Int32)), .val (.long ((1 : Int64) <<< (ci.toInt64 &&& 63))), .second] [] st149 ?_
        clear st149
        refine gb T149 m 131 #[vr a, vr b9, vr b18, vr b23, vi 0, vi (Int32.ofNat 0), vi (Int32.ofNat 0), vi (XT.ushr ci (6 : Int32)), .val (.long ((1 : Int64) <<< (ci.toInt64 &&& 63))), .second] [(.int (Int32.ofNat 0)), (.int (Int32.ofNat 0)), (.ref b18)] (fun u k => XS.aloadN X149.here hx rfl (D d20_126) rfl rfl (XS.iload X149.here hx rfl (D d20_127) rfl (XS.iload X149.here hx rfl (D d20_129) rfl k))) ?_
        have f150 := ((V18.ext E23).other W149 (Ne.symm ne_b9_b18))
        obtain ⟨cl151, Ar151, aq151, aS151, aM151, aH151, aG151⟩ := id f150
        obtain ⟨T152, h152, X152, e152, W152, st152⟩ := stI X149 hx hZ e149 Ar151 (j := (Int32.ofNat 0)) (inb_of aS151 ⟨Jk.1, (own_lt (by omega) (by omega)).mpr (by omega)⟩) (g := (mkF m 131 #[vr a, vr b9, vr b18, vr b23, vi 0, vi (Int32.ofNat 0), vi (Int32.ofNat 0), vi (XT.ushr ci (6 : Int32)), .val (.long ((1 : Int64) <<< (ci.toInt64 &&& 63))), .second] [(.int (Int32.ofNat 0)), (.int (Int32.ofNat 0)), (.ref b18)])) rfl rfl (D d20_131)
        have Z152 : n0 ≤ h152.size := Nat.le_trans Z149 (Keep.of_wr W152).1
        have K152 := K149.wr W152 (Or.inr sz18)
        have N152 := Fr.snoc X152 N149 gb18
        have O152 := O149.wr W152 gb18
        have V152 : Arv Z h152 b18 k18 .int (Int32.ofNat nz) ((([] : List Value) ++ List.replicate nz ((.int 0) : Value)).set 0 (.int (Int32.ofNat 0))) (.int 0) := Arv.set Ar151 aq151 aS151 aM151 aH151 aG151 rfl W152 (0) Jk.2.1 (by rw [hP0.1]; omega)
        refine gb T152 m 132 #[vr a, vr b9, vr b18, vr b23, vi 0, vi (Int32.ofNat 0), vi (Int32.ofNat 0), vi (XT.ushr ci (6 : Int32)), .val (.long ((1 : Int64) <<< (ci.toInt64 &&& 63))), .second] [] st152 ?_
        clear st152
        refine gb T152 m 136 #[vr a, vr b9, vr b18, vr b23, vi 0, vi (Int32.ofNat 0), vi (Int32.ofNat 0), vi (XT.ushr ci (6 : Int32)), .val (.long ((1 : Int64) <<< (ci.toInt64 &&& 63))), .second] [(.ref a), (.int (Int32.ofNat 0)), (.ref b23)] (fun u k => XS.aloadN X152.here hx rfl (D d20_132) rfl rfl (XS.iload X152.here hx rfl (D d20_133) rfl (XS.aloadN X152.here hx rfl (D d20_135) rfl rfl k))) ?_
        have f153 := ((f136.other W149 (Or.inl ne_a_b9)).other W152 (Or.inl ne_a_b18))
        obtain ⟨T154, X154, e154, st154⟩ := getF X152 hx hZ hown (host := "") (Or.inl (H 75 rfl)) Via.refl e152 f153 (g := (mkF m 136 #[vr a, vr b9, vr b18, vr b23, vi 0, vi (Int32.ofNat 0), vi (Int32.ofNat 0), vi (XT.ushr ci (6 : Int32)), .val (.long ((1 : Int64) <<< (ci.toInt64 &&& 63))), .second] [(.ref a), (.int (Int32.ofNat 0)), (.ref b23)])) rfl rfl (D d20_136)
        refine gb T154 m 139 #[vr a, vr b9, vr b18, vr b23, vi 0, vi (Int32.ofNat 0), vi (Int32.ofNat 0), vi (XT.ushr ci (6 : Int32)), .val (.long ((1 : Int64) <<< (ci.toInt64 &&& 63))), .second] [(.ref b), (.int (Int32.ofNat 0)), (.ref b23)] st154 ?_
        clear st154
        refine gb T154 m 141 #[vr a, vr b9, vr b18, vr b23, vi 0, vi (Int32.ofNat 0), vi (Int32.ofNat 0), vi (XT.ushr ci (6 : Int32)), .val (.long ((1 : Int64) <<< (ci.toInt64 &&& 63))), .second] [(.int (Int32.ofNat 0)), (.ref b), (.int (Int32.ofNat 0)), (.ref b23)] (fun u k => XS.iload X154.here hx rfl (D d20_139) rfl k) ?_
        have f155 := ((f138.other W149 ne_b_b9).other W152 ne_b_b18)
        obtain ⟨cl156, Ar156, aq156, aS156, aM156, aH156, aG156⟩ := id f155
        refine gb T154 m 142 #[vr a, vr b9, vr b18, vr b23, vi 0, vi (Int32.ofNat 0), vi (Int32.ofNat 0), vi (XT.ushr ci (6 : Int32)), .val (.long ((1 : Int64) <<< (ci.toInt64 &&& 63))), .second] [(.int ci), (.int (Int32.ofNat 0)), (.ref b23)] (fun u k => X154.caload hx (j := (Int32.ofNat 0)) (v := (.int ci)) (by rw [e154]; exact Ar156.1) (State.isArrayOf_alike hZ.alike Ar156.2.1) Ar156.2.2 (inb_of aS156 ⟨Ji.1, (own_lt (by omega) (by omega)).mpr (by omega)⟩) (Has.at aH156 (inb_of aS156 ⟨Ji.1, (own_lt (by omega) (by omega)).mpr (by omega)⟩) (by rw [Ji.2.1]; exact hci)) (g := (mkF m 141 #[vr a, vr b9, vr b18, vr b23, vi 0, vi (Int32.ofNat 0), vi (Int32.ofNat 0), vi (XT.ushr ci (6 : Int32)), .val (.long ((1 : Int64) <<< (ci.toInt64 &&& 63))), .second] [(.int (Int32.ofNat 0)), (.ref b), (.int (Int32.ofNat 0)), (.ref b23)])) rfl rfl (D d20_141) _ k) ?_
        have f157 := (((f26.ext E23).other W149 ne_rA_b9).other W152 ne_rA_b18)
        obtain ⟨_, _, ⟨T158, L158, k158, n158⟩, -, X158, ⟨Lc158, hQ158, l158, y158, z158⟩, st158⟩ := Jvm.LawKit.callS X154 hx (y := mn20) hown (mvT hZ (H 79 rfl)) (mvT hZ (H 80 rfl)) (mvT hZ (H 41 rfl)) (mvT hZ (H 81 rfl)) (by decide) (backOf (W := 2) (own_rar l Z a0 hw [] ci rA kA ra h152 n0 Z152 O152 SRA SUN f157 hRA hcc.1.1) hZ (H 81 rfl) (H 41 rfl) (by decide) (by decide)) (g := (mkF m 142 #[vr a, vr b9, vr b18, vr b23, vi 0, vi (Int32.ofNat 0), vi (Int32.ofNat 0), vi (XT.ushr ci (6 : Int32)), .val (.long ((1 : Int64) <<< (ci.toInt64 &&& 63))), .second] [(.int ci), (.int (Int32.ofNat 0)), (.ref b23)])) rfl (by rw [hml]; rfl) (argsL := [(.int ci)]) (rest := [(.int (Int32.ofNat 0)), (.ref b23)]) (lenOf own_pd19 rfl) rfl (own_w0 rfl) (D d20_142) (fun _ _ => ⟨rfl, e154, (by decide : 3 + 0 ≤ _), (by decide : 1034 + 0 ≤ _)⟩)
        dsimp only [Pt.U, Pt.locs, Pt.cells, Pt.slots] at X158 l158 y158 z158 st158 hQ158
        subst l158 y158 z158
        obtain ⟨rv158, rfl, N158, e158, P158_0⟩ := hQ158
        have NA158 := Fr.app N152 N158
        refine gb T158 m 145 #[vr a, vr b9, vr b18, vr b23, vi 0, vi (Int32.ofNat 0), vi (Int32.ofNat 0), vi (XT.ushr ci (6 : Int32)), .val (.long ((1 : Int64) <<< (ci.toInt64 &&& 63))), .second] [(.int rv158), (.int (Int32.ofNat 0)), (.ref b23)] st158 ?_
        clear st158
        have f159 := ((V23.other W149 (Ne.symm ne_b9_b23)).other W152 (Ne.symm ne_b18_b23))
        obtain ⟨cl160, Ar160, aq160, aS160, aM160, aH160, aG160⟩ := id f159
        obtain ⟨T161, h161, X161, e161, W161, st161⟩ := stI X158 hx hZ e158 Ar160 (j := (Int32.ofNat 0)) (inb_of aS160 ⟨Jk.1, (own_lt (by omega) (by omega)).mpr (by omega)⟩) (g := (mkF m 145 #[vr a, vr b9, vr b18, vr b23, vi 0, vi (Int32.ofNat 0), vi (Int32.ofNat 0), vi (XT.ushr ci (6 : Int32)), .val (.long ((1 : Int64) <<< (ci.toInt64 &&& 63))), .second] [(.int rv158), (.int (Int32.ofNat 0)), (.ref b23)])) rfl rfl (D d20_145)
        have Z161 : n0 ≤ h161.size := Nat.le_trans Z152 (Keep.of_wr W161).1
        have K161 := K152.wr W161 (Or.inr sz23)
        have N161 := Fr.snoc X161 NA158 gb23
        have O161 := O152.wr W161 gb23
        have V161 : Arv Z h161 b23 k23 .int (Int32.ofNat nz) ((([] : List Value) ++ List.replicate nz ((.int 0) : Value)).set 0 (.int rv158)) (.int 0) := Arv.set Ar160 aq160 aS160 aM160 aH160 aG160 rfl W161 (0) Jk.2.1 (by rw [hP0.2.1]; omega)
        refine gb T161 m 146 #[vr a, vr b9, vr b18, vr b23, vi 0, vi (Int32.ofNat 0), vi (Int32.ofNat 0), vi (XT.ushr ci (6 : Int32)), .val (.long ((1 : Int64) <<< (ci.toInt64 &&& 63))), .second] [] st161 ?_
        clear st161
        refine gb T161 m 152 #[vr a, vr b9, vr b18, vr b23, vi 0, vi (Int32.ofNat 0), vi (Int32.ofNat 0), vi (XT.ushr ci (6 : Int32)), .val (.long ((1 : Int64) <<< (ci.toInt64 &&& 63))), .second] [(.int (Int32.ofNat 0)), (.ref b23), (.int 1), (.int 0)] (fun u k => XS.iload X161.here hx rfl (D d20_146) rfl (XT.iconstV X161.here hx rfl (1 : Int32) (D d20_148) (by decide) (XS.aloadN X161.here hx rfl (D d20_149) rfl rfl (XS.iload X161.here hx rfl (D d20_150) rfl k)))) ?_
        obtain ⟨cl162, Ar162, aq162, aS162, aM162, aH162, aG162⟩ := id V161
        refine gb T161 m 72 #[vr a, vr b9, vr b18, vr b23, vi ((0 : Int32) ||| ((1 : Int32) <<< (rv158 &&& 31))), vi ((Int32.ofNat 0) + (1 : Int32)), vi ((Int32.ofNat 0) + (1 : Int32)), vi (XT.ushr ci (6 : Int32)), .val (.long ((1 : Int64) <<< (ci.toInt64 &&& 63))), .second] [] (fun u k => X161.iaload hx (j := (Int32.ofNat 0)) (v := (.int rv158)) (by rw [e161]; exact Ar162.1) (State.isArrayOf_alike hZ.alike Ar162.2.1) Ar162.2.2 (inb_of aS162 ⟨Jk.1, (own_lt (by omega) (by omega)).mpr (by omega)⟩) (Has.at aH162 (inb_of aS162 ⟨Jk.1, (own_lt (by omega) (by omega)).mpr (by omega)⟩) (by rw [Jk.2.1]; exact own_set_self (by rw [hP0.2.1]; omega))) (g := (mkF m 152 #[vr a, vr b9, vr b18, vr b23, vi 0, vi (Int32.ofNat 0), vi (Int32.ofNat 0), vi (XT.ushr ci (6 : Int32)), .val (.long ((1 : Int64) <<< (ci.toInt64 &&& 63))), .second] [(.int (Int32.ofNat 0)), (.ref b23), (.int 1), (.int 0)])) rfl rfl (D d20_152) _ (XT.ishl X161.here hx rfl (D d20_153) rfl (XT.ior X161.here hx rfl (D d20_154) rfl (XS.istore X161.here hx rfl (D d20_155) rfl (l' := #[vr a, vr b9, vr b18, vr b23, vi ((0 : Int32) ||| ((1 : Int32) <<< (rv158 &&& 31))), vi (Int32.ofNat 0), vi (Int32.ofNat 0), vi (XT.ushr ci (6 : Int32)), .val (.long ((1 : Int64) <<< (ci.toInt64 &&& 63))), .second]) rfl (XT.iincV X161.here hx rfl (1 : Int32) (D d20_157) (by decide) rfl (l' := #[vr a, vr b9, vr b18, vr b23, vi ((0 : Int32) ||| ((1 : Int32) <<< (rv158 &&& 31))), vi ((Int32.ofNat 0) + (1 : Int32)), vi (Int32.ofNat 0), vi (XT.ushr ci (6 : Int32)), .val (.long ((1 : Int64) <<< (ci.toInt64 &&& 63))), .second]) rfl (XT.iincV X161.here hx rfl (1 : Int32) (D d20_160) (by decide) rfl (l' := #[vr a, vr b9, vr b18, vr b23, vi ((0 : Int32) ||| ((1 : Int32) <<< (rv158 &&& 31))), vi ((Int32.ofNat 0) + (1 : Int32)), vi ((Int32.ofNat 0) + (1 : Int32)), vi (XT.ushr ci (6 : Int32)), .val (.long ((1 : Int64) <<< (ci.toInt64 &&& 63))), .second]) rfl (XS.goto X161.here hx rfl (pc0 := 163) (pc' := 72) rfl (D d20_163) (by decide) (by decide) k))))))) ?_
        have rw163 : ((Int32.ofNat 0) + (1 : Int32)) = (Int32.ofNat (0 + 1)) := Jk.2.2
        rw [rw163]
        have f164 := ((((f24.ext E23).wr W149).wr W152).wr W161)
        have f165 := ((((f25.ext E23).wr W149).wr W152).wr W161)
        have f166 := (f153.other W161 (Or.inl ne_a_b23))
        have f167 := ((((((F_a_anchor.ext E9).ext E18).ext E23).other W149 (Or.inl ne_a_b9)).other W152 (Or.inl ne_a_b18)).other W161 (Or.inl ne_a_b23))
        have f168 := ((((((F_q_index.ext E9).ext E18).ext E23).other W149 (Or.inl ne_q_b9)).other W152 (Or.inl ne_q_b18)).other W161 (Or.inl ne_q_b23))
        have f169 := (f155.other W161 ne_b_b23)
        have f170 := (f157.other W161 ne_rA_b23)
        have f171 := ((V149.other W152 ne_b9_b18).other W161 ne_b9_b23)
        have f172 := (V152.other W161 ne_b18_b23)
        subst e161
        exact loop (nz - 1) (0 + 1) (by omega) (0 + 1) ((0 : Int32) ||| ((1 : Int32) <<< (rv158 &&& 31))) ([] ++ [rv158]) _ _ T161 _ _ _ _ (by omega) (hL0.set _ _) (hP0.step (by omega) (by omega) (by omega) P158_0.1 P158_0.2) X161 N161 Z161 K161 O161 f164 f165 f166 f167 f168 f169 f170 f171 f172 V161 
      · refine gb T142 m 72 #[vr a, vr b9, vr b18, vr b23, vi 0, vi (Int32.ofNat 0), vi ((Int32.ofNat 0) + (1 : Int32)), vi (XT.ushr ci (6 : Int32)), .val (.long ((1 : Int64) <<< (ci.toInt64 &&& 63))), .second] [] (fun u k => XS.ifYes X142.here hx rfl (pc0 := 114) (pc' := 160) rfl (D d20_114) rfl (XT.ll_ne_t hsn) (by decide) (by decide) (XT.iincV X142.here hx rfl (1 : Int32) (D d20_160) (by decide) rfl (l' := #[vr a, vr b9, vr b18, vr b23, vi 0, vi (Int32.ofNat 0), vi ((Int32.ofNat 0) + (1 : Int32)), vi (XT.ushr ci (6 : Int32)), .val (.long ((1 : Int64) <<< (ci.toInt64 &&& 63))), .second]) rfl (XS.goto X142.here hx rfl (pc0 := 163) (pc' := 72) rfl (D d20_163) (by decide) (by decide) k))) ?_
        have rw173 : ((Int32.ofNat 0) + (1 : Int32)) = (Int32.ofNat (0 + 1)) := Ji.2.2
        rw [rw173]
        have f174 := (f24.ext E23)
        have f175 := (f25.ext E23)
        have f176 := (((F_a_anchor.ext E9).ext E18).ext E23)
        have f177 := (((F_q_index.ext E9).ext E18).ext E23)
        have f178 := (f26.ext E23)
        have f179 := (V18.ext E23)
        subst e142
        exact loop (nz - 1) (0 + 1) (by omega) 0 (0 : Int32) [] _ _ T142 _ _ _ _ (by omega) hL0 hP0 X142 NA16 Z23 K23 O23 f174 f175 f136 f176 f177 f138 f178 f144 f179 V23 
  · refine gb T5 m 17 #[vr a, un, un, un, un, un, un, un, un, un] [(.int 0)] (fun u k => XS.icmpNo X5.here hx rfl (D d20_13) rfl (XT.ii_eq_f h28) (XT.iconstV X5.here hx rfl (0 : Int32) (D d20_16) (by decide) k)) ?_
    obtain ⟨T180, h180, k180, X180, e180, E180, A180, B180, -, st180⟩ := newRE X5 hx hZ hown (H 88 rfl) (H 122 rfl) e5 (g := (mkF m 17 #[vr a, un, un, un, un, un, un, un, un, un] [(.int 0)])) rfl (D d20_17) rfl (by decide) (cap := 0) (by decide) (by decide) (by decide) (by decide) (ad := "[Lbackstitch/Needle$Anchor;") (by decide +kernel)
    obtain ⟨b180, g180⟩ : ∃ z, z = h0.size := ⟨_, rfl⟩
    rw [← g180] at A180 B180 st180
    have ne_a_b180 : a ≠ b180 := Nat.ne_of_lt (Nat.lt_of_lt_of_le E_a.lt (Nat.le_of_eq g180.symm))
    have ne_q_b180 : q ≠ b180 := Nat.ne_of_lt (Nat.lt_of_lt_of_le E_q.lt (Nat.le_of_eq g180.symm))
    have ne_rA_b180 : rA ≠ b180 := Nat.ne_of_lt (Nat.lt_of_lt_of_le V_rA.lt (Nat.le_of_eq g180.symm))
    have ne_b_b180 : b ≠ b180 := Nat.ne_of_lt (Nat.lt_of_lt_of_le V_b.lt (Nat.le_of_eq g180.symm))
    have gb180 : n0 ≤ b180 := Nat.le_trans Z0 (Nat.le_of_eq g180.symm)
    have sz180 : h0.size ≤ b180 := Nat.le_trans K0.1 (Nat.le_of_eq g180.symm)
    have Z180 : n0 ≤ h180.size := Nat.le_trans Z0 E180.1
    have K180 := K0.ext E180
    have O180 := Old0.ext E180
    have V180 : Arv Z h180 b180 k180 (.object "backstitch/Needle$Anchor") (0 : Int32) [] .null := (Arv.new A180 (by decide)).pad (pad_rep [] .null 0)
    refine gb T180 m 20 #[vr a, un, un, un, un, un, un, un, un, un] [(.ref b180)] st180 ?_
    clear st180
    obtain ⟨fs, hr, hrun, hended, hW, hsame⟩ := X180.leave (v := some (.ref b180)) (fun h => by rw [Bd.returns] at h; cases h)
    refine ⟨_, _, retOut X180 hx (t := (.array (.object "backstitch/Needle$Anchor"))) (i := .areturn) Bd.returns rfl (Or.inr (Or.inr (Or.inr (Or.inr ⟨rfl, rfl, rfl⟩)))) (D d20_20) hr, hrun, hended, _, _, rfl, ?_, ⟨_, rfl⟩, hW, hsame.mono (by decide) (by decide)⟩
    show Q_own_lc Z a b q cv ix nz us kb rA kA ra h0 n0 _ T180.heap _
    rw [e180]
    exact ⟨b180, rfl, NA4, K180, gb180, sz180⟩
def F_own_max (p0 : Int32) (p1 : Int32) : Int32 := (if p0 < p1 then p1 else p0)
theorem d25_0 : dc cd25 0 (.iload_n 0) 1 := by decide +kernel
theorem d25_1 : dc cd25 1 (.iload_n 1) 1 := by decide +kernel
theorem d25_2 : dc cd25 2 (.if_icmp .lt 7) 3 := by decide +kernel
theorem d25_5 : dc cd25 5 (.iload_n 0) 1 := by decide +kernel
theorem d25_6 : dc cd25 6 (.goto 4) 3 := by decide +kernel
theorem d25_9 : dc cd25 9 (.iload_n 1) 1 := by decide +kernel
theorem d25_10 : dc cd25 10 .ireturn 1 := by decide +kernel
theorem own_ef_own_max (m : MethodId) (x0 : Int32) (x1 : Int32) : entryFrame m #[(.int x0), (.int x1)] 2 = mkF m 0 #[.val (.int x0), .val (.int x1)] [] := by first | (simp [entryFrame, mkF, argsToLocals, Value.category]; done) | rfl
def Q_own_max (Z : State) (p0 : Int32) (p1 : Int32) (h0 : Heap) (n0 : Nat) (v : Option Value) (h : Heap) (L : List Loc) : Prop := v = some (.int (F_own_max p0 p1)) ∧ Fr n0 L ∧ h = h0
theorem own_max (l : Launch) (Z : State) (a0 : Array Value) (hw : ∀ d ∈ tables_1, d.before a0 Z = true) (ws : List Jvm.Cond) (p0 : Int32) (p1 : Int32) (h0 : Heap) (n0 : Nat) (Z0 : n0 ≤ h0.size) :
    own_Met l Z mn28 jdk_29_method_65_code 2 (some .int) ws rm0 #[(.int p0), (.int p1)] h0 (Q_own_max Z p0 p1 h0 n0) := by
  refine own_start (Jvm.Free.JP.mathPlain rfl (by decide +kernel)) fun p e s m below meth c s₁ Bd hx hby hml hZ hown hnm X0 e0 => ?_
  have H := @own_hw Z a0 hw
  have D := @hb _ _ hby
  have hown : s.vm.findClass "java/lang/Math" = some m.cls := hown
  have N0 := Fr.nil n0
  have K0 := Keep.refl h0 []
  rw [own_ef_own_max m p0 p1]
  refine gb s₁ m 2 #[vi p0, vi p1] [(.int p1), (.int p0)] (fun u k => XS.iloadN X0.here hx rfl (D d25_0) rfl (XS.iloadN X0.here hx rfl (D d25_1) rfl k)) ?_
  by_cases hc1 : p0 < p1
  · refine gb s₁ m 10 #[vi p0, vi p1] [(.int p1)] (fun u k => XS.icmpYes X0.here hx rfl (pc0 := 2) (pc' := 9) rfl (D d25_2) rfl (XT.ii_lt_t hc1) (by decide) (by decide) (XS.iloadN X0.here hx rfl (D d25_9) rfl k)) ?_
    obtain ⟨fs, hr, hrun, hended, hW, hsame⟩ := X0.leave (v := some (.int p1)) (fun h => by rw [Bd.returns] at h; cases h)
    refine ⟨_, _, retI X0 hx Bd.returns (D d25_10) hr, hrun, hended, _, _, rfl, ?_, ⟨_, rfl⟩, hW, hsame.mono (by decide) (by decide)⟩
    show Q_own_max Z p0 p1 h0 n0 _ s₁.heap _
    rw [e0]
    exact ⟨by simp only [F_own_max, if_pos hc1], N0, rfl⟩
  · refine gb s₁ m 10 #[vi p0, vi p1] [(.int p0)] (fun u k => XS.icmpNo X0.here hx rfl (D d25_2) rfl (XT.ii_lt_f hc1) (XS.iloadN X0.here hx rfl (D d25_5) rfl (XS.goto X0.here hx rfl (pc0 := 6) (pc' := 10) rfl (D d25_6) (by decide) (by decide) k))) ?_
    obtain ⟨fs, hr, hrun, hended, hW, hsame⟩ := X0.leave (v := some (.int p0)) (fun h => by rw [Bd.returns] at h; cases h)
    refine ⟨_, _, retI X0 hx Bd.returns (D d25_10) hr, hrun, hended, _, _, rfl, ?_, ⟨_, rfl⟩, hW, hsame.mono (by decide) (by decide)⟩
    show Q_own_max Z p0 p1 h0 n0 _ s₁.heap _
    rw [e0]
    exact ⟨by simp only [F_own_max, if_neg hc1], N0, rfl⟩
/-- Needle.advance, on the borders B -/
def own_adv (cf : Nat → Int32) (B : Nat → Nat) (c : Int32) : Nat → Nat → Nat
  | 0, _ => 0
  | f + 1, m => if cf m = c then m + 1 else if B (m - 1) = 0 then 0 else own_adv cf B c f (B (m - 1))
theorem own_adv_y {cf : Nat → Int32} {B : Nat → Nat} {c : Int32} {f m : Nat} (h : cf m = c) : own_adv cf B c (f + 1) m = m + 1 := by
  show (if cf m = c then m + 1 else if B (m - 1) = 0 then 0 else own_adv cf B c f (B (m - 1))) = m + 1
  rw [if_pos h]
theorem own_adv_z {cf : Nat → Int32} {B : Nat → Nat} {c : Int32} {f m : Nat} (h : ¬ cf m = c) (h0 : B (m - 1) = 0) : own_adv cf B c (f + 1) m = 0 := by
  show (if cf m = c then m + 1 else if B (m - 1) = 0 then 0 else own_adv cf B c f (B (m - 1))) = 0
  rw [if_neg h, if_pos h0]
theorem own_adv_s {cf : Nat → Int32} {B : Nat → Nat} {c : Int32} {f m : Nat} (h : ¬ cf m = c) (h0 : ¬ B (m - 1) = 0) : own_adv cf B c (f + 1) m = own_adv cf B c f (B (m - 1)) := by
  show (if cf m = c then m + 1 else if B (m - 1) = 0 then 0 else own_adv cf B c f (B (m - 1))) = _
  rw [if_neg h, if_neg h0]
theorem own_adv_le {cf : Nat → Int32} {B : Nat → Nat} (hB : ∀ j, B j ≤ j) (c : Int32) : ∀ f m, own_adv cf B c f m ≤ m + 1 := by
  intro f
  induction f with
  | zero => intro m; exact Nat.zero_le _
  | succ f ih =>
    intro m
    by_cases h : cf m = c
    · rw [own_adv_y h]; exact Nat.le_refl _
    · by_cases h0 : B (m - 1) = 0
      · rw [own_adv_z h h0]; omega
      · rw [own_adv_s h h0]
        have a := ih (B (m - 1))
        have b := hB (m - 1)
        omega
/-- the border at i, out of the borders P of the places ahead of it -/
def own_nx (cf : Nat → Int32) (P : Nat → Nat) (i : Nat) : Nat :=
  if 0 < P (i - 1) ∧ own_adv cf P (cf i) 5 (P (i - 1)) ≠ 0 then own_adv cf P (cf i) 5 (P (i - 1)) else if cf 0 = cf i then 1 else 0
/-- the borders after k rounds -/
def own_bl (cf : Nat → Int32) : Nat → Nat → Nat
  | 0 => fun _ => 0
  | k + 1 => fun j => if j = k + 1 then own_nx cf (own_bl cf k) (k + 1) else own_bl cf k j
def own_bf (cf : Nat → Int32) (k : Nat) : Nat → Int32 := fun j => Int32.ofNat (own_bl cf k j)
theorem own_bl_eq (cf : Nat → Int32) (k : Nat) : own_bl cf (k + 1) (k + 1) = own_nx cf (own_bl cf k) (k + 1) := by
  show (if k + 1 = k + 1 then _ else _) = _
  rw [if_pos rfl]
theorem own_bl_ne (cf : Nat → Int32) {k j : Nat} (h : j ≠ k + 1) : own_bl cf (k + 1) j = own_bl cf k j := by
  show (if j = k + 1 then _ else _) = _
  rw [if_neg h]
theorem own_bl_le (cf : Nat → Int32) : ∀ k j, own_bl cf k j ≤ j := by
  intro k
  induction k with
  | zero => intro j; exact Nat.zero_le _
  | succ k ih =>
    intro j
    by_cases h : j = k + 1
    · subst h
      rw [own_bl_eq]
      unfold own_nx
      have a := own_adv_le ih (cf (k + 1)) 5 (own_bl cf k (k + 1 - 1)) (cf := cf)
      have b := ih (k + 1 - 1)
      split
      · omega
      · split <;> omega
    · rw [own_bl_ne cf h]; exact ih j
theorem own_bl_le' (cf : Nat → Int32) {k j : Nat} (h : j < 6) : own_bl cf k j < 64 := by
  have := own_bl_le cf k j
  omega
theorem own_bl_mono (cf : Nat → Int32) {j : Nat} : ∀ k, j ≤ k → own_bl cf k j = own_bl cf j j := by
  intro k
  induction k with
  | zero => intro h; rw [show j = 0 by omega]
  | succ k ih =>
    intro h
    by_cases e : j = k + 1
    · rw [e]
    · rw [own_bl_ne cf e]; exact ih (by omega)
theorem own_gt0 {n : Nat} (hn : n < 64) : (0 : Int32) < Int32.ofNat n ↔ 0 < n := own_lt (a := 0) (b := n) (by decide) hn
theorem own_nxA {cf : Nat → Int32} {k : Nat} (hk : k < 5) (h : (0 : Int32) < Int32.ofNat (own_bl cf k k)) (hz : ¬ Int32.ofNat (own_adv cf (own_bl cf k) (cf (k + 1)) 5 (own_bl cf k k)) = (0 : Int32)) :
    Int32.ofNat (own_adv cf (own_bl cf k) (cf (k + 1)) 5 (own_bl cf k k)) = own_bf cf (k + 1) (k + 1) := by
  have h := (own_gt0 (own_bl_le' cf (by omega))).mp h
  have hz : own_adv cf (own_bl cf k) (cf (k + 1)) 5 (own_bl cf k k) ≠ 0 := fun q => hz (by rw [q]; rfl)
  unfold own_bf
  rw [own_bl_eq]
  unfold own_nx
  rw [show k + 1 - 1 = k from rfl, if_pos ⟨h, hz⟩]
theorem own_nxB {cf : Nat → Int32} {k : Nat} (h : ¬ (0 < own_bl cf k k ∧ own_adv cf (own_bl cf k) (cf (k + 1)) 5 (own_bl cf k k) ≠ 0)) :
    (if cf 0 = cf (k + 1) then (1 : Int32) else (0 : Int32)) = own_bf cf (k + 1) (k + 1) := by
  unfold own_bf
  rw [own_bl_eq]
  unfold own_nx
  rw [show k + 1 - 1 = k from rfl, if_neg h]
  by_cases q : cf 0 = cf (k + 1)
  · rw [if_pos q, if_pos q]; rfl
  · rw [if_neg q, if_neg q]; rfl
theorem own_nxB1 {cf : Nat → Int32} {k : Nat} (hk : k < 5) (hz : Int32.ofNat (own_adv cf (own_bl cf k) (cf (k + 1)) 5 (own_bl cf k k)) = (0 : Int32)) :
    (if cf 0 = cf (k + 1) then (1 : Int32) else (0 : Int32)) = own_bf cf (k + 1) (k + 1) := by
  apply own_nxB
  intro q
  have a := own_adv_le (own_bl_le cf k) (cf (k + 1)) 5 (own_bl cf k k) (cf := cf)
  have b := own_bl_le cf k k
  exact q.2 (own_is0 hz (by omega))
theorem own_nxB0 {cf : Nat → Int32} {k : Nat} (hk : k < 5) (h : ¬ (0 : Int32) < Int32.ofNat (own_bl cf k k)) :
    (if cf 0 = cf (k + 1) then (1 : Int32) else (0 : Int32)) = own_bf cf (k + 1) (k + 1) := by
  apply own_nxB
  intro q
  exact h ((own_gt0 (own_bl_le' cf (by omega))).mpr q.1)
theorem own_m0 {cf : Nat → Int32} {k : Nat} (hk : k < 5) (h : ¬ (0 : Int32) < Int32.ofNat (own_bl cf k k)) : Int32.ofNat (own_bl cf k k) = (0 : Int32) := by
  have a : ¬ 0 < own_bl cf k k := fun q => h ((own_gt0 (own_bl_le' cf (by omega))).mpr q)
  rw [show own_bl cf k k = 0 by omega]; rfl
theorem own_pwB0 {n : Nat} (cf : Nat → Int32) : own_pw n (0 + 1) (own_bf cf 0) (([] : List Value) ++ List.replicate n ((.int 0) : Value)) := by
  refine ⟨by simp, fun j hj => ?_⟩
  rw [pad_rep]; rfl
theorem own_pwB {n k : Nat} {cf : Nat → Int32} {rs : List Value} (h : own_pw n (k + 1) (own_bf cf k) rs) (hk : k + 1 < n) : own_pw n (k + 1 + 1) (own_bf cf (k + 1)) (rs.set (k + 1) (.int (own_bf cf (k + 1) (k + 1)))) :=
  (h.congr fun j hj => by show Int32.ofNat _ = Int32.ofNat _; rw [own_bl_ne cf (by omega)]).step hk rfl
theorem own_and_bit {a b : Int32} (h : a = 0 ∨ a = 1) (q : b = 0 ∨ b = 1) : (a &&& b) = 0 ∨ (a &&& b) = 1 := by
  rcases h with rfl | rfl <;> rcases q with rfl | rfl <;> decide
theorem own_min_c {k : Nat} (h : k < 6) : F_own_min (Int32.ofNat k) (8 : Int32) = Int32.ofNat k := by
  have q : ∀ k : Fin 6, F_own_min (Int32.ofNat k.val) (8 : Int32) = Int32.ofNat k.val := by decide +kernel
  exact q ⟨k, h⟩
theorem own_n8 {k : Nat} (h : k < 6) : ¬ Int32.ofNat k = (8 : Int32) := fun q => absurd (own_inj (n := 8) (by omega) (by decide) q) (by omega)
def own_pd (n : Nat) (cf : Nat → Int32) : Int32 := if n = 0 then 0 else Int32.ofNat n - own_bf cf (n - 1) (n - 1)
theorem own_pd_z {n : Nat} {cf : Nat → Int32} (h : n = 0) : (0 : Int32) = own_pd n cf := by unfold own_pd; rw [if_pos h]
theorem own_pd_s {n : Nat} {cf : Nat → Int32} (h : 0 < n) : Int32.ofNat n - own_bf cf (n - 1) (n - 1) = own_pd n cf := by unfold own_pd; rw [if_neg (by omega)]
theorem own_pd_eq {n : Nat} {cf : Nat → Int32} {x y : Int32} (h0 : 0 < n) (hx : Int32.ofNat n = y) (h : own_bf cf (n - 1) (n - 1) = x) : own_pd n cf = y - x := by rw [← own_pd_s h0, hx, h]
def own_bd2 (c0 c1 : Int32) : Int32 := if c0 = c1 then 1 else 0
def own_bd3 (c0 c1 c2 : Int32) : Int32 := if c0 = c1 ∧ c1 = c2 then 2 else if c0 = c2 then 1 else 0
def own_bd4 (c0 c1 c2 c3 : Int32) : Int32 := if c0 = c1 ∧ c1 = c2 ∧ c2 = c3 then 3 else if c0 = c2 ∧ c1 = c3 then 2 else if c0 = c3 then 1 else 0
def own_bd5 (c0 c1 c2 c3 c4 : Int32) : Int32 := if c0 = c1 ∧ c1 = c2 ∧ c2 = c3 ∧ c3 = c4 then 4 else if c0 = c2 ∧ c1 = c3 ∧ c2 = c4 then 3 else if c0 = c3 ∧ c1 = c4 then 2 else if c0 = c4 then 1 else 0
theorem own_pn7 : plainName "backstitch/Needle$Tally" = true := by first | (simp [plainName, overriddenIn]; done) | decide +kernel
theorem d23_0 : dc cd23 0 (.aload_n 0) 1 := by decide +kernel
theorem d23_1 : dc cd23 1 (.invokespecial 1) 3 := by decide +kernel
theorem d23_4 : dc cd23 4 .return_ 1 := by decide +kernel
theorem own_ef_own_tlInit (m : MethodId) (x0 : Addr) : entryFrame m #[(.ref x0)] 1 = mkF m 0 #[.val (.ref x0)] [] := by first | (simp [entryFrame, mkF, argsToLocals, Value.category]; done) | rfl
def Q_own_tlInit (Z : State) (a : Addr) (h0 : Heap) (n0 : Nat) (v : Option Value) (h : Heap) (L : List Loc) : Prop := v = none ∧ Fr n0 L ∧ h = h0
theorem own_tlInit (l : Launch) (Z : State) (a0 : Array Value) (hw : ∀ d ∈ tables_1, d.before a0 Z = true) (ws : List Jvm.Cond) (a : Addr) (h0 : Heap) (n0 : Nat) (Z0 : n0 ≤ h0.size) :
    own_Met l Z mn29 prog_11_method_1_code 1 none ws rm15 #[(.ref a)] h0 (Q_own_tlInit Z a h0 n0) := by
  refine own_start (plainFor_of_name own_pn7) fun p e s m below meth c s₁ Bd hx hby hml hZ hown hnm X0 e0 => ?_
  have H := @own_hw Z a0 hw
  have D := @hb _ _ hby
  have hown : s.vm.findClass "backstitch/Needle$Tally" = some m.cls := hown
  have N0 := Fr.nil n0
  have K0 := Keep.refl h0 []
  rw [own_ef_own_tlInit m a]
  refine gb s₁ m 1 #[vr a] [(.ref a)] (fun u k => XS.aloadN X0.here hx rfl (D d23_0) rfl rfl k) ?_
  obtain ⟨T1, X1, e1, st1⟩ := initO X0 hx hZ hown (H 144 rfl) (H 21 rfl) (H 22 rfl) e0 (g := (mkF m 1 #[vr a] [(.ref a)])) rfl (by rw [hml]; rfl) rfl (D d23_1) (by decide) (W := 0) (own_w0 rfl) (by decide)
  refine gb T1 m 4 #[vr a] [] st1 ?_
  clear st1
  obtain ⟨fs, hr, hrun, hended, hW, hsame⟩ := X1.leave (v := none) (fun _ => rfl)
  refine ⟨_, _, X1.returnOut hx Bd.returns (D d23_4) hr, hrun, hended, _, _, rfl, ?_, ⟨_, rfl⟩, hW, hsame.mono (by decide) (by decide)⟩
  show Q_own_tlInit Z a h0 n0 _ T1.heap _
  rw [e1]
  exact ⟨rfl, N0, rfl⟩
theorem d24_0 : dc cd24 0 (.aload_n 0) 1 := by decide +kernel
theorem d24_1 : dc cd24 1 (.getfield 7) 3 := by decide +kernel
theorem d24_4 : dc cd24 4 (.iconst 0) 1 := by decide +kernel
theorem d24_5 : dc cd24 5 .caload 1 := by decide +kernel
theorem d24_6 : dc cd24 6 (.iload_n 1) 1 := by decide +kernel
theorem d24_7 : dc cd24 7 (.if_icmp .ne 7) 3 := by decide +kernel
theorem d24_10 : dc cd24 10 (.iconst 1) 1 := by decide +kernel
theorem d24_11 : dc cd24 11 (.goto 4) 3 := by decide +kernel
theorem d24_14 : dc cd24 14 (.iconst 0) 1 := by decide +kernel
theorem d24_15 : dc cd24 15 .ireturn 1 := by decide +kernel
theorem own_ef_own_begin (m : MethodId) (x0 : Addr) (x1 : Int32) : entryFrame m #[(.ref x0), (.int x1)] 2 = mkF m 0 #[.val (.ref x0), .val (.int x1)] [] := by first | (simp [entryFrame, mkF, argsToLocals, Value.category]; done) | rfl
def Q_own_begin (Z : State) (a : Addr) (cc : Int32) (b : Addr) (nz : Nat) (cf : Nat → Int32) (kb : ClassId) (h0 : Heap) (n0 : Nat) (v : Option Value) (h : Heap) (L : List Loc) : Prop := v = some (.int (if (cf 0) = cc then (1 : Int32) else (0 : Int32))) ∧ Fr n0 L ∧ h = h0
theorem own_begin (l : Launch) (Z : State) (a0 : Array Value) (hw : ∀ d ∈ tables_1, d.before a0 Z = true) (ws : List Jvm.Cond) (a : Addr) (cc : Int32) (b : Addr) (nz : Nat) (cf : Nat → Int32) (kb : ClassId) (h0 : Heap) (n0 : Nat) (Z0 : n0 ≤ h0.size) (F_a_units : Fld Z h0 a "backstitch/Needle" "units" "[C" (.ref b)) (V_b : Arv Z h0 b kb .char (Int32.ofNat nz) (own_l nz cf) (.int 0)) (hnz : nz < 6) (hn1 : 0 < nz) :
    own_Met l Z mn30 prog_8_method_35_code 2 (some .int) ws rm0 #[(.ref a), (.int cc)] h0 (Q_own_begin Z a cc b nz cf kb h0 n0) := by
  refine own_start (plainFor_of_name own_pn4) fun p e s m below meth c s₁ Bd hx hby hml hZ hown hnm X0 e0 => ?_
  have H := @own_hw Z a0 hw
  have D := @hb _ _ hby
  have hown : s.vm.findClass "backstitch/Needle" = some m.cls := hown
  have N0 := Fr.nil n0
  have K0 := Keep.refl h0 []
  rw [own_ef_own_begin m a cc]
  refine gb s₁ m 1 #[vr a, vi cc] [(.ref a)] (fun u k => XS.aloadN X0.here hx rfl (D d24_0) rfl rfl k) ?_
  obtain ⟨T1, X1, e1, st1⟩ := getF X0 hx hZ hown (host := "") (Or.inl (H 75 rfl)) Via.refl e0 F_a_units (g := (mkF m 1 #[vr a, vi cc] [(.ref a)])) rfl rfl (D d24_1)
  refine gb T1 m 4 #[vr a, vi cc] [(.ref b)] st1 ?_
  clear st1
  refine gb T1 m 5 #[vr a, vi cc] [(.int 0), (.ref b)] (fun u k => XT.iconstV X1.here hx rfl (0 : Int32) (D d24_4) (by decide) k) ?_
  obtain ⟨cl2, Ar2, aq2, aS2, aM2, aH2, aG2⟩ := id V_b
  refine gb T1 m 7 #[vr a, vi cc] [(.int cc), (.int (cf 0))] (fun u k => X1.caload hx (j := (0 : Int32)) (v := (.int (cf 0))) (by rw [e1]; exact Ar2.1) (State.isArrayOf_alike hZ.alike Ar2.2.1) Ar2.2.2 (inb_of aS2 (own_ib (i := 0) (by omega) (by omega))) (Has.at aH2 (inb_of aS2 (own_ib (i := 0) (by omega) (by omega))) (own_l_at (j := 0) _ (by omega))) (g := (mkF m 5 #[vr a, vi cc] [(.int 0), (.ref b)])) rfl rfl (D d24_5) _ (XS.iloadN X1.here hx rfl (D d24_6) rfl k)) ?_
  by_cases hq0 : (cf 0) = cc
  · refine gb T1 m 15 #[vr a, vi cc] [(.int 1)] (fun u k => XS.icmpNo X1.here hx rfl (D d24_7) rfl (XT.ii_ne_f hq0) (XT.iconstV X1.here hx rfl (1 : Int32) (D d24_10) (by decide) (XS.goto X1.here hx rfl (pc0 := 11) (pc' := 15) rfl (D d24_11) (by decide) (by decide) k))) ?_
    obtain ⟨fs, hr, hrun, hended, hW, hsame⟩ := X1.leave (v := some (.int 1)) (fun h => by rw [Bd.returns] at h; cases h)
    refine ⟨_, _, retI X1 hx Bd.returns (D d24_15) hr, hrun, hended, _, _, rfl, ?_, ⟨_, rfl⟩, hW, hsame.mono (by decide) (by decide)⟩
    show Q_own_begin Z a cc b nz cf kb h0 n0 _ T1.heap _
    rw [e1]
    exact ⟨(by rw [if_pos hq0]), N0, rfl⟩
  · refine gb T1 m 15 #[vr a, vi cc] [(.int 0)] (fun u k => XS.icmpYes X1.here hx rfl (pc0 := 7) (pc' := 14) rfl (D d24_7) rfl (XT.ii_ne_t hq0) (by decide) (by decide) (XT.iconstV X1.here hx rfl (0 : Int32) (D d24_14) (by decide) k)) ?_
    obtain ⟨fs, hr, hrun, hended, hW, hsame⟩ := X1.leave (v := some (.int 0)) (fun h => by rw [Bd.returns] at h; cases h)
    refine ⟨_, _, retI X1 hx Bd.returns (D d24_15) hr, hrun, hended, _, _, rfl, ?_, ⟨_, rfl⟩, hW, hsame.mono (by decide) (by decide)⟩
    show Q_own_begin Z a cc b nz cf kb h0 n0 _ T1.heap _
    rw [e1]
    exact ⟨(by rw [if_neg hq0]), N0, rfl⟩
theorem d33_0 : dc cd33 0 (.aload_n 0) 1 := by decide +kernel
theorem d33_1 : dc cd33 1 (.getfield 7) 3 := by decide +kernel
theorem d33_4 : dc cd33 4 (.iload_n 1) 1 := by decide +kernel
theorem d33_5 : dc cd33 5 .caload 1 := by decide +kernel
theorem d33_6 : dc cd33 6 (.iload_n 2) 1 := by decide +kernel
theorem d33_7 : dc cd33 7 (.if_icmp .eq 28) 3 := by decide +kernel
theorem d33_10 : dc cd33 10 (.aload_n 0) 1 := by decide +kernel
theorem d33_11 : dc cd33 11 (.getfield 60) 3 := by decide +kernel
theorem d33_14 : dc cd33 14 (.iload_n 1) 1 := by decide +kernel
theorem d33_15 : dc cd33 15 (.iconst 1) 1 := by decide +kernel
theorem d33_16 : dc cd33 16 .isub 1 := by decide +kernel
theorem d33_17 : dc cd33 17 .iaload 1 := by decide +kernel
theorem d33_18 : dc cd33 18 (.istore_n 1) 1 := by decide +kernel
theorem d33_19 : dc cd33 19 (.aload_n 3) 1 := by decide +kernel
theorem d33_20 : dc cd33 20 .dup 1 := by decide +kernel
theorem d33_21 : dc cd33 21 (.getfield 77) 3 := by decide +kernel
theorem d33_24 : dc cd33 24 (.lconst 1) 1 := by decide +kernel
theorem d33_25 : dc cd33 25 .ladd 1 := by decide +kernel
theorem d33_26 : dc cd33 26 (.putfield 77) 3 := by decide +kernel
theorem d33_29 : dc cd33 29 (.iload_n 1) 1 := by decide +kernel
theorem d33_30 : dc cd33 30 (.ifCond .ne (-30)) 3 := by decide +kernel
theorem d33_33 : dc cd33 33 (.iconst 0) 1 := by decide +kernel
theorem d33_34 : dc cd33 34 .ireturn 1 := by decide +kernel
theorem d33_35 : dc cd33 35 (.iload_n 1) 1 := by decide +kernel
theorem d33_36 : dc cd33 36 (.iconst 1) 1 := by decide +kernel
theorem d33_37 : dc cd33 37 .iadd 1 := by decide +kernel
theorem d33_38 : dc cd33 38 .ireturn 1 := by decide +kernel
theorem own_ef_own_advC (m : MethodId) (x0 : Addr) (x1 : Int32) (x2 : Int32) (x3 : Addr) : entryFrame m #[(.ref x0), (.int x1), (.int x2), (.ref x3)] 4 = mkF m 0 #[.val (.ref x0), .val (.int x1), .val (.int x2), .val (.ref x3)] [] := by first | (simp [entryFrame, mkF, argsToLocals, Value.category]; done) | rfl
def Q_own_advC (Z : State) (a : Addr) (cc : Int32) (tl : Addr) (b : Addr) (r : Addr) (xe : Int64) (nz : Nat) (cf : Nat → Int32) (kb : ClassId) (kr : ClassId) (rs : List Value) (B : Nat → Nat) (mz : Nat) (iz : Nat) (h0 : Heap) (n0 : Nat) (v : Option Value) (h : Heap) (L : List Loc) : Prop := ∃ ev : Int64, v = some (.int (Int32.ofNat (own_adv cf B cc 5 mz))) ∧ Fr n0 L ∧ Keep h0 h [tl] ∧ Exa Z h tl "backstitch/Needle$Tally" ∧ Fld Z h tl "backstitch/Needle$Tally" "extra" "J" (.long ev)
theorem own_advC (l : Launch) (Z : State) (a0 : Array Value) (hw : ∀ d ∈ tables_1, d.before a0 Z = true) (ws : List Jvm.Cond) (a : Addr) (cc : Int32) (tl : Addr) (b : Addr) (r : Addr) (xe : Int64) (nz : Nat) (cf : Nat → Int32) (kb : ClassId) (kr : ClassId) (rs : List Value) (B : Nat → Nat) (mz : Nat) (iz : Nat) (h0 : Heap) (n0 : Nat) (Z0 : n0 ≤ h0.size) (E_tl : Exa Z h0 tl "backstitch/Needle$Tally") (F_a_units : Fld Z h0 a "backstitch/Needle" "units" "[C" (.ref b)) (F_a_borders : Fld Z h0 a "backstitch/Needle" "borders" "[I" (.ref r)) (F_tl_extra : Fld Z h0 tl "backstitch/Needle$Tally" "extra" "J" (.long xe)) (g_tl : n0 ≤ tl) (ne_tl_a : tl ≠ a) (ne_tl_b : tl ≠ b) (ne_tl_r : tl ≠ r) (V_b : Arv Z h0 b kb .char (Int32.ofNat nz) (own_l nz cf) (.int 0)) (V_r : Arv Z h0 r kr .int (Int32.ofNat nz) rs (.int 0)) (hnz : nz < 6) (hpr : own_pw nz iz (fun j => Int32.ofNat (B j)) rs) (hB : ∀ j, B j ≤ j) (hm : 0 < mz ∧ mz ≤ iz ∧ iz < nz) :
    own_Met l Z mn31 prog_8_method_34_code 4 (some .int) ws rm0 #[(.ref a), (.int (Int32.ofNat mz)), (.int cc), (.ref tl)] h0 (Q_own_advC Z a cc tl b r xe nz cf kb kr rs B mz iz h0 n0) := by
  refine own_start (plainFor_of_name own_pn4) fun p e s m below meth c s₁ Bd hx hby hml hZ hown hnm X0 e0 => ?_
  have H := @own_hw Z a0 hw
  have D := @hb _ _ hby
  have hown : s.vm.findClass "backstitch/Needle" = some m.cls := hown
  have N0 := Fr.nil n0
  have K0 := Keep.refl h0 [tl]
  rw [own_ef_own_advC m a (Int32.ofNat mz) cc tl]
  have loop : ∀ (f9 : Nat) (m9 : Nat) (ev9 : Int64) (T9 : State) (L9 : List Loc), (m9 ≤ f9) → (0 < m9) → (m9 ≤ mz) → (own_adv cf B cc f9 m9 = own_adv cf B cc 5 mz) → Stand p l e rm0 s m #[(.ref a), (.int (Int32.ofNat mz)), (.int cc), (.ref tl)] below meth c T9 L9 0 0 → Fr n0 L9 → n0 ≤ T9.heap.size → Keep h0 T9.heap [tl] → Exa Z T9.heap tl "backstitch/Needle$Tally" → Fld Z T9.heap a "backstitch/Needle" "units" "[C" (.ref b) → Fld Z T9.heap a "backstitch/Needle" "borders" "[I" (.ref r) → Fld Z T9.heap tl "backstitch/Needle$Tally" "extra" "J" (.long ev9) → Arv Z T9.heap b kb .char (Int32.ofNat nz) (own_l nz cf) (.int 0) → Arv Z T9.heap r kr .int (Int32.ofNat nz) rs (.int 0) → Go p e below (own_F s below (Q_own_advC Z a cc tl b r xe nz cf kb kr rs B mz iz h0 n0) rm0.cells rm0.slots) (T9.setTop (mkF m 0 #[vr a, vi (Int32.ofNat m9), vi cc, vr tl] [])) := by
    intro f9
    induction f9 with
    | zero =>
      intro m9 ev9 T9 L9 hf9 hm9 hz_ hR9 X9 N9 Z9 K9 G9_0 G9_1 G9_2 G9_3 G9_4 G9_5
      exact absurd hf9 (by omega)
    | succ f9 ih9 =>
      intro m9 ev9 T9 L9 hf9 hm9 hz_ hR9 X9 N9 Z9 K9 G9_0 G9_1 G9_2 G9_3 G9_4 G9_5
      refine gb T9 m 1 #[vr a, vi (Int32.ofNat m9), vi cc, vr tl] [(.ref a)] (fun u k => XS.aloadN X9.here hx rfl (D d33_0) rfl rfl k) ?_
      obtain ⟨T1, X1, e1, st1⟩ := getF X9 hx hZ hown (host := "") (Or.inl (H 75 rfl)) Via.refl rfl G9_1 (g := (mkF m 1 #[vr a, vi (Int32.ofNat m9), vi cc, vr tl] [(.ref a)])) rfl rfl (D d33_1)
      refine gb T1 m 4 #[vr a, vi (Int32.ofNat m9), vi cc, vr tl] [(.ref b)] st1 ?_
      clear st1
      refine gb T1 m 5 #[vr a, vi (Int32.ofNat m9), vi cc, vr tl] [(.int (Int32.ofNat m9)), (.ref b)] (fun u k => XS.iloadN X1.here hx rfl (D d33_4) rfl k) ?_
      obtain ⟨cl2, Ar2, aq2, aS2, aM2, aH2, aG2⟩ := id G9_4
      refine gb T1 m 7 #[vr a, vi (Int32.ofNat m9), vi cc, vr tl] [(.int cc), (.int (cf m9))] (fun u k => X1.caload hx (j := (Int32.ofNat m9)) (v := (.int (cf m9))) (by rw [e1]; exact Ar2.1) (State.isArrayOf_alike hZ.alike Ar2.2.1) Ar2.2.2 (inb_of aS2 (own_ib (by omega) (by omega))) (Has.at aH2 (inb_of aS2 (own_ib (by omega) (by omega))) (own_ld _ (by omega) (by omega))) (g := (mkF m 5 #[vr a, vi (Int32.ofNat m9), vi cc, vr tl] [(.int (Int32.ofNat m9)), (.ref b)])) rfl rfl (D d33_5) _ (XS.iloadN X1.here hx rfl (D d33_6) rfl k)) ?_
      by_cases hq9 : (cf m9) = cc
      · refine gb T1 m 38 #[vr a, vi (Int32.ofNat m9), vi cc, vr tl] [(.int ((Int32.ofNat m9) + (1 : Int32)))] (fun u k => XS.icmpYes X1.here hx rfl (pc0 := 7) (pc' := 35) rfl (D d33_7) rfl (XT.ii_eq_t hq9) (by decide) (by decide) (XS.iloadN X1.here hx rfl (D d33_35) rfl (XT.iconstV X1.here hx rfl (1 : Int32) (D d33_36) (by decide) (XS.iadd X1.here hx rfl (D d33_37) rfl k)))) ?_
        have rw4 : ((Int32.ofNat m9) + (1 : Int32)) = (Int32.ofNat (m9 + 1)) := (own_j m9 (by omega)).2.2
        rw [rw4]
        obtain ⟨fs, hr, hrun, hended, hW, hsame⟩ := X1.leave (v := some (.int (Int32.ofNat (m9 + 1)))) (fun h => by rw [Bd.returns] at h; cases h)
        refine ⟨_, _, retI X1 hx Bd.returns (D d33_38) hr, hrun, hended, _, _, rfl, ?_, ⟨_, rfl⟩, hW, hsame.mono (by decide) (by decide)⟩
        show Q_own_advC Z a cc tl b r xe nz cf kb kr rs B mz iz h0 n0 _ T1.heap _
        rw [e1]
        exact ⟨ev9, (congrArg (fun z => some (Value.int (Int32.ofNat z))) ((own_adv_y hq9).symm.trans hR9)), N9, K9, G9_0, G9_3⟩
      · refine gb T1 m 11 #[vr a, vi (Int32.ofNat m9), vi cc, vr tl] [(.ref a)] (fun u k => XS.icmpNo X1.here hx rfl (D d33_7) rfl (XT.ii_eq_f hq9) (XS.aloadN X1.here hx rfl (D d33_10) rfl rfl k)) ?_
        obtain ⟨T5, X5, e5, st5⟩ := getF X1 hx hZ hown (host := "") (Or.inl (H 136 rfl)) Via.refl e1 G9_2 (g := (mkF m 11 #[vr a, vi (Int32.ofNat m9), vi cc, vr tl] [(.ref a)])) rfl rfl (D d33_11)
        refine gb T5 m 14 #[vr a, vi (Int32.ofNat m9), vi cc, vr tl] [(.ref r)] st5 ?_
        clear st5
        refine gb T5 m 17 #[vr a, vi (Int32.ofNat m9), vi cc, vr tl] [(.int ((Int32.ofNat m9) - (1 : Int32))), (.ref r)] (fun u k => XS.iloadN X5.here hx rfl (D d33_14) rfl (XT.iconstV X5.here hx rfl (1 : Int32) (D d33_15) (by decide) (XS.isub X5.here hx rfl (D d33_16) rfl k))) ?_
        have rw6 : ((Int32.ofNat m9) - (1 : Int32)) = (Int32.ofNat (m9 - 1)) := own_pred (by omega) (by omega)
        rw [rw6]
        obtain ⟨cl7, Ar7, aq7, aS7, aM7, aH7, aG7⟩ := id G9_5
        refine gb T5 m 21 #[vr a, vi (Int32.ofNat (B (m9 - 1))), vi cc, vr tl] [(.ref tl), (.ref tl)] (fun u k => X5.iaload hx (j := (Int32.ofNat (m9 - 1))) (v := (.int (Int32.ofNat (B (m9 - 1))))) (by rw [e5]; exact Ar7.1) (State.isArrayOf_alike hZ.alike Ar7.2.1) Ar7.2.2 (inb_of aS7 (own_ib (by omega) (by omega))) (Has.at aH7 (inb_of aS7 (own_ib (by omega) (by omega))) (hpr.ld (by omega) (by omega))) (g := (mkF m 17 #[vr a, vi (Int32.ofNat m9), vi cc, vr tl] [(.int (Int32.ofNat (m9 - 1))), (.ref r)])) rfl rfl (D d33_17) _ (XS.istoreN X5.here hx rfl (D d33_18) rfl (l' := #[vr a, vi (Int32.ofNat (B (m9 - 1))), vi cc, vr tl]) rfl (XS.aloadN X5.here hx rfl (D d33_19) rfl rfl (XS.dup X5.here hx rfl (D d33_20) rfl rfl k)))) ?_
        obtain ⟨T8, X8, e8, st8⟩ := getF X5 hx hZ hown (host := "") (Or.inl (H 153 rfl)) Via.refl e5 G9_3 (g := (mkF m 21 #[vr a, vi (Int32.ofNat (B (m9 - 1))), vi cc, vr tl] [(.ref tl), (.ref tl)])) rfl rfl (D d33_21)
        refine gb T8 m 24 #[vr a, vi (Int32.ofNat (B (m9 - 1))), vi cc, vr tl] [(.long ev9), (.ref tl)] st8 ?_
        clear st8
        refine gb T8 m 26 #[vr a, vi (Int32.ofNat (B (m9 - 1))), vi cc, vr tl] [(.long (ev9 + (1 : Int64))), (.ref tl)] (fun u k => XT.lconstV X8.here hx rfl (1 : Int64) (D d33_24) (by decide) (XT.ladd X8.here hx rfl (D d33_25) rfl k)) ?_
        obtain ⟨T9, h9, X9, e9, W9, st9⟩ := putF X8 hx hZ hown (host := "") (Or.inl (H 153 rfl)) Via.refl e8 G9_3 G9_0 (Or.inl (H 154 rfl)) (H 139 rfl) (ty := .long) (by decide) rfl rfl (g := (mkF m 26 #[vr a, vi (Int32.ofNat (B (m9 - 1))), vi cc, vr tl] [(.long (ev9 + (1 : Int64))), (.ref tl)])) rfl rfl (D d33_26)
        have Z9 : n0 ≤ h9.size := Nat.le_trans Z9 (Keep.of_wr W9).1
        have K9 := K9.wr W9 (Or.inl (List.mem_of_getElem? (i := 0) rfl))
        have N9 := Fr.snoc X9 N9 g_tl
        have F9 := G9_3.same W9
        refine gb T9 m 29 #[vr a, vi (Int32.ofNat (B (m9 - 1))), vi cc, vr tl] [] st9 ?_
        clear st9
        refine gb T9 m 30 #[vr a, vi (Int32.ofNat (B (m9 - 1))), vi cc, vr tl] [(.int (Int32.ofNat (B (m9 - 1))))] (fun u k => XS.iloadN X9.here hx rfl (D d33_29) rfl k) ?_
        have hB9 := hB (m9 - 1)
        by_cases hz9 : (Int32.ofNat (B (m9 - 1))) = (0 : Int32)
        · refine gb T9 m 34 #[vr a, vi (Int32.ofNat (B (m9 - 1))), vi cc, vr tl] [(.int 0)] (fun u k => XS.ifNo X9.here hx rfl (D d33_30) rfl (XT.i0_ne_f hz9) (XT.iconstV X9.here hx rfl (0 : Int32) (D d33_33) (by decide) k)) ?_
          have f11 := (G9_0.wr W9)
          obtain ⟨fs, hr, hrun, hended, hW, hsame⟩ := X9.leave (v := some (.int 0)) (fun h => by rw [Bd.returns] at h; cases h)
          refine ⟨_, _, retI X9 hx Bd.returns (D d33_34) hr, hrun, hended, _, _, rfl, ?_, ⟨_, rfl⟩, hW, hsame.mono (by decide) (by decide)⟩
          show Q_own_advC Z a cc tl b r xe nz cf kb kr rs B mz iz h0 n0 _ T9.heap _
          rw [e9]
          exact ⟨(ev9 + (1 : Int64)), (congrArg (fun z => some (Value.int (Int32.ofNat z))) ((own_adv_z hq9 (own_is0 hz9 (by omega))).symm.trans hR9)), N9, K9, f11, F9⟩
        · refine gb T9 m 0 #[vr a, vi (Int32.ofNat (B (m9 - 1))), vi cc, vr tl] [] (fun u k => XS.ifYes X9.here hx rfl (pc0 := 30) (pc' := 0) rfl (D d33_30) rfl (XT.i0_ne_t hz9) (by decide) (by decide) k) ?_
          have f12 := (G9_0.wr W9)
          have f13 := (G9_1.other W9 (Or.inl (Ne.symm ne_tl_a)))
          have f14 := (G9_2.other W9 (Or.inl (Ne.symm ne_tl_a)))
          have f15 := (G9_4.other W9 (Ne.symm ne_tl_b))
          have f16 := (G9_5.other W9 (Ne.symm ne_tl_r))
          subst e9
          exact ih9 (B (m9 - 1)) _ T9 _ (by omega) (own_pos hz9) (by omega) ((own_adv_s hq9 (fun q => absurd (own_pos hz9) (by omega))).symm.trans hR9) X9 N9 Z9 K9 f12 f13 f14 F9 f15 f16 
  subst e0
  exact loop 5 mz _ s₁ _ (by omega) hm.1 (Nat.le_refl _) rfl X0 N0 Z0 K0 E_tl F_a_units F_a_borders F_tl_extra V_b V_r 
theorem own_pd23 : parseMethodDescriptor "()[Lbackstitch/Needle$Anchor;" = some ⟨[], some (.array (.object "backstitch/Needle$Anchor"))⟩ := by decide +kernel
theorem own_pd24 : parseMethodDescriptor "(ICLbackstitch/Needle$Tally;)I" = some ⟨[.int, .char, (.object "backstitch/Needle$Tally")], some .int⟩ := by decide +kernel
theorem d15_0 : dc cd15 0 (.aload_n 0) 1 := by decide +kernel
theorem d15_1 : dc cd15 1 (.invokespecial 1) 3 := by decide +kernel
theorem d15_4 : dc cd15 4 (.aload_n 0) 1 := by decide +kernel
theorem d15_5 : dc cd15 5 (.aload_n 1) 1 := by decide +kernel
theorem d15_6 : dc cd15 6 (.putfield 7) 3 := by decide +kernel
theorem d15_9 : dc cd15 9 (.aload_n 0) 1 := by decide +kernel
theorem d15_10 : dc cd15 10 (.iload_n 2) 1 := by decide +kernel
theorem d15_11 : dc cd15 11 (.putfield 13) 3 := by decide +kernel
theorem d15_14 : dc cd15 14 (.iconst 0) 1 := by decide +kernel
theorem d15_15 : dc cd15 15 (.istore_n 3) 1 := by decide +kernel
theorem d15_16 : dc cd15 16 (.iconst 1) 1 := by decide +kernel
theorem d15_17 : dc cd15 17 (.istore 4) 2 := by decide +kernel
theorem d15_19 : dc cd15 19 (.iload 4) 2 := by decide +kernel
theorem d15_21 : dc cd15 21 (.aload_n 1) 1 := by decide +kernel
theorem d15_22 : dc cd15 22 .arraylength 1 := by decide +kernel
theorem d15_23 : dc cd15 23 (.if_icmp .ge 28) 3 := by decide +kernel
theorem d15_26 : dc cd15 26 (.aload_n 1) 1 := by decide +kernel
theorem d15_27 : dc cd15 27 (.iload 4) 2 := by decide +kernel
theorem d15_29 : dc cd15 29 .caload 1 := by decide +kernel
theorem d15_30 : dc cd15 30 (.invokestatic 17) 3 := by decide +kernel
theorem d15_33 : dc cd15 33 (.aload_n 1) 1 := by decide +kernel
theorem d15_34 : dc cd15 34 (.iload_n 3) 1 := by decide +kernel
theorem d15_35 : dc cd15 35 .caload 1 := by decide +kernel
theorem d15_36 : dc cd15 36 (.invokestatic 17) 3 := by decide +kernel
theorem d15_39 : dc cd15 39 (.if_icmp .le 6) 3 := by decide +kernel
theorem d15_42 : dc cd15 42 (.iload 4) 2 := by decide +kernel
theorem d15_44 : dc cd15 44 (.istore_n 3) 1 := by decide +kernel
theorem d15_45 : dc cd15 45 (.iinc 4 1) 3 := by decide +kernel
theorem d15_48 : dc cd15 48 (.goto (-29)) 3 := by decide +kernel
theorem d15_51 : dc cd15 51 (.aload_n 0) 1 := by decide +kernel
theorem d15_52 : dc cd15 52 (.aload_n 0) 1 := by decide +kernel
theorem d15_53 : dc cd15 53 (.iload_n 3) 1 := by decide +kernel
theorem d15_54 : dc cd15 54 (.invokevirtual 21) 3 := by decide +kernel
theorem d15_57 : dc cd15 57 (.putfield 25) 3 := by decide +kernel
theorem d15_60 : dc cd15 60 (.aload_n 0) 1 := by decide +kernel
theorem d15_61 : dc cd15 61 (.aload_n 0) 1 := by decide +kernel
theorem d15_62 : dc cd15 62 (.invokevirtual 29) 3 := by decide +kernel
theorem d15_65 : dc cd15 65 (.putfield 33) 3 := by decide +kernel
theorem d15_68 : dc cd15 68 (.aload_n 0) 1 := by decide +kernel
theorem d15_69 : dc cd15 69 (.aload_n 1) 1 := by decide +kernel
theorem d15_70 : dc cd15 70 .arraylength 1 := by decide +kernel
theorem d15_71 : dc cd15 71 (.bipush 8) 2 := by decide +kernel
theorem d15_73 : dc cd15 73 (.invokestatic 39) 3 := by decide +kernel
theorem d15_76 : dc cd15 76 (.putfield 45) 3 := by decide +kernel
theorem d15_79 : dc cd15 79 (.lconst 0) 1 := by decide +kernel
theorem d15_80 : dc cd15 80 (.lstore 4) 2 := by decide +kernel
theorem d15_82 : dc cd15 82 (.iconst 0) 1 := by decide +kernel
theorem d15_83 : dc cd15 83 (.istore 6) 2 := by decide +kernel
theorem d15_85 : dc cd15 85 (.iload_n 2) 1 := by decide +kernel
theorem d15_86 : dc cd15 86 (.ifCond .eq 34) 3 := by decide +kernel
theorem d15_120 : dc cd15 120 (.aload_n 0) 1 := by decide +kernel
theorem d15_121 : dc cd15 121 (.lload 4) 2 := by decide +kernel
theorem d15_123 : dc cd15 123 (.putfield 51) 3 := by decide +kernel
theorem d15_126 : dc cd15 126 (.aload_n 0) 1 := by decide +kernel
theorem d15_127 : dc cd15 127 (.aload_n 0) 1 := by decide +kernel
theorem d15_128 : dc cd15 128 (.getfield 45) 3 := by decide +kernel
theorem d15_131 : dc cd15 131 (.bipush 8) 2 := by decide +kernel
theorem d15_133 : dc cd15 133 (.if_icmp .ne 9) 3 := by decide +kernel
theorem d15_142 : dc cd15 142 (.lconst 1) 1 := by decide +kernel
theorem d15_143 : dc cd15 143 (.bipush 8) 2 := by decide +kernel
theorem d15_145 : dc cd15 145 (.aload_n 0) 1 := by decide +kernel
theorem d15_146 : dc cd15 146 (.getfield 45) 3 := by decide +kernel
theorem d15_149 : dc cd15 149 .imul 1 := by decide +kernel
theorem d15_150 : dc cd15 150 .lshl 1 := by decide +kernel
theorem d15_151 : dc cd15 151 (.lconst 1) 1 := by decide +kernel
theorem d15_152 : dc cd15 152 .lsub 1 := by decide +kernel
theorem d15_153 : dc cd15 153 (.putfield 57) 3 := by decide +kernel
theorem d15_156 : dc cd15 156 (.aload_n 0) 1 := by decide +kernel
theorem d15_157 : dc cd15 157 (.aload_n 1) 1 := by decide +kernel
theorem d15_158 : dc cd15 158 .arraylength 1 := by decide +kernel
theorem d15_159 : dc cd15 159 (.newarray .int) 2 := by decide +kernel
theorem d15_161 : dc cd15 161 (.putfield 60) 3 := by decide +kernel
theorem d15_164 : dc cd15 164 (.new 64) 3 := by decide +kernel
theorem d15_167 : dc cd15 167 .dup 1 := by decide +kernel
theorem d15_168 : dc cd15 168 (.invokespecial 66) 3 := by decide +kernel
theorem d15_171 : dc cd15 171 (.astore 6) 2 := by decide +kernel
theorem d15_173 : dc cd15 173 (.iconst 0) 1 := by decide +kernel
theorem d15_174 : dc cd15 174 (.istore 7) 2 := by decide +kernel
theorem d15_176 : dc cd15 176 (.iconst 1) 1 := by decide +kernel
theorem d15_177 : dc cd15 177 (.istore 8) 2 := by decide +kernel
theorem d15_179 : dc cd15 179 (.iload 8) 2 := by decide +kernel
theorem d15_181 : dc cd15 181 (.aload_n 1) 1 := by decide +kernel
theorem d15_182 : dc cd15 182 .arraylength 1 := by decide +kernel
theorem d15_183 : dc cd15 183 (.if_icmp .ge 52) 3 := by decide +kernel
theorem d15_186 : dc cd15 186 (.iload 7) 2 := by decide +kernel
theorem d15_188 : dc cd15 188 (.ifCond .le 17) 3 := by decide +kernel
theorem d15_191 : dc cd15 191 (.aload_n 0) 1 := by decide +kernel
theorem d15_192 : dc cd15 192 (.iload 7) 2 := by decide +kernel
theorem d15_194 : dc cd15 194 (.aload_n 1) 1 := by decide +kernel
theorem d15_195 : dc cd15 195 (.iload 8) 2 := by decide +kernel
theorem d15_197 : dc cd15 197 .caload 1 := by decide +kernel
theorem d15_198 : dc cd15 198 (.aload 6) 2 := by decide +kernel
theorem d15_200 : dc cd15 200 (.invokevirtual 67) 3 := by decide +kernel
theorem d15_203 : dc cd15 203 (.istore 7) 2 := by decide +kernel
theorem d15_205 : dc cd15 205 (.iload 7) 2 := by decide +kernel
theorem d15_207 : dc cd15 207 (.ifCond .ne 13) 3 := by decide +kernel
theorem d15_210 : dc cd15 210 (.aload_n 0) 1 := by decide +kernel
theorem d15_211 : dc cd15 211 (.aload_n 1) 1 := by decide +kernel
theorem d15_212 : dc cd15 212 (.iload 8) 2 := by decide +kernel
theorem d15_214 : dc cd15 214 .caload 1 := by decide +kernel
theorem d15_215 : dc cd15 215 (.invokevirtual 71) 3 := by decide +kernel
theorem d15_218 : dc cd15 218 (.istore 7) 2 := by decide +kernel
theorem d15_220 : dc cd15 220 (.aload_n 0) 1 := by decide +kernel
theorem d15_221 : dc cd15 221 (.getfield 60) 3 := by decide +kernel
theorem d15_224 : dc cd15 224 (.iload 8) 2 := by decide +kernel
theorem d15_226 : dc cd15 226 (.iload 7) 2 := by decide +kernel
theorem d15_228 : dc cd15 228 .iastore 1 := by decide +kernel
theorem d15_229 : dc cd15 229 (.iinc 8 1) 3 := by decide +kernel
theorem d15_232 : dc cd15 232 (.goto (-53)) 3 := by decide +kernel
theorem d15_235 : dc cd15 235 (.aload_n 0) 1 := by decide +kernel
theorem d15_236 : dc cd15 236 (.aload_n 1) 1 := by decide +kernel
theorem d15_237 : dc cd15 237 .arraylength 1 := by decide +kernel
theorem d15_238 : dc cd15 238 (.iconst 1) 1 := by decide +kernel
theorem d15_239 : dc cd15 239 .isub 1 := by decide +kernel
theorem d15_240 : dc cd15 240 (.iconst 0) 1 := by decide +kernel
theorem d15_241 : dc cd15 241 (.invokestatic 74) 3 := by decide +kernel
theorem d15_244 : dc cd15 244 .i2l 1 := by decide +kernel
theorem d15_245 : dc cd15 245 (.aload 6) 2 := by decide +kernel
theorem d15_247 : dc cd15 247 (.getfield 77) 3 := by decide +kernel
theorem d15_250 : dc cd15 250 .ladd 1 := by decide +kernel
theorem d15_251 : dc cd15 251 (.putfield 80) 3 := by decide +kernel
theorem d15_254 : dc cd15 254 (.iconst 1) 1 := by decide +kernel
theorem d15_255 : dc cd15 255 (.istore 8) 2 := by decide +kernel
theorem d15_257 : dc cd15 257 (.aload_n 0) 1 := by decide +kernel
theorem d15_258 : dc cd15 258 (.getfield 60) 3 := by decide +kernel
theorem d15_261 : dc cd15 261 (.astore 9) 2 := by decide +kernel
theorem d15_263 : dc cd15 263 (.aload 9) 2 := by decide +kernel
theorem d15_265 : dc cd15 265 .arraylength 1 := by decide +kernel
theorem d15_266 : dc cd15 266 (.istore 10) 2 := by decide +kernel
theorem d15_268 : dc cd15 268 (.iconst 0) 1 := by decide +kernel
theorem d15_269 : dc cd15 269 (.istore 11) 2 := by decide +kernel
theorem d15_271 : dc cd15 271 (.iload 11) 2 := by decide +kernel
theorem d15_273 : dc cd15 273 (.iload 10) 2 := by decide +kernel
theorem d15_275 : dc cd15 275 (.if_icmp .ge 31) 3 := by decide +kernel
theorem d15_278 : dc cd15 278 (.aload 9) 2 := by decide +kernel
theorem d15_280 : dc cd15 280 (.iload 11) 2 := by decide +kernel
theorem d15_282 : dc cd15 282 .iaload 1 := by decide +kernel
theorem d15_283 : dc cd15 283 (.istore 12) 2 := by decide +kernel
theorem d15_285 : dc cd15 285 (.iload 8) 2 := by decide +kernel
theorem d15_287 : dc cd15 287 (.iload 12) 2 := by decide +kernel
theorem d15_289 : dc cd15 289 (.ifCond .ne 7) 3 := by decide +kernel
theorem d15_292 : dc cd15 292 (.iconst 1) 1 := by decide +kernel
theorem d15_293 : dc cd15 293 (.goto 4) 3 := by decide +kernel
theorem d15_296 : dc cd15 296 (.iconst 0) 1 := by decide +kernel
theorem d15_297 : dc cd15 297 .iand 1 := by decide +kernel
theorem d15_298 : dc cd15 298 (.istore 8) 2 := by decide +kernel
theorem d15_300 : dc cd15 300 (.iinc 11 1) 3 := by decide +kernel
theorem d15_303 : dc cd15 303 (.goto (-32)) 3 := by decide +kernel
theorem d15_306 : dc cd15 306 (.aload_n 0) 1 := by decide +kernel
theorem d15_307 : dc cd15 307 (.iload 8) 2 := by decide +kernel
theorem d15_309 : dc cd15 309 (.putfield 83) 3 := by decide +kernel
theorem d15_312 : dc cd15 312 .return_ 1 := by decide +kernel
theorem own_ef_own_ndInit (m : MethodId) (x0 : Addr) (x1 : Addr) : entryFrame m #[(.ref x0), (.ref x1), (.int 0)] 13 = mkF m 0 #[.val (.ref x0), .val (.ref x1), .val (.int 0), .unset, .unset, .unset, .unset, .unset, .unset, .unset, .unset, .unset, .unset] [] := by first | (simp [entryFrame, mkF, argsToLocals, Value.category]; done) | rfl
def Q_own_ndInit (Z : State) (a : Addr) (b : Addr) (nz : Nat) (cf : Nat → Int32) (kb : ClassId) (rA : Addr) (kA : ClassId) (ra : List Value) (h0 : Heap) (n0 : Nat) (v : Option Value) (h : Heap) (L : List Loc) : Prop := ∃ r : Addr, ∃ kr : ClassId, v = none ∧ Fr n0 L ∧ Keep h0 h [a] ∧ n0 ≤ r ∧ h0.size ≤ r ∧ Exa Z h a "backstitch/Needle" ∧ Fld Z h a "backstitch/Needle" "units" "[C" (.ref b) ∧ Fld Z h a "backstitch/Needle" "ofBytes" "Z" (.int 0) ∧ Fld Z h a "backstitch/Needle" "borders" "[I" (.ref r) ∧ Exa Z h r "[I" ∧ Arv Z h r kr .int (Int32.ofNat nz) (own_l nz (own_bf cf (nz - 1))) (.int 0)
theorem own_ndInit (l : Launch) (Z : State) (a0 : Array Value) (hw : ∀ d ∈ tables_1, d.before a0 Z = true) (ws : List Jvm.Cond) (a : Addr) (b : Addr) (nz : Nat) (cf : Nat → Int32) (kb : ClassId) (rA : Addr) (kA : ClassId) (ra : List Value) (h0 : Heap) (n0 : Nat) (Z0 : n0 ≤ h0.size) (E_a : Exa Z h0 a "backstitch/Needle") (F_a_units : Fld Z h0 a "backstitch/Needle" "units" "[C" .null) (F_a_ofBytes : Fld Z h0 a "backstitch/Needle" "ofBytes" "Z" (.int 0)) (F_a_anchor : Fld Z h0 a "backstitch/Needle" "anchor" "Lbackstitch/Needle$Anchor;" .null) (F_a_candidates : Fld Z h0 a "backstitch/Needle" "candidates" "[Lbackstitch/Needle$Anchor;" .null) (F_a_headLength : Fld Z h0 a "backstitch/Needle" "headLength" "I" (.int 0)) (F_a_head : Fld Z h0 a "backstitch/Needle" "head" "J" (.long 0)) (F_a_headMask : Fld Z h0 a "backstitch/Needle" "headMask" "J" (.long 0)) (F_a_borders : Fld Z h0 a "backstitch/Needle" "borders" "[I" .null) (F_a_tableComparisons : Fld Z h0 a "backstitch/Needle" "tableComparisons" "J" (.long 0)) (F_a_firstOnce : Fld Z h0 a "backstitch/Needle" "firstOnce" "Z" (.int 0)) (g_a : n0 ≤ a) (ne_a_b : a ≠ b) (ne_a_rA : a ≠ rA) (Old0 : Old Z n0 h0) (SRA : Sta Z Z.heap "backstitch/Needle" "ASCII_RARITY" "[B" (.ref rA)) (SUN : Sta Z Z.heap "backstitch/Needle" "UNORDINARY" "I" (.int 28)) (V_rA : Arv Z h0 rA kA .byte (128 : Int32) ra (.int 0)) (hRA : own_RA ra) (V_b : Arv Z h0 b kb .char (Int32.ofNat nz) (own_l nz cf) (.int 0)) (hnz : nz < 6) (hch : ∀ j, j < nz → own_ch (cf j)) :
    own_Met l Z mn32 prog_8_method_1_code 13 none ws rm19 #[(.ref a), (.ref b), (.int 0)] h0 (Q_own_ndInit Z a b nz cf kb rA kA ra h0 n0) := by
  refine own_start (plainFor_of_name own_pn4) fun p e s m below meth c s₁ Bd hx hby hml hZ hown hnm X0 e0 => ?_
  have H := @own_hw Z a0 hw
  have D := @hb _ _ hby
  have hown : s.vm.findClass "backstitch/Needle" = some m.cls := hown
  have N0 := Fr.nil n0
  have K0 := Keep.refl h0 [a]
  rw [own_ef_own_ndInit m a b]
  have hU := own_U_l hch
  refine gb s₁ m 1 #[vr a, vr b, vi 0, un, un, un, un, un, un, un, un, un, un] [(.ref a)] (fun u k => XS.aloadN X0.here hx rfl (D d15_0) rfl rfl k) ?_
  obtain ⟨T1, X1, e1, st1⟩ := initO X0 hx hZ hown (H 74 rfl) (H 21 rfl) (H 22 rfl) e0 (g := (mkF m 1 #[vr a, vr b, vi 0, un, un, un, un, un, un, un, un, un, un] [(.ref a)])) rfl (by rw [hml]; rfl) rfl (D d15_1) (by decide) (W := 0) (own_w0 rfl) (by decide)
  refine gb T1 m 4 #[vr a, vr b, vi 0, un, un, un, un, un, un, un, un, un, un] [] st1 ?_
  clear st1
  refine gb T1 m 6 #[vr a, vr b, vi 0, un, un, un, un, un, un, un, un, un, un] [(.ref b), (.ref a)] (fun u k => XS.aloadN X1.here hx rfl (D d15_4) rfl rfl (XS.aloadN X1.here hx rfl (D d15_5) rfl rfl k)) ?_
  obtain ⟨T2, h2, X2, e2, W2, st2⟩ := putF X1 hx hZ hown (host := "") (Or.inl (H 75 rfl)) Via.refl e1 F_a_units E_a (Or.inr ⟨(H 76 rfl), rfl, hnm⟩) (H 44 rfl) (ty := (.array .char)) (by decide) rfl rfl (g := (mkF m 6 #[vr a, vr b, vi 0, un, un, un, un, un, un, un, un, un, un] [(.ref b), (.ref a)])) rfl rfl (D d15_6)
  have Z2 : n0 ≤ h2.size := Nat.le_trans Z0 (Keep.of_wr W2).1
  have K2 := K0.wr W2 (Or.inl (List.mem_of_getElem? (i := 0) rfl))
  have N2 := Fr.snoc X2 N0 g_a
  have O2 := Old0.wr W2 g_a
  have F2 := F_a_units.same W2
  refine gb T2 m 9 #[vr a, vr b, vi 0, un, un, un, un, un, un, un, un, un, un] [] st2 ?_
  clear st2
  refine gb T2 m 11 #[vr a, vr b, vi 0, un, un, un, un, un, un, un, un, un, un] [(.int 0), (.ref a)] (fun u k => XS.aloadN X2.here hx rfl (D d15_9) rfl rfl (XS.iloadN X2.here hx rfl (D d15_10) rfl k)) ?_
  have f4 := (F_a_ofBytes.other W2 (Or.inr (slot_ne (Or.inr (H 78 rfl)) (Or.inr (H 76 rfl)) (by decide) (t := .boolean) (t' := (.array .char)) (by decide) (by decide))))
  have f5 := (E_a.wr W2)
  obtain ⟨T3, h3, X3, e3, W3, st3⟩ := putFN X2 hx hZ hown (H 77 rfl) Via.refl e2 f4 f5 (Or.inr ⟨(H 78 rfl), rfl, hnm⟩) (H 44 rfl) (ty := .boolean) (v' := (.int 0)) (by decide) rfl rfl (g := (mkF m 11 #[vr a, vr b, vi 0, un, un, un, un, un, un, un, un, un, un] [(.int 0), (.ref a)])) rfl rfl (D d15_11)
  have Z3 : n0 ≤ h3.size := Nat.le_trans Z2 (Keep.of_wr W3).1
  have K3 := K2.wr W3 (Or.inl (List.mem_of_getElem? (i := 0) rfl))
  have N3 := Fr.snoc X3 N2 g_a
  have O3 := O2.wr W3 g_a
  have F3 := f4.same W3
  refine gb T3 m 14 #[vr a, vr b, vi 0, un, un, un, un, un, un, un, un, un, un] [] st3 ?_
  clear st3
  refine gb T3 m 19 #[vr a, vr b, vi 0, vi 0, vi 1, un, un, un, un, un, un, un, un] [] (fun u k => XT.iconstV X3.here hx rfl (0 : Int32) (D d15_14) (by decide) (XS.istoreN X3.here hx rfl (D d15_15) rfl (l' := #[vr a, vr b, vi 0, vi 0, un, un, un, un, un, un, un, un, un]) rfl (XT.iconstV X3.here hx rfl (1 : Int32) (D d15_16) (by decide) (XS.istore X3.here hx rfl (D d15_17) rfl (l' := #[vr a, vr b, vi 0, vi 0, vi 1, un, un, un, un, un, un, un, un]) rfl k)))) ?_
  have loop9 : ∀ (d9 : Nat) (i9 : Nat) (x9 : Int32) (T9 : State) (L9 : List Loc), (d9 = nz - i9) → (i9 ≤ 6) → ((Int32.ofNat nz) = (0 : Int32) ∨ (¬ x9 < 0 ∧ x9 < (Int32.ofNat nz))) → Stand p l e rm19 s m #[(.ref a), (.ref b), (.int 0)] below meth c T9 L9 0 0 → Fr n0 L9 → T9.heap = h3 → Go p e below (own_F s below (Q_own_ndInit Z a b nz cf kb rA kA ra h0 n0) rm19.cells rm19.slots) (T9.setTop (mkF m 19 #[vr a, vr b, vi 0, vi x9, vi (Int32.ofNat i9), un, un, un, un, un, un, un, un] [])) := by
    intro d9
    induction d9 with
    | zero =>
      intro i9 x9 T9 L9 hd9 hi9 hx9 X9 N9 E9
      refine gb T9 m 22 #[vr a, vr b, vi 0, vi x9, vi (Int32.ofNat i9), un, un, un, un, un, un, un, un] [(.ref b), (.int (Int32.ofNat i9))] (fun u k => XS.iload X9.here hx rfl (D d15_19) rfl (XS.aloadN X9.here hx rfl (D d15_21) rfl rfl k)) ?_
      have f6 := ((V_b.other W2 (Ne.symm ne_a_b)).other W3 (Ne.symm ne_a_b))
      obtain ⟨cl7, Ar7, aq7, aS7, aM7, aH7, aG7⟩ := id f6
      refine gb T9 m 23 #[vr a, vr b, vi 0, vi x9, vi (Int32.ofNat i9), un, un, un, un, un, un, un, un] [(.int cl7.slots.size.toInt32), (.int (Int32.ofNat i9))] (fun u k => X9.arraylength hx (by rw [E9]; exact Ar7.1) (State.isArrayOf_alike hZ.alike Ar7.2.1) (g := (mkF m 22 #[vr a, vr b, vi 0, vi x9, vi (Int32.ofNat i9), un, un, un, un, un, un, un, un] [(.ref b), (.int (Int32.ofNat i9))])) rfl rfl (D d15_22) _ k) ?_
      rw [len_of aS7 aM7]
      refine gb T9 m 54 #[vr a, vr b, vi 0, vi x9, vi (Int32.ofNat i9), un, un, un, un, un, un, un, un] [(.int x9), (.ref a), (.ref a)] (fun u k => XS.icmpYes X9.here hx rfl (pc0 := 23) (pc' := 51) rfl (D d15_23) rfl (XT.ii_ge_t (own_nlt (by omega) (by omega))) (by decide) (by decide) (XS.aloadN X9.here hx rfl (D d15_51) rfl rfl (XS.aloadN X9.here hx rfl (D d15_52) rfl rfl (XS.iloadN X9.here hx rfl (D d15_53) rfl k)))) ?_
      have f8 := (f5.wr W3)
      have f9 := (F2.other W3 (Or.inr (slot_ne (Or.inr (H 76 rfl)) (Or.inr (H 78 rfl)) (by decide) (t := (.array .char)) (t' := .boolean) (by decide) (by decide))))
      obtain ⟨cq11, qa11, qb11⟩ := f8.cell
      obtain ⟨_, _, ⟨T10, L10, k10, n10⟩, -, X10, ⟨Lc10, hQ10, l10, y10, z10⟩, st10⟩ := own_priv X9 hx (y := mn25) hown (mvT hZ (H 84 rfl)) (mvT hZ (H 85 rfl)) (mvT hZ (H 44 rfl)) (Cond.privateMethod_at (mvP hZ (H 86 rfl) (args := #[]))) (mvT hZ (H 87 rfl)) (by decide) (backOf (W := 1) (own_at_ l Z a0 hw [] a x9 b nz (own_l nz cf) kb h3 n0 Z3 f8 f9 f6 hU hnz hx9) hZ (H 87 rfl) (H 41 rfl) (by decide) (by decide)) (g := (mkF m 54 #[vr a, vr b, vi 0, vi x9, vi (Int32.ofNat i9), un, un, un, un, un, un, un, un] [(.int x9), (.ref a), (.ref a)])) rfl (by rw [hml]; rfl) (a := a) (by rw [E9]; exact qa11) qb11 (argsL := [(.int x9)]) (rest := [(.ref a)]) (lenOf own_pd22 rfl) rfl (own_w0 rfl) (D d15_54) (fun _ _ => ⟨rfl, E9, (by decide : 0 + 1 ≤ _), (by decide : 0 + 4 ≤ _)⟩)
      dsimp only [Pt.U, Pt.locs, Pt.cells, Pt.slots] at X10 l10 y10 z10 st10 hQ10
      subst l10 y10 z10
      obtain ⟨q10, cv10, rfl, N10, Kc10, gb_q10, szc_q10, P10_0, P10_1, P10_2, P10_3⟩ := hQ10
      have NA10 := Fr.app N9 N10
      have Z10 : n0 ≤ T10.heap.size := Nat.le_trans Z3 Kc10.1
      have K10 := K3.trans Kc10 all0
      have O10 := O3.keep Kc10 all0
      have sz_q10 : h0.size ≤ q10 := Nat.le_trans K3.1 szc_q10
      have ne_a_q10 : a ≠ q10 := Nat.ne_of_lt (Nat.lt_of_lt_of_le f8.lt szc_q10)
      have ne_b_q10 : b ≠ q10 := Nat.ne_of_lt (Nat.lt_of_lt_of_le f6.lt szc_q10)
      have f12 := ((V_rA.other W2 (Ne.symm ne_a_rA)).other W3 (Ne.symm ne_a_rA))
      have ne_rA_q10 : rA ≠ q10 := Nat.ne_of_lt (Nat.lt_of_lt_of_le f12.lt szc_q10)
      refine gb T10 m 57 #[vr a, vr b, vi 0, vi x9, vi (Int32.ofNat i9), un, un, un, un, un, un, un, un] [(.ref q10), (.ref a)] (fun u k => st10.trans k) ?_
      clear st10
      have f14 := (((F_a_anchor.other W2 (Or.inr (slot_ne (Or.inr (H 110 rfl)) (Or.inr (H 76 rfl)) (by decide) (t := (.object "backstitch/Needle$Anchor")) (t' := (.array .char)) (by decide) (by decide)))).other W3 (Or.inr (slot_ne (Or.inr (H 110 rfl)) (Or.inr (H 78 rfl)) (by decide) (t := (.object "backstitch/Needle$Anchor")) (t' := .boolean) (by decide) (by decide)))).keep Kc10 nin0)
      have f15 := (f8.keep Kc10)
      obtain ⟨T13, h13, X13, e13, W13, st13⟩ := putF X10 hx hZ hown (host := "") (Or.inl (H 109 rfl)) Via.refl rfl f14 f15 (Or.inr ⟨(H 110 rfl), rfl, hnm⟩) (H 44 rfl) (ty := (.object "backstitch/Needle$Anchor")) (by decide) rfl rfl (g := (mkF m 57 #[vr a, vr b, vi 0, vi x9, vi (Int32.ofNat i9), un, un, un, un, un, un, un, un] [(.ref q10), (.ref a)])) rfl rfl (D d15_57)
      have Z13 : n0 ≤ h13.size := Nat.le_trans Z10 (Keep.of_wr W13).1
      have K13 := K10.wr W13 (Or.inl (List.mem_of_getElem? (i := 0) rfl))
      have N13 := Fr.snoc X13 NA10 g_a
      have O13 := O10.wr W13 g_a
      have F13 := f14.same W13
      refine gb T13 m 60 #[vr a, vr b, vi 0, vi x9, vi (Int32.ofNat i9), un, un, un, un, un, un, un, un] [] st13 ?_
      clear st13
      refine gb T13 m 62 #[vr a, vr b, vi 0, vi x9, vi (Int32.ofNat i9), un, un, un, un, un, un, un, un] [(.ref a), (.ref a)] (fun u k => XS.aloadN X13.here hx rfl (D d15_60) rfl rfl (XS.aloadN X13.here hx rfl (D d15_61) rfl rfl k)) ?_
      have f16 := (f15.wr W13)
      have f17 := (P10_0.wr W13)
      have f18 := ((f9.keep Kc10 nin0).other W13 (Or.inr (slot_ne (Or.inr (H 76 rfl)) (Or.inr (H 110 rfl)) (by decide) (t := (.array .char)) (t' := (.object "backstitch/Needle$Anchor")) (by decide) (by decide))))
      have f19 := ((F3.keep Kc10 nin0).other W13 (Or.inr (slot_ne (Or.inr (H 78 rfl)) (Or.inr (H 110 rfl)) (by decide) (t := .boolean) (t' := (.object "backstitch/Needle$Anchor")) (by decide) (by decide))))
      have f20 := (P10_2.other W13 (Or.inl (Ne.symm ne_a_q10)))
      have f21 := (P10_1.other W13 (Or.inl (Ne.symm ne_a_q10)))
      have f22 := ((f12.keep Kc10 nin0).other W13 (Ne.symm ne_a_rA))
      have f23 := ((f6.keep Kc10 nin0).other W13 (Ne.symm ne_a_b))
      obtain ⟨cq25, qa25, qb25⟩ := f16.cell
      obtain ⟨_, _, ⟨T24, L24, k24, n24⟩, -, X24, ⟨Lc24, hQ24, l24, y24, z24⟩, st24⟩ := own_priv X13 hx (y := mn27) hown (mvT hZ (H 111 rfl)) (mvT hZ (H 112 rfl)) (mvT hZ (H 44 rfl)) (Cond.privateMethod_at (mvP hZ (H 113 rfl) (args := #[]))) (mvT hZ (H 114 rfl)) (by decide) (backOf (W := 1) (own_lc l Z a0 hw [] a b q10 cv10 x9 nz (own_l nz cf) kb rA kA ra h13 n0 Z13 f16 f17 f18 F13 f19 f20 f21 O13 SRA SUN f22 hRA f23 hU hnz P10_3) hZ (H 114 rfl) (H 41 rfl) (by decide) (by decide)) (g := (mkF m 62 #[vr a, vr b, vi 0, vi x9, vi (Int32.ofNat i9), un, un, un, un, un, un, un, un] [(.ref a), (.ref a)])) rfl (by rw [hml]; rfl) (a := a) (by rw [e13]; exact qa25) qb25 (argsL := []) (rest := [(.ref a)]) (lenOf own_pd23 rfl) rfl (own_w0 rfl) (D d15_62) (fun _ _ => ⟨rfl, e13, (by decide : 1 + 9 ≤ _), (by decide : 4 + 1059 ≤ _)⟩)
      dsimp only [Pt.U, Pt.locs, Pt.cells, Pt.slots] at X24 l24 y24 z24 st24 hQ24
      subst l24 y24 z24
      obtain ⟨r24, rfl, N24, Kc24, gb_r24, szc_r24⟩ := hQ24
      have NA24 := Fr.app N13 N24
      have Z24 : n0 ≤ T24.heap.size := Nat.le_trans Z13 Kc24.1
      have K24 := K13.trans Kc24 all0
      have O24 := O13.keep Kc24 all0
      have sz_r24 : h0.size ≤ r24 := Nat.le_trans K13.1 szc_r24
      have ne_a_r24 : a ≠ r24 := Nat.ne_of_lt (Nat.lt_of_lt_of_le f16.lt szc_r24)
      have ne_b_r24 : b ≠ r24 := Nat.ne_of_lt (Nat.lt_of_lt_of_le f23.lt szc_r24)
      have ne_rA_r24 : rA ≠ r24 := Nat.ne_of_lt (Nat.lt_of_lt_of_le f22.lt szc_r24)
      have ne_q10_r24 : q10 ≠ r24 := Nat.ne_of_lt (Nat.lt_of_lt_of_le f17.lt szc_r24)
      refine gb T24 m 65 #[vr a, vr b, vi 0, vi x9, vi (Int32.ofNat i9), un, un, un, un, un, un, un, un] [(.ref r24), (.ref a)] (fun u k => st24.trans k) ?_
      clear st24
      have f27 := (((((F_a_candidates.other W2 (Or.inr (slot_ne (Or.inr (H 124 rfl)) (Or.inr (H 76 rfl)) (by decide) (t := (.array (.object "backstitch/Needle$Anchor"))) (t' := (.array .char)) (by decide) (by decide)))).other W3 (Or.inr (slot_ne (Or.inr (H 124 rfl)) (Or.inr (H 78 rfl)) (by decide) (t := (.array (.object "backstitch/Needle$Anchor"))) (t' := .boolean) (by decide) (by decide)))).keep Kc10 nin0).other W13 (Or.inr (slot_ne (Or.inr (H 124 rfl)) (Or.inr (H 110 rfl)) (by decide) (t := (.array (.object "backstitch/Needle$Anchor"))) (t' := (.object "backstitch/Needle$Anchor")) (by decide) (by decide)))).keep Kc24 nin0)
      have f28 := (f16.keep Kc24)
      obtain ⟨T26, h26, X26, e26, W26, st26⟩ := putF X24 hx hZ hown (host := "") (Or.inl (H 123 rfl)) Via.refl rfl f27 f28 (Or.inr ⟨(H 124 rfl), rfl, hnm⟩) (H 44 rfl) (ty := (.array (.object "backstitch/Needle$Anchor"))) (by decide) rfl rfl (g := (mkF m 65 #[vr a, vr b, vi 0, vi x9, vi (Int32.ofNat i9), un, un, un, un, un, un, un, un] [(.ref r24), (.ref a)])) rfl rfl (D d15_65)
      have Z26 : n0 ≤ h26.size := Nat.le_trans Z24 (Keep.of_wr W26).1
      have K26 := K24.wr W26 (Or.inl (List.mem_of_getElem? (i := 0) rfl))
      have N26 := Fr.snoc X26 NA24 g_a
      have O26 := O24.wr W26 g_a
      have F26 := f27.same W26
      refine gb T26 m 68 #[vr a, vr b, vi 0, vi x9, vi (Int32.ofNat i9), un, un, un, un, un, un, un, un] [] st26 ?_
      clear st26
      refine gb T26 m 70 #[vr a, vr b, vi 0, vi x9, vi (Int32.ofNat i9), un, un, un, un, un, un, un, un] [(.ref b), (.ref a)] (fun u k => XS.aloadN X26.here hx rfl (D d15_68) rfl rfl (XS.aloadN X26.here hx rfl (D d15_69) rfl rfl k)) ?_
      have f29 := ((f23.keep Kc24 nin0).other W26 (Ne.symm ne_a_b))
      obtain ⟨cl30, Ar30, aq30, aS30, aM30, aH30, aG30⟩ := id f29
      refine gb T26 m 71 #[vr a, vr b, vi 0, vi x9, vi (Int32.ofNat i9), un, un, un, un, un, un, un, un] [(.int cl30.slots.size.toInt32), (.ref a)] (fun u k => X26.arraylength hx (by rw [e26]; exact Ar30.1) (State.isArrayOf_alike hZ.alike Ar30.2.1) (g := (mkF m 70 #[vr a, vr b, vi 0, vi x9, vi (Int32.ofNat i9), un, un, un, un, un, un, un, un] [(.ref b), (.ref a)])) rfl rfl (D d15_70) _ k) ?_
      rw [len_of aS30 aM30]
      refine gb T26 m 73 #[vr a, vr b, vi 0, vi x9, vi (Int32.ofNat i9), un, un, un, un, un, un, un, un] [(.int 8), (.int (Int32.ofNat nz)), (.ref a)] (fun u k => XT.bipushV X26.here hx rfl (8 : Int32) (D d15_71) (by decide) k) ?_
      obtain ⟨_, _, ⟨T31, L31, k31, n31⟩, -, X31, ⟨Lc31, hQ31, l31, y31, z31⟩, st31⟩ := Jvm.LawKit.callS X26 hx (y := mn26) hown (mvT hZ (H 125 rfl)) (mvT hZ (H 126 rfl)) (mvT hZ (H 127 rfl)) (mvT hZ (H 128 rfl)) (by decide) (backOf (W := 1) (own_min l Z a0 hw [] (Int32.ofNat nz) (8 : Int32) h26 n0 Z26 ) hZ (H 128 rfl) (H 127 rfl) (by decide) (by decide)) (g := (mkF m 73 #[vr a, vr b, vi 0, vi x9, vi (Int32.ofNat i9), un, un, un, un, un, un, un, un] [(.int 8), (.int (Int32.ofNat nz)), (.ref a)])) rfl (by rw [hml]; rfl) (argsL := [(.int (Int32.ofNat nz)), (.int 8)]) (rest := [(.ref a)]) (lenOf own_pd20 rfl) rfl (own_w0 rfl) (D d15_73) (fun _ _ => ⟨rfl, e26, (by decide : 10 + 0 ≤ _), (by decide : 1063 + 0 ≤ _)⟩)
      dsimp only [Pt.U, Pt.locs, Pt.cells, Pt.slots] at X31 l31 y31 z31 st31 hQ31
      subst l31 y31 z31
      obtain ⟨rfl, N31, e31⟩ := hQ31
      have NA31 := Fr.app N26 N31
      refine gb T31 m 76 #[vr a, vr b, vi 0, vi x9, vi (Int32.ofNat i9), un, un, un, un, un, un, un, un] [(.int (F_own_min (Int32.ofNat nz) (8 : Int32))), (.ref a)] st31 ?_
      clear st31
      have rw32 : (F_own_min (Int32.ofNat nz) (8 : Int32)) = (Int32.ofNat nz) := own_min_c hnz
      rw [rw32]
      have f34 := ((((((F_a_headLength.other W2 (Or.inr (slot_ne (Or.inr (H 130 rfl)) (Or.inr (H 76 rfl)) (by decide) (t := .int) (t' := (.array .char)) (by decide) (by decide)))).other W3 (Or.inr (slot_ne (Or.inr (H 130 rfl)) (Or.inr (H 78 rfl)) (by decide) (t := .int) (t' := .boolean) (by decide) (by decide)))).keep Kc10 nin0).other W13 (Or.inr (slot_ne (Or.inr (H 130 rfl)) (Or.inr (H 110 rfl)) (by decide) (t := .int) (t' := (.object "backstitch/Needle$Anchor")) (by decide) (by decide)))).keep Kc24 nin0).other W26 (Or.inr (slot_ne (Or.inr (H 130 rfl)) (Or.inr (H 124 rfl)) (by decide) (t := .int) (t' := (.array (.object "backstitch/Needle$Anchor"))) (by decide) (by decide))))
      have f35 := (f28.wr W26)
      obtain ⟨T33, h33, X33, e33, W33, st33⟩ := putF X31 hx hZ hown (host := "") (Or.inl (H 129 rfl)) Via.refl e31 f34 f35 (Or.inr ⟨(H 130 rfl), rfl, hnm⟩) (H 44 rfl) (ty := .int) (by decide) rfl rfl (g := (mkF m 76 #[vr a, vr b, vi 0, vi x9, vi (Int32.ofNat i9), un, un, un, un, un, un, un, un] [(.int (Int32.ofNat nz)), (.ref a)])) rfl rfl (D d15_76)
      have Z33 : n0 ≤ h33.size := Nat.le_trans Z26 (Keep.of_wr W33).1
      have K33 := K26.wr W33 (Or.inl (List.mem_of_getElem? (i := 0) rfl))
      have N33 := Fr.snoc X33 NA31 g_a
      have O33 := O26.wr W33 g_a
      have F33 := f34.same W33
      refine gb T33 m 79 #[vr a, vr b, vi 0, vi x9, vi (Int32.ofNat i9), un, un, un, un, un, un, un, un] [] st33 ?_
      clear st33
      refine gb T33 m 123 #[vr a, vr b, vi 0, vi x9, .val (.long 0), .second, vi 0, un, un, un, un, un, un] [(.long 0), (.ref a)] (fun u k => XT.lconstV X33.here hx rfl (0 : Int64) (D d15_79) (by decide) (XT.lstore X33.here hx rfl (D d15_80) rfl (l' := #[vr a, vr b, vi 0, vi x9, .val (.long 0), .second, un, un, un, un, un, un, un]) rfl (XT.iconstV X33.here hx rfl (0 : Int32) (D d15_82) (by decide) (XS.istore X33.here hx rfl (D d15_83) rfl (l' := #[vr a, vr b, vi 0, vi x9, .val (.long 0), .second, vi 0, un, un, un, un, un, un]) rfl (XS.iloadN X33.here hx rfl (D d15_85) rfl (XS.ifYes X33.here hx rfl (pc0 := 86) (pc' := 120) rfl (D d15_86) rfl (XT.i0_eq_t (by decide)) (by decide) (by decide) (XS.aloadN X33.here hx rfl (D d15_120) rfl rfl (XT.lload X33.here hx rfl (D d15_121) rfl k)))))))) ?_
      have f37 := (((((((F_a_head.other W2 (Or.inr (slot_ne (Or.inr (H 132 rfl)) (Or.inr (H 76 rfl)) (by decide) (t := .long) (t' := (.array .char)) (by decide) (by decide)))).other W3 (Or.inr (slot_ne (Or.inr (H 132 rfl)) (Or.inr (H 78 rfl)) (by decide) (t := .long) (t' := .boolean) (by decide) (by decide)))).keep Kc10 nin0).other W13 (Or.inr (slot_ne (Or.inr (H 132 rfl)) (Or.inr (H 110 rfl)) (by decide) (t := .long) (t' := (.object "backstitch/Needle$Anchor")) (by decide) (by decide)))).keep Kc24 nin0).other W26 (Or.inr (slot_ne (Or.inr (H 132 rfl)) (Or.inr (H 124 rfl)) (by decide) (t := .long) (t' := (.array (.object "backstitch/Needle$Anchor"))) (by decide) (by decide)))).other W33 (Or.inr (slot_ne (Or.inr (H 132 rfl)) (Or.inr (H 130 rfl)) (by decide) (t := .long) (t' := .int) (by decide) (by decide))))
      have f38 := (f35.wr W33)
      obtain ⟨T36, h36, X36, e36, W36, st36⟩ := putF X33 hx hZ hown (host := "") (Or.inl (H 131 rfl)) Via.refl e33 f37 f38 (Or.inr ⟨(H 132 rfl), rfl, hnm⟩) (H 44 rfl) (ty := .long) (by decide) rfl rfl (g := (mkF m 123 #[vr a, vr b, vi 0, vi x9, .val (.long 0), .second, vi 0, un, un, un, un, un, un] [(.long 0), (.ref a)])) rfl rfl (D d15_123)
      have Z36 : n0 ≤ h36.size := Nat.le_trans Z33 (Keep.of_wr W36).1
      have K36 := K33.wr W36 (Or.inl (List.mem_of_getElem? (i := 0) rfl))
      have N36 := Fr.snoc X36 N33 g_a
      have O36 := O33.wr W36 g_a
      have F36 := f37.same W36
      refine gb T36 m 126 #[vr a, vr b, vi 0, vi x9, .val (.long 0), .second, vi 0, un, un, un, un, un, un] [] st36 ?_
      clear st36
      refine gb T36 m 128 #[vr a, vr b, vi 0, vi x9, .val (.long 0), .second, vi 0, un, un, un, un, un, un] [(.ref a), (.ref a)] (fun u k => XS.aloadN X36.here hx rfl (D d15_126) rfl rfl (XS.aloadN X36.here hx rfl (D d15_127) rfl rfl k)) ?_
      have f39 := (F33.other W36 (Or.inr (slot_ne (Or.inr (H 130 rfl)) (Or.inr (H 132 rfl)) (by decide) (t := .int) (t' := .long) (by decide) (by decide))))
      obtain ⟨T40, X40, e40, st40⟩ := getF X36 hx hZ hown (host := "") (Or.inl (H 129 rfl)) Via.refl e36 f39 (g := (mkF m 128 #[vr a, vr b, vi 0, vi x9, .val (.long 0), .second, vi 0, un, un, un, un, un, un] [(.ref a), (.ref a)])) rfl rfl (D d15_128)
      refine gb T40 m 131 #[vr a, vr b, vi 0, vi x9, .val (.long 0), .second, vi 0, un, un, un, un, un, un] [(.int (Int32.ofNat nz)), (.ref a)] st40 ?_
      clear st40
      refine gb T40 m 146 #[vr a, vr b, vi 0, vi x9, .val (.long 0), .second, vi 0, un, un, un, un, un, un] [(.ref a), (.int 8), (.long 1), (.ref a)] (fun u k => XT.bipushV X40.here hx rfl (8 : Int32) (D d15_131) (by decide) (XS.icmpYes X40.here hx rfl (pc0 := 133) (pc' := 142) rfl (D d15_133) rfl (XT.ii_ne_t (own_n8 hnz)) (by decide) (by decide) (XT.lconstV X40.here hx rfl (1 : Int64) (D d15_142) (by decide) (XT.bipushV X40.here hx rfl (8 : Int32) (D d15_143) (by decide) (XS.aloadN X40.here hx rfl (D d15_145) rfl rfl k))))) ?_
      obtain ⟨T41, X41, e41, st41⟩ := getF X40 hx hZ hown (host := "") (Or.inl (H 129 rfl)) Via.refl e40 f39 (g := (mkF m 146 #[vr a, vr b, vi 0, vi x9, .val (.long 0), .second, vi 0, un, un, un, un, un, un] [(.ref a), (.int 8), (.long 1), (.ref a)])) rfl rfl (D d15_146)
      refine gb T41 m 149 #[vr a, vr b, vi 0, vi x9, .val (.long 0), .second, vi 0, un, un, un, un, un, un] [(.int (Int32.ofNat nz)), (.int 8), (.long 1), (.ref a)] st41 ?_
      clear st41
      refine gb T41 m 153 #[vr a, vr b, vi 0, vi x9, .val (.long 0), .second, vi 0, un, un, un, un, un, un] [(.long (((1 : Int64) <<< (((8 : Int32) * (Int32.ofNat nz)).toInt64 &&& 63)) - (1 : Int64))), (.ref a)] (fun u k => XS.imul X41.here hx rfl (D d15_149) rfl (XT.lshl X41.here hx rfl (D d15_150) rfl (XT.lconstV X41.here hx rfl (1 : Int64) (D d15_151) (by decide) (XT.lsub X41.here hx rfl (D d15_152) rfl k)))) ?_
      have f43 := ((((((((F_a_headMask.other W2 (Or.inr (slot_ne (Or.inr (H 134 rfl)) (Or.inr (H 76 rfl)) (by decide) (t := .long) (t' := (.array .char)) (by decide) (by decide)))).other W3 (Or.inr (slot_ne (Or.inr (H 134 rfl)) (Or.inr (H 78 rfl)) (by decide) (t := .long) (t' := .boolean) (by decide) (by decide)))).keep Kc10 nin0).other W13 (Or.inr (slot_ne (Or.inr (H 134 rfl)) (Or.inr (H 110 rfl)) (by decide) (t := .long) (t' := (.object "backstitch/Needle$Anchor")) (by decide) (by decide)))).keep Kc24 nin0).other W26 (Or.inr (slot_ne (Or.inr (H 134 rfl)) (Or.inr (H 124 rfl)) (by decide) (t := .long) (t' := (.array (.object "backstitch/Needle$Anchor"))) (by decide) (by decide)))).other W33 (Or.inr (slot_ne (Or.inr (H 134 rfl)) (Or.inr (H 130 rfl)) (by decide) (t := .long) (t' := .int) (by decide) (by decide)))).other W36 (Or.inr (slot_ne (Or.inr (H 134 rfl)) (Or.inr (H 132 rfl)) (by decide) (t := .long) (t' := .long) (by decide) (by decide))))
      have f44 := (f38.wr W36)
      obtain ⟨T42, h42, X42, e42, W42, st42⟩ := putF X41 hx hZ hown (host := "") (Or.inl (H 133 rfl)) Via.refl e41 f43 f44 (Or.inr ⟨(H 134 rfl), rfl, hnm⟩) (H 44 rfl) (ty := .long) (by decide) rfl rfl (g := (mkF m 153 #[vr a, vr b, vi 0, vi x9, .val (.long 0), .second, vi 0, un, un, un, un, un, un] [(.long (((1 : Int64) <<< (((8 : Int32) * (Int32.ofNat nz)).toInt64 &&& 63)) - (1 : Int64))), (.ref a)])) rfl rfl (D d15_153)
      have Z42 : n0 ≤ h42.size := Nat.le_trans Z36 (Keep.of_wr W42).1
      have K42 := K36.wr W42 (Or.inl (List.mem_of_getElem? (i := 0) rfl))
      have N42 := Fr.snoc X42 N36 g_a
      have O42 := O36.wr W42 g_a
      have F42 := f43.same W42
      refine gb T42 m 156 #[vr a, vr b, vi 0, vi x9, .val (.long 0), .second, vi 0, un, un, un, un, un, un] [] st42 ?_
      clear st42
      refine gb T42 m 158 #[vr a, vr b, vi 0, vi x9, .val (.long 0), .second, vi 0, un, un, un, un, un, un] [(.ref b), (.ref a)] (fun u k => XS.aloadN X42.here hx rfl (D d15_156) rfl rfl (XS.aloadN X42.here hx rfl (D d15_157) rfl rfl k)) ?_
      have f45 := (((f29.other W33 (Ne.symm ne_a_b)).other W36 (Ne.symm ne_a_b)).other W42 (Ne.symm ne_a_b))
      obtain ⟨cl46, Ar46, aq46, aS46, aM46, aH46, aG46⟩ := id f45
      refine gb T42 m 159 #[vr a, vr b, vi 0, vi x9, .val (.long 0), .second, vi 0, un, un, un, un, un, un] [(.int cl46.slots.size.toInt32), (.ref a)] (fun u k => X42.arraylength hx (by rw [e42]; exact Ar46.1) (State.isArrayOf_alike hZ.alike Ar46.2.1) (g := (mkF m 158 #[vr a, vr b, vi 0, vi x9, .val (.long 0), .second, vi 0, un, un, un, un, un, un] [(.ref b), (.ref a)])) rfl rfl (D d15_158) _ k) ?_
      rw [len_of aS46 aM46]
      obtain ⟨T47, h47, k47, X47, e47, E47, A47, B47, st47⟩ := newPE X42 hx hZ (H 135 rfl) e42 (g := (mkF m 159 #[vr a, vr b, vi 0, vi x9, .val (.long 0), .second, vi 0, un, un, un, un, un, un] [(.int (Int32.ofNat nz)), (.ref a)])) rfl (D d15_159) rfl (own_j nz (by omega)).1 (cap := 5) (by rw [(own_j nz (by omega)).2.1]; omega) (by decide) (by decide) (by decide) (ad := "[I") (by decide +kernel)
      obtain ⟨b47, g47⟩ : ∃ z, z = h42.size := ⟨_, rfl⟩
      rw [← g47] at A47 B47 st47
      have f48 := (f44.wr W42)
      have ne_a_b47 : a ≠ b47 := Nat.ne_of_lt (Nat.lt_of_lt_of_le f48.lt (Nat.le_of_eq g47.symm))
      have ne_b_b47 : b ≠ b47 := Nat.ne_of_lt (Nat.lt_of_lt_of_le f45.lt (Nat.le_of_eq g47.symm))
      have f49 := (((((f22.keep Kc24 nin0).other W26 (Ne.symm ne_a_rA)).other W33 (Ne.symm ne_a_rA)).other W36 (Ne.symm ne_a_rA)).other W42 (Ne.symm ne_a_rA))
      have ne_rA_b47 : rA ≠ b47 := Nat.ne_of_lt (Nat.lt_of_lt_of_le f49.lt (Nat.le_of_eq g47.symm))
      have f50 := (((((f17.keep Kc24).wr W26).wr W33).wr W36).wr W42)
      have ne_q10_b47 : q10 ≠ b47 := Nat.ne_of_lt (Nat.lt_of_lt_of_le f50.lt (Nat.le_of_eq g47.symm))
      have gb47 : n0 ≤ b47 := Nat.le_trans Z42 (Nat.le_of_eq g47.symm)
      have sz47 : h0.size ≤ b47 := Nat.le_trans K42.1 (Nat.le_of_eq g47.symm)
      have Z47 : n0 ≤ h47.size := Nat.le_trans Z42 E47.1
      have K47 := K42.ext E47
      have O47 := O42.ext E47
      have V47 : Arv Z h47 b47 k47 .int (Int32.ofNat nz) (([] : List Value) ++ List.replicate nz ((.int 0) : Value)) (.int 0) := (Arv.new A47 (own_j nz (by omega)).1).pad (pad_rep [] (.int 0) nz)
      refine gb T47 m 161 #[vr a, vr b, vi 0, vi x9, .val (.long 0), .second, vi 0, un, un, un, un, un, un] [(.ref b47), (.ref a)] st47 ?_
      clear st47
      have f52 := ((((((((((F_a_borders.other W2 (Or.inr (slot_ne (Or.inr (H 137 rfl)) (Or.inr (H 76 rfl)) (by decide) (t := (.array .int)) (t' := (.array .char)) (by decide) (by decide)))).other W3 (Or.inr (slot_ne (Or.inr (H 137 rfl)) (Or.inr (H 78 rfl)) (by decide) (t := (.array .int)) (t' := .boolean) (by decide) (by decide)))).keep Kc10 nin0).other W13 (Or.inr (slot_ne (Or.inr (H 137 rfl)) (Or.inr (H 110 rfl)) (by decide) (t := (.array .int)) (t' := (.object "backstitch/Needle$Anchor")) (by decide) (by decide)))).keep Kc24 nin0).other W26 (Or.inr (slot_ne (Or.inr (H 137 rfl)) (Or.inr (H 124 rfl)) (by decide) (t := (.array .int)) (t' := (.array (.object "backstitch/Needle$Anchor"))) (by decide) (by decide)))).other W33 (Or.inr (slot_ne (Or.inr (H 137 rfl)) (Or.inr (H 130 rfl)) (by decide) (t := (.array .int)) (t' := .int) (by decide) (by decide)))).other W36 (Or.inr (slot_ne (Or.inr (H 137 rfl)) (Or.inr (H 132 rfl)) (by decide) (t := (.array .int)) (t' := .long) (by decide) (by decide)))).other W42 (Or.inr (slot_ne (Or.inr (H 137 rfl)) (Or.inr (H 134 rfl)) (by decide) (t := (.array .int)) (t' := .long) (by decide) (by decide)))).ext E47)
      have f53 := (f48.ext E47)
      obtain ⟨T51, h51, X51, e51, W51, st51⟩ := putF X47 hx hZ hown (host := "") (Or.inl (H 136 rfl)) Via.refl e47 f52 f53 (Or.inr ⟨(H 137 rfl), rfl, hnm⟩) (H 44 rfl) (ty := (.array .int)) (by decide) rfl rfl (g := (mkF m 161 #[vr a, vr b, vi 0, vi x9, .val (.long 0), .second, vi 0, un, un, un, un, un, un] [(.ref b47), (.ref a)])) rfl rfl (D d15_161)
      have Z51 : n0 ≤ h51.size := Nat.le_trans Z47 (Keep.of_wr W51).1
      have K51 := K47.wr W51 (Or.inl (List.mem_of_getElem? (i := 0) rfl))
      have N51 := Fr.snoc X51 N42 g_a
      have O51 := O47.wr W51 g_a
      have F51 := f52.same W51
      refine gb T51 m 164 #[vr a, vr b, vi 0, vi x9, .val (.long 0), .second, vi 0, un, un, un, un, un, un] [] st51 ?_
      clear st51
      obtain ⟨T54, h54, X54, e54, E54, A54, D54, -, st54⟩ := newO X51 hx hZ hown (H 138 rfl) (H 139 rfl) (H 140 rfl) e51 (g := (mkF m 164 #[vr a, vr b, vi 0, vi x9, .val (.long 0), .second, vi 0, un, un, un, un, un, un] [])) rfl (D d15_164) (by decide) (by decide)
      obtain ⟨b54, g54⟩ : ∃ z, z = h51.size := ⟨_, rfl⟩
      rw [← g54] at A54 D54 st54
      have f55 := (f53.wr W51)
      have ne_a_b54 : a ≠ b54 := Nat.ne_of_lt (Nat.lt_of_lt_of_le f55.lt (Nat.le_of_eq g54.symm))
      have f56 := ((f45.ext E47).other W51 (Ne.symm ne_a_b))
      have ne_b_b54 : b ≠ b54 := Nat.ne_of_lt (Nat.lt_of_lt_of_le f56.lt (Nat.le_of_eq g54.symm))
      have f57 := ((f49.ext E47).other W51 (Ne.symm ne_a_rA))
      have ne_rA_b54 : rA ≠ b54 := Nat.ne_of_lt (Nat.lt_of_lt_of_le f57.lt (Nat.le_of_eq g54.symm))
      have f58 := ((f50.ext E47).wr W51)
      have ne_q10_b54 : q10 ≠ b54 := Nat.ne_of_lt (Nat.lt_of_lt_of_le f58.lt (Nat.le_of_eq g54.symm))
      have f59 := (V47.other W51 (Ne.symm ne_a_b47))
      have ne_b47_b54 : b47 ≠ b54 := Nat.ne_of_lt (Nat.lt_of_lt_of_le f59.lt (Nat.le_of_eq g54.symm))
      have gb54 : n0 ≤ b54 := Nat.le_trans Z51 (Nat.le_of_eq g54.symm)
      have sz54 : h0.size ≤ b54 := Nat.le_trans K51.1 (Nat.le_of_eq g54.symm)
      have Z54 : n0 ≤ h54.size := Nat.le_trans Z51 E54.1
      have K54 := K51.ext E54
      have O54 := O51.ext E54
      refine gb T54 m 167 #[vr a, vr b, vi 0, vi x9, .val (.long 0), .second, vi 0, un, un, un, un, un, un] [(.ref b54)] st54 ?_
      clear st54
      refine gb T54 m 168 #[vr a, vr b, vi 0, vi x9, .val (.long 0), .second, vi 0, un, un, un, un, un, un] [(.ref b54), (.ref b54)] (fun u k => XS.dup X54.here hx rfl (D d15_167) rfl rfl k) ?_
      obtain ⟨_, _, ⟨T60, L60, k60, n60⟩, -, X60, ⟨Lc60, hQ60, l60, y60, z60⟩, st60⟩ := X54.specialBack hx (y := mn29) rfl hown (mvT hZ (H 141 rfl)) (mvT hZ (H 142 rfl)) (mvT hZ (H 143 rfl)) (by decide) (backOf (W := 1) (own_tlInit l Z a0 hw [] b54 h54 n0 Z54 ) hZ (H 143 rfl) (H 140 rfl) (by decide) (by decide)) (g := (mkF m 168 #[vr a, vr b, vi 0, vi x9, .val (.long 0), .second, vi 0, un, un, un, un, un, un] [(.ref b54), (.ref b54)])) rfl (by rw [hml]; rfl) (Steps.refl _) (a := b54) (argsL := []) (rest := [(.ref b54)]) (lenOf own_pd16 rfl) rfl (own_w0 rfl) (D d15_168) (fun _ _ => ⟨rfl, e54, (by decide : 12 + 0 ≤ _), (by decide : 1069 + 0 ≤ _)⟩)
      dsimp only [Pt.U, Pt.locs, Pt.cells, Pt.slots] at X60 l60 y60 z60 st60 hQ60
      subst l60 y60 z60
      obtain ⟨rfl, N60, e60⟩ := hQ60
      have NA60 := Fr.app N51 N60
      refine gb T60 m 171 #[vr a, vr b, vi 0, vi x9, .val (.long 0), .second, vi 0, un, un, un, un, un, un] [(.ref b54)] (fun u k => st60.trans k) ?_
      clear st60
      refine gb T60 m 179 #[vr a, vr b, vi 0, vi x9, .val (.long 0), .second, vr b54, vi 0, vi 1, un, un, un, un] [] (fun u k => XS.astore X60.here hx rfl (D d15_171) rfl rfl (l' := #[vr a, vr b, vi 0, vi x9, .val (.long 0), .second, vr b54, un, un, un, un, un, un]) rfl (XT.iconstV X60.here hx rfl (0 : Int32) (D d15_173) (by decide) (XS.istore X60.here hx rfl (D d15_174) rfl (l' := #[vr a, vr b, vi 0, vi x9, .val (.long 0), .second, vr b54, vi 0, un, un, un, un, un]) rfl (XT.iconstV X60.here hx rfl (1 : Int32) (D d15_176) (by decide) (XS.istore X60.here hx rfl (D d15_177) rfl (l' := #[vr a, vr b, vi 0, vi x9, .val (.long 0), .second, vr b54, vi 0, vi 1, un, un, un, un]) rfl k))))) ?_
      have loop8 : ∀ (d8 : Nat) (k8 : Nat) (ev8 : Int64) (rs8 : List Value) (T8 : State) (L8 : List Loc), (d8 = nz - (k8 + 1)) → (k8 = 0 ∨ k8 < nz) → (own_pw nz (k8 + 1) (own_bf cf k8) rs8) → Stand p l e rm19 s m #[(.ref a), (.ref b), (.int 0)] below meth c T8 L8 12 1069 → Fr n0 L8 → n0 ≤ T8.heap.size → Keep h0 T8.heap [a] → Exa Z T8.heap a "backstitch/Needle" → Exa Z T8.heap b54 "backstitch/Needle$Tally" → Exa Z T8.heap b47 "[I" → Fld Z T8.heap a "backstitch/Needle" "units" "[C" (.ref b) → Fld Z T8.heap a "backstitch/Needle" "ofBytes" "Z" (.int 0) → Fld Z T8.heap a "backstitch/Needle" "borders" "[I" (.ref b47) → Fld Z T8.heap a "backstitch/Needle" "tableComparisons" "J" (.long 0) → Fld Z T8.heap a "backstitch/Needle" "firstOnce" "Z" (.int 0) → Fld Z T8.heap b54 "backstitch/Needle$Tally" "extra" "J" (.long ev8) → Arv Z T8.heap b47 k47 .int (Int32.ofNat nz) rs8 (.int 0) → Arv Z T8.heap b kb .char (Int32.ofNat nz) (own_l nz cf) (.int 0) → Go p e below (own_F s below (Q_own_ndInit Z a b nz cf kb rA kA ra h0 n0) rm19.cells rm19.slots) (T8.setTop (mkF m 179 #[vr a, vr b, vi 0, vi x9, .val (.long 0), .second, vr b54, vi (Int32.ofNat (own_bl cf k8 k8)), vi (Int32.ofNat (k8 + 1)), un, un, un, un] [])) := by
        intro d8
        induction d8 with
        | zero =>
          intro k8 ev8 rs8 T8 L8 hd8 hk8 hP8 X8 N8 Z8 K8 G8_0 G8_1 G8_2 G8_3 G8_4 G8_5 G8_6 G8_7 G8_8 G8_9 G8_10
          refine gb T8 m 182 #[vr a, vr b, vi 0, vi x9, .val (.long 0), .second, vr b54, vi (Int32.ofNat (own_bl cf k8 k8)), vi (Int32.ofNat (k8 + 1)), un, un, un, un] [(.ref b), (.int (Int32.ofNat (k8 + 1)))] (fun u k => XS.iload X8.here hx rfl (D d15_179) rfl (XS.aloadN X8.here hx rfl (D d15_181) rfl rfl k)) ?_
          obtain ⟨cl61, Ar61, aq61, aS61, aM61, aH61, aG61⟩ := id G8_10
          refine gb T8 m 183 #[vr a, vr b, vi 0, vi x9, .val (.long 0), .second, vr b54, vi (Int32.ofNat (own_bl cf k8 k8)), vi (Int32.ofNat (k8 + 1)), un, un, un, un] [(.int cl61.slots.size.toInt32), (.int (Int32.ofNat (k8 + 1)))] (fun u k => X8.arraylength hx Ar61.1 (State.isArrayOf_alike hZ.alike Ar61.2.1) (g := (mkF m 182 #[vr a, vr b, vi 0, vi x9, .val (.long 0), .second, vr b54, vi (Int32.ofNat (own_bl cf k8 k8)), vi (Int32.ofNat (k8 + 1)), un, un, un, un] [(.ref b), (.int (Int32.ofNat (k8 + 1)))])) rfl rfl (D d15_182) _ k) ?_
          rw [len_of aS61 aM61]
          refine gb T8 m 235 #[vr a, vr b, vi 0, vi x9, .val (.long 0), .second, vr b54, vi (Int32.ofNat (own_bl cf k8 k8)), vi (Int32.ofNat (k8 + 1)), un, un, un, un] [] (fun u k => XS.icmpYes X8.here hx rfl (pc0 := 183) (pc' := 235) rfl (D d15_183) rfl (XT.ii_ge_t (own_nlt (by omega) (by omega))) (by decide) (by decide) k) ?_
          have hk9 : nz - 1 = k8 := by omega
          have VF : Arv Z T8.heap b47 k47 .int (Int32.ofNat nz) (own_l nz (own_bf cf (nz - 1))) (.int 0) := by rw [hk9, ← hP8.fin (by omega)]; exact G8_9
          refine gb T8 m 237 #[vr a, vr b, vi 0, vi x9, .val (.long 0), .second, vr b54, vi (Int32.ofNat (own_bl cf k8 k8)), vi (Int32.ofNat (k8 + 1)), un, un, un, un] [(.ref b), (.ref a)] (fun u k => XS.aloadN X8.here hx rfl (D d15_235) rfl rfl (XS.aloadN X8.here hx rfl (D d15_236) rfl rfl k)) ?_
          obtain ⟨cl62, Ar62, aq62, aS62, aM62, aH62, aG62⟩ := id G8_10
          refine gb T8 m 238 #[vr a, vr b, vi 0, vi x9, .val (.long 0), .second, vr b54, vi (Int32.ofNat (own_bl cf k8 k8)), vi (Int32.ofNat (k8 + 1)), un, un, un, un] [(.int cl62.slots.size.toInt32), (.ref a)] (fun u k => X8.arraylength hx Ar62.1 (State.isArrayOf_alike hZ.alike Ar62.2.1) (g := (mkF m 237 #[vr a, vr b, vi 0, vi x9, .val (.long 0), .second, vr b54, vi (Int32.ofNat (own_bl cf k8 k8)), vi (Int32.ofNat (k8 + 1)), un, un, un, un] [(.ref b), (.ref a)])) rfl rfl (D d15_237) _ k) ?_
          rw [len_of aS62 aM62]
          refine gb T8 m 241 #[vr a, vr b, vi 0, vi x9, .val (.long 0), .second, vr b54, vi (Int32.ofNat (own_bl cf k8 k8)), vi (Int32.ofNat (k8 + 1)), un, un, un, un] [(.int 0), (.int ((Int32.ofNat nz) - (1 : Int32))), (.ref a)] (fun u k => XT.iconstV X8.here hx rfl (1 : Int32) (D d15_238) (by decide) (XS.isub X8.here hx rfl (D d15_239) rfl (XT.iconstV X8.here hx rfl (0 : Int32) (D d15_240) (by decide) k))) ?_
          obtain ⟨_, _, ⟨T63, L63, k63, n63⟩, -, X63, ⟨Lc63, hQ63, l63, y63, z63⟩, st63⟩ := Jvm.LawKit.callS X8 hx (y := mn28) hown (mvT hZ (H 150 rfl)) (mvT hZ (H 151 rfl)) (mvT hZ (H 127 rfl)) (mvT hZ (H 152 rfl)) (by decide) (backOf (W := 1) (own_max l Z a0 hw [] ((Int32.ofNat nz) - (1 : Int32)) (0 : Int32) T8.heap n0 Z8 ) hZ (H 152 rfl) (H 127 rfl) (by decide) (by decide)) (g := (mkF m 241 #[vr a, vr b, vi 0, vi x9, .val (.long 0), .second, vr b54, vi (Int32.ofNat (own_bl cf k8 k8)), vi (Int32.ofNat (k8 + 1)), un, un, un, un] [(.int 0), (.int ((Int32.ofNat nz) - (1 : Int32))), (.ref a)])) rfl (by rw [hml]; rfl) (argsL := [(.int ((Int32.ofNat nz) - (1 : Int32))), (.int 0)]) (rest := [(.ref a)]) (lenOf own_pd20 rfl) rfl (own_w0 rfl) (D d15_241) (fun _ _ => ⟨rfl, rfl, (by decide : 12 + 0 ≤ _), (by decide : 1069 + 0 ≤ _)⟩)
          dsimp only [Pt.U, Pt.locs, Pt.cells, Pt.slots] at X63 l63 y63 z63 st63 hQ63
          subst l63 y63 z63
          obtain ⟨rfl, N63, e63⟩ := hQ63
          have NA63 := Fr.app N8 N63
          refine gb T63 m 244 #[vr a, vr b, vi 0, vi x9, .val (.long 0), .second, vr b54, vi (Int32.ofNat (own_bl cf k8 k8)), vi (Int32.ofNat (k8 + 1)), un, un, un, un] [(.int (F_own_max ((Int32.ofNat nz) - (1 : Int32)) (0 : Int32))), (.ref a)] st63 ?_
          clear st63
          refine gb T63 m 247 #[vr a, vr b, vi 0, vi x9, .val (.long 0), .second, vr b54, vi (Int32.ofNat (own_bl cf k8 k8)), vi (Int32.ofNat (k8 + 1)), un, un, un, un] [(.ref b54), (.long ((F_own_max ((Int32.ofNat nz) - (1 : Int32)) (0 : Int32)).toInt64)), (.ref a)] (fun u k => XT.i2l X63.here hx rfl (D d15_244) rfl (XS.aload X63.here hx rfl (D d15_245) rfl rfl k)) ?_
          obtain ⟨T64, X64, e64, st64⟩ := getF X63 hx hZ hown (host := "") (Or.inl (H 153 rfl)) Via.refl e63 G8_8 (g := (mkF m 247 #[vr a, vr b, vi 0, vi x9, .val (.long 0), .second, vr b54, vi (Int32.ofNat (own_bl cf k8 k8)), vi (Int32.ofNat (k8 + 1)), un, un, un, un] [(.ref b54), (.long ((F_own_max ((Int32.ofNat nz) - (1 : Int32)) (0 : Int32)).toInt64)), (.ref a)])) rfl rfl (D d15_247)
          refine gb T64 m 250 #[vr a, vr b, vi 0, vi x9, .val (.long 0), .second, vr b54, vi (Int32.ofNat (own_bl cf k8 k8)), vi (Int32.ofNat (k8 + 1)), un, un, un, un] [(.long ev8), (.long ((F_own_max ((Int32.ofNat nz) - (1 : Int32)) (0 : Int32)).toInt64)), (.ref a)] st64 ?_
          clear st64
          refine gb T64 m 251 #[vr a, vr b, vi 0, vi x9, .val (.long 0), .second, vr b54, vi (Int32.ofNat (own_bl cf k8 k8)), vi (Int32.ofNat (k8 + 1)), un, un, un, un] [(.long (((F_own_max ((Int32.ofNat nz) - (1 : Int32)) (0 : Int32)).toInt64) + ev8)), (.ref a)] (fun u k => XT.ladd X64.here hx rfl (D d15_250) rfl k) ?_
          obtain ⟨T65, h65, X65, e65, W65, st65⟩ := putF X64 hx hZ hown (host := "") (Or.inl (H 155 rfl)) Via.refl e64 G8_6 G8_0 (Or.inr ⟨(H 156 rfl), rfl, hnm⟩) (H 44 rfl) (ty := .long) (by decide) rfl rfl (g := (mkF m 251 #[vr a, vr b, vi 0, vi x9, .val (.long 0), .second, vr b54, vi (Int32.ofNat (own_bl cf k8 k8)), vi (Int32.ofNat (k8 + 1)), un, un, un, un] [(.long (((F_own_max ((Int32.ofNat nz) - (1 : Int32)) (0 : Int32)).toInt64) + ev8)), (.ref a)])) rfl rfl (D d15_251)
          have Z65 : n0 ≤ h65.size := Nat.le_trans Z8 (Keep.of_wr W65).1
          have K65 := K8.wr W65 (Or.inl (List.mem_of_getElem? (i := 0) rfl))
          have N65 := Fr.snoc X65 NA63 g_a
          have F65 := G8_6.same W65
          refine gb T65 m 254 #[vr a, vr b, vi 0, vi x9, .val (.long 0), .second, vr b54, vi (Int32.ofNat (own_bl cf k8 k8)), vi (Int32.ofNat (k8 + 1)), un, un, un, un] [] st65 ?_
          clear st65
          refine gb T65 m 258 #[vr a, vr b, vi 0, vi x9, .val (.long 0), .second, vr b54, vi (Int32.ofNat (own_bl cf k8 k8)), vi 1, un, un, un, un] [(.ref a)] (fun u k => XT.iconstV X65.here hx rfl (1 : Int32) (D d15_254) (by decide) (XS.istore X65.here hx rfl (D d15_255) rfl (l' := #[vr a, vr b, vi 0, vi x9, .val (.long 0), .second, vr b54, vi (Int32.ofNat (own_bl cf k8 k8)), vi 1, un, un, un, un]) rfl (XS.aloadN X65.here hx rfl (D d15_257) rfl rfl k))) ?_
          have f66 := (G8_5.other W65 (Or.inr (slot_ne (Or.inr (H 137 rfl)) (Or.inr (H 156 rfl)) (by decide) (t := (.array .int)) (t' := .long) (by decide) (by decide))))
          obtain ⟨T67, X67, e67, st67⟩ := getF X65 hx hZ hown (host := "") (Or.inl (H 136 rfl)) Via.refl e65 f66 (g := (mkF m 258 #[vr a, vr b, vi 0, vi x9, .val (.long 0), .second, vr b54, vi (Int32.ofNat (own_bl cf k8 k8)), vi 1, un, un, un, un] [(.ref a)])) rfl rfl (D d15_258)
          refine gb T67 m 261 #[vr a, vr b, vi 0, vi x9, .val (.long 0), .second, vr b54, vi (Int32.ofNat (own_bl cf k8 k8)), vi 1, un, un, un, un] [(.ref b47)] st67 ?_
          clear st67
          refine gb T67 m 265 #[vr a, vr b, vi 0, vi x9, .val (.long 0), .second, vr b54, vi (Int32.ofNat (own_bl cf k8 k8)), vi 1, vr b47, un, un, un] [(.ref b47)] (fun u k => XS.astore X67.here hx rfl (D d15_261) rfl rfl (l' := #[vr a, vr b, vi 0, vi x9, .val (.long 0), .second, vr b54, vi (Int32.ofNat (own_bl cf k8 k8)), vi 1, vr b47, un, un, un]) rfl (XS.aload X67.here hx rfl (D d15_263) rfl rfl k)) ?_
          have f68 := (VF.other W65 (Ne.symm ne_a_b47))
          obtain ⟨cl69, Ar69, aq69, aS69, aM69, aH69, aG69⟩ := id f68
          refine gb T67 m 266 #[vr a, vr b, vi 0, vi x9, .val (.long 0), .second, vr b54, vi (Int32.ofNat (own_bl cf k8 k8)), vi 1, vr b47, un, un, un] [(.int cl69.slots.size.toInt32)] (fun u k => X67.arraylength hx (by rw [e67]; exact Ar69.1) (State.isArrayOf_alike hZ.alike Ar69.2.1) (g := (mkF m 265 #[vr a, vr b, vi 0, vi x9, .val (.long 0), .second, vr b54, vi (Int32.ofNat (own_bl cf k8 k8)), vi 1, vr b47, un, un, un] [(.ref b47)])) rfl rfl (D d15_265) _ k) ?_
          rw [len_of aS69 aM69]
          refine gb T67 m 271 #[vr a, vr b, vi 0, vi x9, .val (.long 0), .second, vr b54, vi (Int32.ofNat (own_bl cf k8 k8)), vi 1, vr b47, vi (Int32.ofNat nz), vi 0, un] [] (fun u k => XS.istore X67.here hx rfl (D d15_266) rfl (l' := #[vr a, vr b, vi 0, vi x9, .val (.long 0), .second, vr b54, vi (Int32.ofNat (own_bl cf k8 k8)), vi 1, vr b47, vi (Int32.ofNat nz), un, un]) rfl (XT.iconstV X67.here hx rfl (0 : Int32) (D d15_268) (by decide) (XS.istore X67.here hx rfl (D d15_269) rfl (l' := #[vr a, vr b, vi 0, vi x9, .val (.long 0), .second, vr b54, vi (Int32.ofNat (own_bl cf k8 k8)), vi 1, vr b47, vi (Int32.ofNat nz), vi 0, un]) rfl k))) ?_
          have loop7 : ∀ (d7 : Nat) (i7 : Nat) (o7 : Slot) (ac7 : Int32) (T7 : State) (L7 : List Loc), (d7 = nz - i7) → (i7 ≤ nz) → ((o7 = un ∨ ∃ v : Int32, o7 = vi v)) → (ac7 = 0 ∨ ac7 = 1) → Stand p l e rm19 s m #[(.ref a), (.ref b), (.int 0)] below meth c T7 L7 12 1069 → Fr n0 L7 → T7.heap = h65 → Go p e below (own_F s below (Q_own_ndInit Z a b nz cf kb rA kA ra h0 n0) rm19.cells rm19.slots) (T7.setTop (mkF m 271 #[vr a, vr b, vi 0, vi x9, .val (.long 0), .second, vr b54, vi (Int32.ofNat (own_bl cf k8 k8)), vi ac7, vr b47, vi (Int32.ofNat nz), vi (Int32.ofNat i7), o7] [])) := by
            intro d7
            induction d7 with
            | zero =>
              intro i7 o7 ac7 T7 L7 hd7 hi7 hs7 hac7 X7 N7 E7
              refine gb T7 m 309 #[vr a, vr b, vi 0, vi x9, .val (.long 0), .second, vr b54, vi (Int32.ofNat (own_bl cf k8 k8)), vi ac7, vr b47, vi (Int32.ofNat nz), vi (Int32.ofNat i7), o7] [(.int ac7), (.ref a)] (fun u k => XS.iload X7.here hx rfl (D d15_271) rfl (XS.iload X7.here hx rfl (D d15_273) rfl (XS.icmpYes X7.here hx rfl (pc0 := 275) (pc' := 306) rfl (D d15_275) rfl (XT.ii_ge_t (own_nlt (by omega) (by omega))) (by decide) (by decide) (XS.aloadN X7.here hx rfl (D d15_306) rfl rfl (XS.iload X7.here hx rfl (D d15_307) rfl k))))) ?_
              have f71 := (G8_7.other W65 (Or.inr (slot_ne (Or.inr (H 158 rfl)) (Or.inr (H 156 rfl)) (by decide) (t := .boolean) (t' := .long) (by decide) (by decide))))
              have f72 := (G8_0.wr W65)
              obtain ⟨T70, h70, X70, e70, W70, st70⟩ := putFN X7 hx hZ hown (H 157 rfl) Via.refl E7 f71 f72 (Or.inr ⟨(H 158 rfl), rfl, hnm⟩) (H 44 rfl) (ty := .boolean) (v' := (.int ac7)) (by decide) (own_bit hac7).1 (own_bit hac7).2 (g := (mkF m 309 #[vr a, vr b, vi 0, vi x9, .val (.long 0), .second, vr b54, vi (Int32.ofNat (own_bl cf k8 k8)), vi ac7, vr b47, vi (Int32.ofNat nz), vi (Int32.ofNat i7), o7] [(.int ac7), (.ref a)])) rfl rfl (D d15_309)
              have Z70 : n0 ≤ h70.size := Nat.le_trans Z65 (Keep.of_wr W70).1
              have K70 := K65.wr W70 (Or.inl (List.mem_of_getElem? (i := 0) rfl))
              have N70 := Fr.snoc X70 N7 g_a
              have F70 := f71.same W70
              refine gb T70 m 312 #[vr a, vr b, vi 0, vi x9, .val (.long 0), .second, vr b54, vi (Int32.ofNat (own_bl cf k8 k8)), vi ac7, vr b47, vi (Int32.ofNat nz), vi (Int32.ofNat i7), o7] [] st70 ?_
              clear st70
              have f73 := (f72.wr W70)
              have f74 := ((G8_3.other W65 (Or.inr (slot_ne (Or.inr (H 76 rfl)) (Or.inr (H 156 rfl)) (by decide) (t := (.array .char)) (t' := .long) (by decide) (by decide)))).other W70 (Or.inr (slot_ne (Or.inr (H 76 rfl)) (Or.inr (H 158 rfl)) (by decide) (t := (.array .char)) (t' := .boolean) (by decide) (by decide))))
              have f75 := ((G8_4.other W65 (Or.inr (slot_ne (Or.inr (H 78 rfl)) (Or.inr (H 156 rfl)) (by decide) (t := .boolean) (t' := .long) (by decide) (by decide)))).other W70 (Or.inr (slot_ne (Or.inr (H 78 rfl)) (Or.inr (H 158 rfl)) (by decide) (t := .boolean) (t' := .boolean) (by decide) (by decide))))
              have f76 := (f66.other W70 (Or.inr (slot_ne (Or.inr (H 137 rfl)) (Or.inr (H 158 rfl)) (by decide) (t := (.array .int)) (t' := .boolean) (by decide) (by decide))))
              have f77 := ((G8_2.wr W65).wr W70)
              have f78 := (f68.other W70 (Ne.symm ne_a_b47))
              obtain ⟨fs, hr, hrun, hended, hW, hsame⟩ := X70.leave (v := none) (fun _ => rfl)
              refine ⟨_, _, X70.returnOut hx Bd.returns (D d15_312) hr, hrun, hended, _, _, rfl, ?_, ⟨_, rfl⟩, hW, hsame.mono (by decide) (by decide)⟩
              show Q_own_ndInit Z a b nz cf kb rA kA ra h0 n0 _ T70.heap _
              rw [e70]
              exact ⟨b47, k47, rfl, N70, K70, gb47, sz47, f73, f74, f75, f76, f77, f78⟩
            | succ d7 ih7 =>
              intro i7 o7 ac7 T7 L7 hd7 hi7 hs7 hac7 X7 N7 E7
              refine gb T7 m 282 #[vr a, vr b, vi 0, vi x9, .val (.long 0), .second, vr b54, vi (Int32.ofNat (own_bl cf k8 k8)), vi ac7, vr b47, vi (Int32.ofNat nz), vi (Int32.ofNat i7), o7] [(.int (Int32.ofNat i7)), (.ref b47)] (fun u k => XS.iload X7.here hx rfl (D d15_271) rfl (XS.iload X7.here hx rfl (D d15_273) rfl (XS.icmpNo X7.here hx rfl (D d15_275) rfl (XT.ii_ge_f (own_ilt (by omega) (by omega))) (XS.aload X7.here hx rfl (D d15_278) rfl rfl (XS.iload X7.here hx rfl (D d15_280) rfl k))))) ?_
              obtain ⟨cl79, Ar79, aq79, aS79, aM79, aH79, aG79⟩ := id f68
              refine gb T7 m 283 #[vr a, vr b, vi 0, vi x9, .val (.long 0), .second, vr b54, vi (Int32.ofNat (own_bl cf k8 k8)), vi ac7, vr b47, vi (Int32.ofNat nz), vi (Int32.ofNat i7), o7] [(.int (own_bf cf (nz - 1) i7))] (fun u k => X7.iaload hx (j := (Int32.ofNat i7)) (v := (.int (own_bf cf (nz - 1) i7))) (by rw [E7]; exact Ar79.1) (State.isArrayOf_alike hZ.alike Ar79.2.1) Ar79.2.2 (inb_of aS79 (own_ib (by omega) (by omega))) (Has.at aH79 (inb_of aS79 (own_ib (by omega) (by omega))) (own_ld _ (by omega) (by omega))) (g := (mkF m 282 #[vr a, vr b, vi 0, vi x9, .val (.long 0), .second, vr b54, vi (Int32.ofNat (own_bl cf k8 k8)), vi ac7, vr b47, vi (Int32.ofNat nz), vi (Int32.ofNat i7), o7] [(.int (Int32.ofNat i7)), (.ref b47)])) rfl rfl (D d15_282) _ k) ?_
              refine gb T7 m 285 #[vr a, vr b, vi 0, vi x9, .val (.long 0), .second, vr b54, vi (Int32.ofNat (own_bl cf k8 k8)), vi ac7, vr b47, vi (Int32.ofNat nz), vi (Int32.ofNat i7), vi (own_bf cf (nz - 1) i7)] [] (fun u k => by rcases hs7 with rfl | ⟨v9, rfl⟩ <;> exact XS.istore X7.here hx rfl (D d15_283) rfl (l' := #[vr a, vr b, vi 0, vi x9, .val (.long 0), .second, vr b54, vi (Int32.ofNat (own_bl cf k8 k8)), vi ac7, vr b47, vi (Int32.ofNat nz), vi (Int32.ofNat i7), vi (own_bf cf (nz - 1) i7)]) rfl k) ?_
              refine gb T7 m 287 #[vr a, vr b, vi 0, vi x9, .val (.long 0), .second, vr b54, vi (Int32.ofNat (own_bl cf k8 k8)), vi ac7, vr b47, vi (Int32.ofNat nz), vi (Int32.ofNat i7), vi (own_bf cf (nz - 1) i7)] [(.int ac7)] (fun u k => XS.iload X7.here hx rfl (D d15_285) rfl k) ?_
              have sg80 : ∀ u, Steps p.tables e below (T7.setTop (mkF m 297 #[vr a, vr b, vi 0, vi x9, .val (.long 0), .second, vr b54, vi (Int32.ofNat (own_bl cf k8 k8)), vi ac7, vr b47, vi (Int32.ofNat nz), vi (Int32.ofNat i7), vi (own_bf cf (nz - 1) i7)] [(.int (if (own_bf cf (nz - 1) i7) = (0 : Int32) then (1 : Int32) else (0 : Int32))), (.int ac7)])) u → Steps p.tables e below (T7.setTop (mkF m 287 #[vr a, vr b, vi 0, vi x9, .val (.long 0), .second, vr b54, vi (Int32.ofNat (own_bl cf k8 k8)), vi ac7, vr b47, vi (Int32.ofNat nz), vi (Int32.ofNat i7), vi (own_bf cf (nz - 1) i7)] [(.int ac7)])) u := by
                intro u k
                refine XS.iload X7.here hx rfl (D d15_287) rfl ?_
                show Steps p.tables e below (T7.setTop (mkF m 289 #[vr a, vr b, vi 0, vi x9, .val (.long 0), .second, vr b54, vi (Int32.ofNat (own_bl cf k8 k8)), vi ac7, vr b47, vi (Int32.ofNat nz), vi (Int32.ofNat i7), vi (own_bf cf (nz - 1) i7)] [(.int (own_bf cf (nz - 1) i7)), (.int ac7)])) u
                by_cases hc81 : (own_bf cf (nz - 1) i7) = (0 : Int32)
                · refine XS.ifNo X7.here hx rfl (D d15_289) rfl (XT.i0_ne_f hc81) ?_
                  show Steps p.tables e below (T7.setTop (mkF m 292 #[vr a, vr b, vi 0, vi x9, .val (.long 0), .second, vr b54, vi (Int32.ofNat (own_bl cf k8 k8)), vi ac7, vr b47, vi (Int32.ofNat nz), vi (Int32.ofNat i7), vi (own_bf cf (nz - 1) i7)] [(.int ac7)])) u
                  refine XT.iconstV X7.here hx rfl (1 : Int32) (D d15_292) (by decide) ?_
                  show Steps p.tables e below (T7.setTop (mkF m 293 #[vr a, vr b, vi 0, vi x9, .val (.long 0), .second, vr b54, vi (Int32.ofNat (own_bl cf k8 k8)), vi ac7, vr b47, vi (Int32.ofNat nz), vi (Int32.ofNat i7), vi (own_bf cf (nz - 1) i7)] [(.int 1), (.int ac7)])) u
                  refine XS.goto X7.here hx rfl (pc0 := 293) (pc' := 297) rfl (D d15_293) (by decide) (by decide) ?_
                  show Steps p.tables e below (T7.setTop (mkF m 297 #[vr a, vr b, vi 0, vi x9, .val (.long 0), .second, vr b54, vi (Int32.ofNat (own_bl cf k8 k8)), vi ac7, vr b47, vi (Int32.ofNat nz), vi (Int32.ofNat i7), vi (own_bf cf (nz - 1) i7)] [(.int 1), (.int ac7)])) u
                  try simp only [if_pos hc81] at k
                  exact k
                · refine XS.ifYes X7.here hx rfl (pc0 := 289) (pc' := 296) rfl (D d15_289) rfl (XT.i0_ne_t hc81) (by decide) (by decide) ?_
                  show Steps p.tables e below (T7.setTop (mkF m 296 #[vr a, vr b, vi 0, vi x9, .val (.long 0), .second, vr b54, vi (Int32.ofNat (own_bl cf k8 k8)), vi ac7, vr b47, vi (Int32.ofNat nz), vi (Int32.ofNat i7), vi (own_bf cf (nz - 1) i7)] [(.int ac7)])) u
                  refine XT.iconstV X7.here hx rfl (0 : Int32) (D d15_296) (by decide) ?_
                  show Steps p.tables e below (T7.setTop (mkF m 297 #[vr a, vr b, vi 0, vi x9, .val (.long 0), .second, vr b54, vi (Int32.ofNat (own_bl cf k8 k8)), vi ac7, vr b47, vi (Int32.ofNat nz), vi (Int32.ofNat i7), vi (own_bf cf (nz - 1) i7)] [(.int 0), (.int ac7)])) u
                  try simp only [if_neg hc81] at k
                  exact k
              refine gb T7 m 297 #[vr a, vr b, vi 0, vi x9, .val (.long 0), .second, vr b54, vi (Int32.ofNat (own_bl cf k8 k8)), vi ac7, vr b47, vi (Int32.ofNat nz), vi (Int32.ofNat i7), vi (own_bf cf (nz - 1) i7)] [(.int (if (own_bf cf (nz - 1) i7) = (0 : Int32) then (1 : Int32) else (0 : Int32))), (.int ac7)] sg80 ?_
              obtain ⟨tb7, h_tb7⟩ : ∃ z : Int32, z = (if (own_bf cf (nz - 1) i7) = (0 : Int32) then (1 : Int32) else (0 : Int32)) := ⟨_, rfl⟩
              rw [← h_tb7]
              have bit_tb7 : tb7 = 0 ∨ tb7 = 1 := by rw [h_tb7]; repeat (split <;> try simp)
              refine gb T7 m 271 #[vr a, vr b, vi 0, vi x9, .val (.long 0), .second, vr b54, vi (Int32.ofNat (own_bl cf k8 k8)), vi (ac7 &&& tb7), vr b47, vi (Int32.ofNat nz), vi ((Int32.ofNat i7) + (1 : Int32)), vi (own_bf cf (nz - 1) i7)] [] (fun u k => XS.iand X7.here hx rfl (D d15_297) rfl (XS.istore X7.here hx rfl (D d15_298) rfl (l' := #[vr a, vr b, vi 0, vi x9, .val (.long 0), .second, vr b54, vi (Int32.ofNat (own_bl cf k8 k8)), vi (ac7 &&& tb7), vr b47, vi (Int32.ofNat nz), vi (Int32.ofNat i7), vi (own_bf cf (nz - 1) i7)]) rfl (XT.iincV X7.here hx rfl (1 : Int32) (D d15_300) (by decide) rfl (l' := #[vr a, vr b, vi 0, vi x9, .val (.long 0), .second, vr b54, vi (Int32.ofNat (own_bl cf k8 k8)), vi (ac7 &&& tb7), vr b47, vi (Int32.ofNat nz), vi ((Int32.ofNat i7) + (1 : Int32)), vi (own_bf cf (nz - 1) i7)]) rfl (XS.goto X7.here hx rfl (pc0 := 303) (pc' := 271) rfl (D d15_303) (by decide) (by decide) k)))) ?_
              have rw82 : ((Int32.ofNat i7) + (1 : Int32)) = (Int32.ofNat (i7 + 1)) := (own_j i7 (by omega)).2.2
              rw [rw82]
              exact ih7 (i7 + 1) (.val (.int (own_bf cf (nz - 1) i7))) (ac7 &&& tb7) T7 _ (by omega) (by omega) (Or.inr ⟨_, rfl⟩) (own_and_bit hac7 bit_tb7) X7 N7 E7
          show Go p e below (own_F s below (Q_own_ndInit Z a b nz cf kb rA kA ra h0 n0) rm19.cells rm19.slots) (T67.setTop (mkF m 271 #[vr a, vr b, vi 0, vi x9, .val (.long 0), .second, vr b54, vi (Int32.ofNat (own_bl cf k8 k8)), vi 1, vr b47, vi (Int32.ofNat nz), vi (Int32.ofNat 0), un] []))
          exact loop7 nz 0 .unset _ T67 _ rfl (by omega) (Or.inl rfl) (Or.inr rfl) X67 N65 e67
        | succ d8 ih8 =>
          intro k8 ev8 rs8 T8 L8 hd8 hk8 hP8 X8 N8 Z8 K8 G8_0 G8_1 G8_2 G8_3 G8_4 G8_5 G8_6 G8_7 G8_8 G8_9 G8_10
          refine gb T8 m 182 #[vr a, vr b, vi 0, vi x9, .val (.long 0), .second, vr b54, vi (Int32.ofNat (own_bl cf k8 k8)), vi (Int32.ofNat (k8 + 1)), un, un, un, un] [(.ref b), (.int (Int32.ofNat (k8 + 1)))] (fun u k => XS.iload X8.here hx rfl (D d15_179) rfl (XS.aloadN X8.here hx rfl (D d15_181) rfl rfl k)) ?_
          obtain ⟨cl84, Ar84, aq84, aS84, aM84, aH84, aG84⟩ := id G8_10
          refine gb T8 m 183 #[vr a, vr b, vi 0, vi x9, .val (.long 0), .second, vr b54, vi (Int32.ofNat (own_bl cf k8 k8)), vi (Int32.ofNat (k8 + 1)), un, un, un, un] [(.int cl84.slots.size.toInt32), (.int (Int32.ofNat (k8 + 1)))] (fun u k => X8.arraylength hx Ar84.1 (State.isArrayOf_alike hZ.alike Ar84.2.1) (g := (mkF m 182 #[vr a, vr b, vi 0, vi x9, .val (.long 0), .second, vr b54, vi (Int32.ofNat (own_bl cf k8 k8)), vi (Int32.ofNat (k8 + 1)), un, un, un, un] [(.ref b), (.int (Int32.ofNat (k8 + 1)))])) rfl rfl (D d15_182) _ k) ?_
          rw [len_of aS84 aM84]
          refine gb T8 m 188 #[vr a, vr b, vi 0, vi x9, .val (.long 0), .second, vr b54, vi (Int32.ofNat (own_bl cf k8 k8)), vi (Int32.ofNat (k8 + 1)), un, un, un, un] [(.int (Int32.ofNat (own_bl cf k8 k8)))] (fun u k => XS.icmpNo X8.here hx rfl (D d15_183) rfl (XT.ii_ge_f (own_ilt (by omega) (by omega))) (XS.iload X8.here hx rfl (D d15_186) rfl k)) ?_
          by_cases hm : (0 : Int32) < (Int32.ofNat (own_bl cf k8 k8))
          · refine gb T8 m 197 #[vr a, vr b, vi 0, vi x9, .val (.long 0), .second, vr b54, vi (Int32.ofNat (own_bl cf k8 k8)), vi (Int32.ofNat (k8 + 1)), un, un, un, un] [(.int (Int32.ofNat (k8 + 1))), (.ref b), (.int (Int32.ofNat (own_bl cf k8 k8))), (.ref a)] (fun u k => XS.ifNo X8.here hx rfl (D d15_188) rfl (XT.i0_le_f hm) (XS.aloadN X8.here hx rfl (D d15_191) rfl rfl (XS.iload X8.here hx rfl (D d15_192) rfl (XS.aloadN X8.here hx rfl (D d15_194) rfl rfl (XS.iload X8.here hx rfl (D d15_195) rfl k))))) ?_
            obtain ⟨cl86, Ar86, aq86, aS86, aM86, aH86, aG86⟩ := id G8_10
            refine gb T8 m 200 #[vr a, vr b, vi 0, vi x9, .val (.long 0), .second, vr b54, vi (Int32.ofNat (own_bl cf k8 k8)), vi (Int32.ofNat (k8 + 1)), un, un, un, un] [(.ref b54), (.int (cf (k8 + 1))), (.int (Int32.ofNat (own_bl cf k8 k8))), (.ref a)] (fun u k => X8.caload hx (j := (Int32.ofNat (k8 + 1))) (v := (.int (cf (k8 + 1)))) Ar86.1 (State.isArrayOf_alike hZ.alike Ar86.2.1) Ar86.2.2 (inb_of aS86 (own_ib (by omega) (by omega))) (Has.at aH86 (inb_of aS86 (own_ib (by omega) (by omega))) (own_ld _ (by omega) (by omega))) (g := (mkF m 197 #[vr a, vr b, vi 0, vi x9, .val (.long 0), .second, vr b54, vi (Int32.ofNat (own_bl cf k8 k8)), vi (Int32.ofNat (k8 + 1)), un, un, un, un] [(.int (Int32.ofNat (k8 + 1))), (.ref b), (.int (Int32.ofNat (own_bl cf k8 k8))), (.ref a)])) rfl rfl (D d15_197) _ (XS.aload X8.here hx rfl (D d15_198) rfl rfl k)) ?_
            obtain ⟨cq88, kq88, qa88, qb88, qc88⟩ := isOf hZ rfl G8_0
            obtain ⟨_, _, ⟨T87, L87, k87, n87⟩, -, X87, ⟨Lc87, hQ87, l87, y87, z87⟩, st87⟩ := X8.virtualBack hx (y := mn31) (z := mn31) hown (mvT hZ (H 199 rfl)) (mvT hZ (H 200 rfl)) (notFace_of_selects (args := #[]) (mvT hZ (H 202 rfl))) (mvT hZ (H 202 rfl)) (mvT hZ (H 201 rfl)) (by decide) (backOf (W := 0) (own_advC l Z a0 hw [] a (cf (k8 + 1)) b54 b b47 ev8 nz cf kb k47 rs8 (own_bl cf k8) (own_bl cf k8 k8) (k8 + 1) T8.heap n0 Z8 G8_1 G8_3 G8_5 G8_8 gb54 (Ne.symm ne_a_b54) (Ne.symm ne_b_b54) (Ne.symm ne_b47_b54) G8_10 G8_9 hnz hP8 (own_bl_le cf k8) ⟨(own_gt0 (own_bl_le' cf (by omega))).mp hm, Nat.le_succ_of_le (own_bl_le cf k8 k8), by omega⟩) hZ (H 203 rfl) (H 41 rfl) (by decide) (by decide)) qa88 qc88 (g := (mkF m 200 #[vr a, vr b, vi 0, vi x9, .val (.long 0), .second, vr b54, vi (Int32.ofNat (own_bl cf k8 k8)), vi (Int32.ofNat (k8 + 1)), un, un, un, un] [(.ref b54), (.int (cf (k8 + 1))), (.int (Int32.ofNat (own_bl cf k8 k8))), (.ref a)])) rfl (by rw [hml]; rfl) (Steps.refl _) (argsL := [(.int (Int32.ofNat (own_bl cf k8 k8))), (.int (cf (k8 + 1))), (.ref b54)]) (rest := []) (lenOf own_pd24 rfl) rfl (own_w0 rfl) (D d15_200) (fun _ _ => ⟨rfl, rfl, (by decide : 12 + 0 ≤ _), (by decide : 1069 + 0 ≤ _)⟩)
            dsimp only [Pt.U, Pt.locs, Pt.cells, Pt.slots] at X87 l87 y87 z87 st87 hQ87
            subst l87 y87 z87
            obtain ⟨ev87, rfl, N87, Kc87, P87_0, P87_1⟩ := hQ87
            have NA87 := Fr.app N8 N87
            have Z87 : n0 ≤ T87.heap.size := Nat.le_trans Z8 Kc87.1
            have K87 := K8.trans Kc87 (allS (Or.inr sz54) all0)
            refine gb T87 m 203 #[vr a, vr b, vi 0, vi x9, .val (.long 0), .second, vr b54, vi (Int32.ofNat (own_bl cf k8 k8)), vi (Int32.ofNat (k8 + 1)), un, un, un, un] [(.int (Int32.ofNat (own_adv cf (own_bl cf k8) (cf (k8 + 1)) 5 (own_bl cf k8 k8))))] (fun u k => st87.trans k) ?_
            clear st87
            refine gb T87 m 207 #[vr a, vr b, vi 0, vi x9, .val (.long 0), .second, vr b54, vi (Int32.ofNat (own_adv cf (own_bl cf k8) (cf (k8 + 1)) 5 (own_bl cf k8 k8))), vi (Int32.ofNat (k8 + 1)), un, un, un, un] [(.int (Int32.ofNat (own_adv cf (own_bl cf k8) (cf (k8 + 1)) 5 (own_bl cf k8 k8))))] (fun u k => XS.istore X87.here hx rfl (D d15_203) rfl (l' := #[vr a, vr b, vi 0, vi x9, .val (.long 0), .second, vr b54, vi (Int32.ofNat (own_adv cf (own_bl cf k8) (cf (k8 + 1)) 5 (own_bl cf k8 k8))), vi (Int32.ofNat (k8 + 1)), un, un, un, un]) rfl (XS.iload X87.here hx rfl (D d15_205) rfl k)) ?_
            by_cases hz : (Int32.ofNat (own_adv cf (own_bl cf k8) (cf (k8 + 1)) 5 (own_bl cf k8 k8))) = (0 : Int32)
            · refine gb T87 m 214 #[vr a, vr b, vi 0, vi x9, .val (.long 0), .second, vr b54, vi (Int32.ofNat (own_adv cf (own_bl cf k8) (cf (k8 + 1)) 5 (own_bl cf k8 k8))), vi (Int32.ofNat (k8 + 1)), un, un, un, un] [(.int (Int32.ofNat (k8 + 1))), (.ref b), (.ref a)] (fun u k => XS.ifNo X87.here hx rfl (D d15_207) rfl (XT.i0_ne_f hz) (XS.aloadN X87.here hx rfl (D d15_210) rfl rfl (XS.aloadN X87.here hx rfl (D d15_211) rfl rfl (XS.iload X87.here hx rfl (D d15_212) rfl k)))) ?_
              have f90 := (G8_10.keep Kc87 (ninS ne_b_b54 nin0))
              obtain ⟨cl91, Ar91, aq91, aS91, aM91, aH91, aG91⟩ := id f90
              refine gb T87 m 215 #[vr a, vr b, vi 0, vi x9, .val (.long 0), .second, vr b54, vi (Int32.ofNat (own_adv cf (own_bl cf k8) (cf (k8 + 1)) 5 (own_bl cf k8 k8))), vi (Int32.ofNat (k8 + 1)), un, un, un, un] [(.int (cf (k8 + 1))), (.ref a)] (fun u k => X87.caload hx (j := (Int32.ofNat (k8 + 1))) (v := (.int (cf (k8 + 1)))) Ar91.1 (State.isArrayOf_alike hZ.alike Ar91.2.1) Ar91.2.2 (inb_of aS91 (own_ib (by omega) (by omega))) (Has.at aH91 (inb_of aS91 (own_ib (by omega) (by omega))) (own_ld _ (by omega) (by omega))) (g := (mkF m 214 #[vr a, vr b, vi 0, vi x9, .val (.long 0), .second, vr b54, vi (Int32.ofNat (own_adv cf (own_bl cf k8) (cf (k8 + 1)) 5 (own_bl cf k8 k8))), vi (Int32.ofNat (k8 + 1)), un, un, un, un] [(.int (Int32.ofNat (k8 + 1))), (.ref b), (.ref a)])) rfl rfl (D d15_214) _ k) ?_
              have f92 := (G8_3.keep Kc87 (ninS ne_a_b54 nin0))
              have f95 := (G8_0.keep Kc87)
              obtain ⟨cq94, kq94, qa94, qb94, qc94⟩ := isOf hZ rfl f95
              obtain ⟨_, _, ⟨T93, L93, k93, n93⟩, -, X93, ⟨Lc93, hQ93, l93, y93, z93⟩, st93⟩ := X87.virtualBack hx (y := mn30) (z := mn30) hown (mvT hZ (H 145 rfl)) (mvT hZ (H 146 rfl)) (notFace_of_selects (args := #[]) (mvT hZ (H 148 rfl))) (mvT hZ (H 148 rfl)) (mvT hZ (H 147 rfl)) (by decide) (backOf (W := 0) (own_begin l Z a0 hw [] a (cf (k8 + 1)) b nz cf kb T87.heap n0 Z87 f92 f90 hnz (by omega)) hZ (H 149 rfl) (H 41 rfl) (by decide) (by decide)) qa94 qc94 (g := (mkF m 215 #[vr a, vr b, vi 0, vi x9, .val (.long 0), .second, vr b54, vi (Int32.ofNat (own_adv cf (own_bl cf k8) (cf (k8 + 1)) 5 (own_bl cf k8 k8))), vi (Int32.ofNat (k8 + 1)), un, un, un, un] [(.int (cf (k8 + 1))), (.ref a)])) rfl (by rw [hml]; rfl) (Steps.refl _) (argsL := [(.int (cf (k8 + 1)))]) (rest := []) (lenOf own_pd19 rfl) rfl (own_w0 rfl) (D d15_215) (fun _ _ => ⟨rfl, rfl, (by decide : 12 + 0 ≤ _), (by decide : 1069 + 0 ≤ _)⟩)
              dsimp only [Pt.U, Pt.locs, Pt.cells, Pt.slots] at X93 l93 y93 z93 st93 hQ93
              subst l93 y93 z93
              obtain ⟨rfl, N93, e93⟩ := hQ93
              have NA93 := Fr.app NA87 N93
              refine gb T93 m 218 #[vr a, vr b, vi 0, vi x9, .val (.long 0), .second, vr b54, vi (Int32.ofNat (own_adv cf (own_bl cf k8) (cf (k8 + 1)) 5 (own_bl cf k8 k8))), vi (Int32.ofNat (k8 + 1)), un, un, un, un] [(.int (if (cf 0) = (cf (k8 + 1)) then (1 : Int32) else (0 : Int32)))] (fun u k => st93.trans k) ?_
              clear st93
              have rw96 : (if (cf 0) = (cf (k8 + 1)) then (1 : Int32) else (0 : Int32)) = (own_bf cf (k8 + 1) (k8 + 1)) := own_nxB1 (by omega) hz
              rw [rw96]
              refine gb T93 m 221 #[vr a, vr b, vi 0, vi x9, .val (.long 0), .second, vr b54, vi (own_bf cf (k8 + 1) (k8 + 1)), vi (Int32.ofNat (k8 + 1)), un, un, un, un] [(.ref a)] (fun u k => XS.istore X93.here hx rfl (D d15_218) rfl (l' := #[vr a, vr b, vi 0, vi x9, .val (.long 0), .second, vr b54, vi (own_bf cf (k8 + 1) (k8 + 1)), vi (Int32.ofNat (k8 + 1)), un, un, un, un]) rfl (XS.aloadN X93.here hx rfl (D d15_220) rfl rfl k)) ?_
              have f97 := (G8_5.keep Kc87 (ninS ne_a_b54 nin0))
              obtain ⟨T98, X98, e98, st98⟩ := getF X93 hx hZ hown (host := "") (Or.inl (H 136 rfl)) Via.refl e93 f97 (g := (mkF m 221 #[vr a, vr b, vi 0, vi x9, .val (.long 0), .second, vr b54, vi (own_bf cf (k8 + 1) (k8 + 1)), vi (Int32.ofNat (k8 + 1)), un, un, un, un] [(.ref a)])) rfl rfl (D d15_221)
              refine gb T98 m 224 #[vr a, vr b, vi 0, vi x9, .val (.long 0), .second, vr b54, vi (own_bf cf (k8 + 1) (k8 + 1)), vi (Int32.ofNat (k8 + 1)), un, un, un, un] [(.ref b47)] st98 ?_
              clear st98
              refine gb T98 m 228 #[vr a, vr b, vi 0, vi x9, .val (.long 0), .second, vr b54, vi (own_bf cf (k8 + 1) (k8 + 1)), vi (Int32.ofNat (k8 + 1)), un, un, un, un] [(.int (own_bf cf (k8 + 1) (k8 + 1))), (.int (Int32.ofNat (k8 + 1))), (.ref b47)] (fun u k => XS.iload X98.here hx rfl (D d15_224) rfl (XS.iload X98.here hx rfl (D d15_226) rfl k)) ?_
              have f99 := (G8_9.keep Kc87 (ninS ne_b47_b54 nin0))
              obtain ⟨cl100, Ar100, aq100, aS100, aM100, aH100, aG100⟩ := id f99
              obtain ⟨T101, h101, X101, e101, W101, st101⟩ := stI X98 hx hZ e98 Ar100 (j := (Int32.ofNat (k8 + 1))) (inb_of aS100 (own_ib (by omega) (by omega))) (g := (mkF m 228 #[vr a, vr b, vi 0, vi x9, .val (.long 0), .second, vr b54, vi (own_bf cf (k8 + 1) (k8 + 1)), vi (Int32.ofNat (k8 + 1)), un, un, un, un] [(.int (own_bf cf (k8 + 1) (k8 + 1))), (.int (Int32.ofNat (k8 + 1))), (.ref b47)])) rfl rfl (D d15_228)
              have Z101 : n0 ≤ h101.size := Nat.le_trans Z87 (Keep.of_wr W101).1
              have K101 := K87.wr W101 (Or.inr sz47)
              have N101 := Fr.snoc X101 NA93 gb47
              have V101 : Arv Z h101 b47 k47 .int (Int32.ofNat nz) (rs8.set (k8 + 1) (.int (own_bf cf (k8 + 1) (k8 + 1)))) (.int 0) := Arv.set Ar100 aq100 aS100 aM100 aH100 aG100 rfl W101 ((k8 + 1)) (own_j (k8 + 1) (by omega)).2.1 (by rw [hP8.1]; omega)
              refine gb T101 m 229 #[vr a, vr b, vi 0, vi x9, .val (.long 0), .second, vr b54, vi (own_bf cf (k8 + 1) (k8 + 1)), vi (Int32.ofNat (k8 + 1)), un, un, un, un] [] st101 ?_
              clear st101
              refine gb T101 m 179 #[vr a, vr b, vi 0, vi x9, .val (.long 0), .second, vr b54, vi (own_bf cf (k8 + 1) (k8 + 1)), vi ((Int32.ofNat (k8 + 1)) + (1 : Int32)), un, un, un, un] [] (fun u k => XT.iincV X101.here hx rfl (1 : Int32) (D d15_229) (by decide) rfl (l' := #[vr a, vr b, vi 0, vi x9, .val (.long 0), .second, vr b54, vi (own_bf cf (k8 + 1) (k8 + 1)), vi ((Int32.ofNat (k8 + 1)) + (1 : Int32)), un, un, un, un]) rfl (XS.goto X101.here hx rfl (pc0 := 232) (pc' := 179) rfl (D d15_232) (by decide) (by decide) k)) ?_
              have rw102 : ((Int32.ofNat (k8 + 1)) + (1 : Int32)) = (Int32.ofNat ((k8 + 1) + 1)) := (own_j (k8 + 1) (by omega)).2.2
              rw [rw102]
              have f103 := (f95.wr W101)
              have f104 := (P87_0.wr W101)
              have f105 := ((G8_2.keep Kc87).wr W101)
              have f106 := (f92.other W101 (Or.inl ne_a_b47))
              have f107 := ((G8_4.keep Kc87 (ninS ne_a_b54 nin0)).other W101 (Or.inl ne_a_b47))
              have f108 := (f97.other W101 (Or.inl ne_a_b47))
              have f109 := ((G8_6.keep Kc87 (ninS ne_a_b54 nin0)).other W101 (Or.inl ne_a_b47))
              have f110 := ((G8_7.keep Kc87 (ninS ne_a_b54 nin0)).other W101 (Or.inl ne_a_b47))
              have f111 := (P87_1.other W101 (Or.inl (Ne.symm ne_b47_b54)))
              have f112 := (f90.other W101 ne_b_b47)
              subst e101
              exact ih8 (k8 + 1) _ _ T101 _ (by omega) (by omega) (own_pwB hP8 (by omega)) X101 N101 Z101 K101 f103 f104 f105 f106 f107 f108 f109 f110 f111 V101 f112 
            · refine gb T87 m 220 #[vr a, vr b, vi 0, vi x9, .val (.long 0), .second, vr b54, vi (Int32.ofNat (own_adv cf (own_bl cf k8) (cf (k8 + 1)) 5 (own_bl cf k8 k8))), vi (Int32.ofNat (k8 + 1)), un, un, un, un] [] (fun u k => XS.ifYes X87.here hx rfl (pc0 := 207) (pc' := 220) rfl (D d15_207) rfl (XT.i0_ne_t hz) (by decide) (by decide) k) ?_
              have rw113 : (Int32.ofNat (own_adv cf (own_bl cf k8) (cf (k8 + 1)) 5 (own_bl cf k8 k8))) = (own_bf cf (k8 + 1) (k8 + 1)) := own_nxA (by omega) hm hz
              rw [rw113]
              refine gb T87 m 221 #[vr a, vr b, vi 0, vi x9, .val (.long 0), .second, vr b54, vi (own_bf cf (k8 + 1) (k8 + 1)), vi (Int32.ofNat (k8 + 1)), un, un, un, un] [(.ref a)] (fun u k => XS.aloadN X87.here hx rfl (D d15_220) rfl rfl k) ?_
              have f114 := (G8_5.keep Kc87 (ninS ne_a_b54 nin0))
              obtain ⟨T115, X115, e115, st115⟩ := getF X87 hx hZ hown (host := "") (Or.inl (H 136 rfl)) Via.refl rfl f114 (g := (mkF m 221 #[vr a, vr b, vi 0, vi x9, .val (.long 0), .second, vr b54, vi (own_bf cf (k8 + 1) (k8 + 1)), vi (Int32.ofNat (k8 + 1)), un, un, un, un] [(.ref a)])) rfl rfl (D d15_221)
              refine gb T115 m 224 #[vr a, vr b, vi 0, vi x9, .val (.long 0), .second, vr b54, vi (own_bf cf (k8 + 1) (k8 + 1)), vi (Int32.ofNat (k8 + 1)), un, un, un, un] [(.ref b47)] st115 ?_
              clear st115
              refine gb T115 m 228 #[vr a, vr b, vi 0, vi x9, .val (.long 0), .second, vr b54, vi (own_bf cf (k8 + 1) (k8 + 1)), vi (Int32.ofNat (k8 + 1)), un, un, un, un] [(.int (own_bf cf (k8 + 1) (k8 + 1))), (.int (Int32.ofNat (k8 + 1))), (.ref b47)] (fun u k => XS.iload X115.here hx rfl (D d15_224) rfl (XS.iload X115.here hx rfl (D d15_226) rfl k)) ?_
              have f116 := (G8_9.keep Kc87 (ninS ne_b47_b54 nin0))
              obtain ⟨cl117, Ar117, aq117, aS117, aM117, aH117, aG117⟩ := id f116
              obtain ⟨T118, h118, X118, e118, W118, st118⟩ := stI X115 hx hZ e115 Ar117 (j := (Int32.ofNat (k8 + 1))) (inb_of aS117 (own_ib (by omega) (by omega))) (g := (mkF m 228 #[vr a, vr b, vi 0, vi x9, .val (.long 0), .second, vr b54, vi (own_bf cf (k8 + 1) (k8 + 1)), vi (Int32.ofNat (k8 + 1)), un, un, un, un] [(.int (own_bf cf (k8 + 1) (k8 + 1))), (.int (Int32.ofNat (k8 + 1))), (.ref b47)])) rfl rfl (D d15_228)
              have Z118 : n0 ≤ h118.size := Nat.le_trans Z87 (Keep.of_wr W118).1
              have K118 := K87.wr W118 (Or.inr sz47)
              have N118 := Fr.snoc X118 NA87 gb47
              have V118 : Arv Z h118 b47 k47 .int (Int32.ofNat nz) (rs8.set (k8 + 1) (.int (own_bf cf (k8 + 1) (k8 + 1)))) (.int 0) := Arv.set Ar117 aq117 aS117 aM117 aH117 aG117 rfl W118 ((k8 + 1)) (own_j (k8 + 1) (by omega)).2.1 (by rw [hP8.1]; omega)
              refine gb T118 m 229 #[vr a, vr b, vi 0, vi x9, .val (.long 0), .second, vr b54, vi (own_bf cf (k8 + 1) (k8 + 1)), vi (Int32.ofNat (k8 + 1)), un, un, un, un] [] st118 ?_
              clear st118
              refine gb T118 m 179 #[vr a, vr b, vi 0, vi x9, .val (.long 0), .second, vr b54, vi (own_bf cf (k8 + 1) (k8 + 1)), vi ((Int32.ofNat (k8 + 1)) + (1 : Int32)), un, un, un, un] [] (fun u k => XT.iincV X118.here hx rfl (1 : Int32) (D d15_229) (by decide) rfl (l' := #[vr a, vr b, vi 0, vi x9, .val (.long 0), .second, vr b54, vi (own_bf cf (k8 + 1) (k8 + 1)), vi ((Int32.ofNat (k8 + 1)) + (1 : Int32)), un, un, un, un]) rfl (XS.goto X118.here hx rfl (pc0 := 232) (pc' := 179) rfl (D d15_232) (by decide) (by decide) k)) ?_
              have rw119 : ((Int32.ofNat (k8 + 1)) + (1 : Int32)) = (Int32.ofNat ((k8 + 1) + 1)) := (own_j (k8 + 1) (by omega)).2.2
              rw [rw119]
              have f120 := ((G8_0.keep Kc87).wr W118)
              have f121 := (P87_0.wr W118)
              have f122 := ((G8_2.keep Kc87).wr W118)
              have f123 := ((G8_3.keep Kc87 (ninS ne_a_b54 nin0)).other W118 (Or.inl ne_a_b47))
              have f124 := ((G8_4.keep Kc87 (ninS ne_a_b54 nin0)).other W118 (Or.inl ne_a_b47))
              have f125 := (f114.other W118 (Or.inl ne_a_b47))
              have f126 := ((G8_6.keep Kc87 (ninS ne_a_b54 nin0)).other W118 (Or.inl ne_a_b47))
              have f127 := ((G8_7.keep Kc87 (ninS ne_a_b54 nin0)).other W118 (Or.inl ne_a_b47))
              have f128 := (P87_1.other W118 (Or.inl (Ne.symm ne_b47_b54)))
              have f129 := ((G8_10.keep Kc87 (ninS ne_b_b54 nin0)).other W118 ne_b_b47)
              subst e118
              exact ih8 (k8 + 1) _ _ T118 _ (by omega) (by omega) (own_pwB hP8 (by omega)) X118 N118 Z118 K118 f120 f121 f122 f123 f124 f125 f126 f127 f128 V118 f129 
          · refine gb T8 m 214 #[vr a, vr b, vi 0, vi x9, .val (.long 0), .second, vr b54, vi (Int32.ofNat (own_bl cf k8 k8)), vi (Int32.ofNat (k8 + 1)), un, un, un, un] [(.int (Int32.ofNat (k8 + 1))), (.ref b), (.ref a)] (fun u k => XS.ifYes X8.here hx rfl (pc0 := 188) (pc' := 205) rfl (D d15_188) rfl (XT.i0_le_t hm) (by decide) (by decide) (XS.iload X8.here hx rfl (D d15_205) rfl (XS.ifNo X8.here hx rfl (D d15_207) rfl (XT.i0_ne_f (own_m0 (by omega) hm)) (XS.aloadN X8.here hx rfl (D d15_210) rfl rfl (XS.aloadN X8.here hx rfl (D d15_211) rfl rfl (XS.iload X8.here hx rfl (D d15_212) rfl k)))))) ?_
            obtain ⟨cl130, Ar130, aq130, aS130, aM130, aH130, aG130⟩ := id G8_10
            refine gb T8 m 215 #[vr a, vr b, vi 0, vi x9, .val (.long 0), .second, vr b54, vi (Int32.ofNat (own_bl cf k8 k8)), vi (Int32.ofNat (k8 + 1)), un, un, un, un] [(.int (cf (k8 + 1))), (.ref a)] (fun u k => X8.caload hx (j := (Int32.ofNat (k8 + 1))) (v := (.int (cf (k8 + 1)))) Ar130.1 (State.isArrayOf_alike hZ.alike Ar130.2.1) Ar130.2.2 (inb_of aS130 (own_ib (by omega) (by omega))) (Has.at aH130 (inb_of aS130 (own_ib (by omega) (by omega))) (own_ld _ (by omega) (by omega))) (g := (mkF m 214 #[vr a, vr b, vi 0, vi x9, .val (.long 0), .second, vr b54, vi (Int32.ofNat (own_bl cf k8 k8)), vi (Int32.ofNat (k8 + 1)), un, un, un, un] [(.int (Int32.ofNat (k8 + 1))), (.ref b), (.ref a)])) rfl rfl (D d15_214) _ k) ?_
            obtain ⟨cq132, kq132, qa132, qb132, qc132⟩ := isOf hZ rfl G8_0
            obtain ⟨_, _, ⟨T131, L131, k131, n131⟩, -, X131, ⟨Lc131, hQ131, l131, y131, z131⟩, st131⟩ := X8.virtualBack hx (y := mn30) (z := mn30) hown (mvT hZ (H 145 rfl)) (mvT hZ (H 146 rfl)) (notFace_of_selects (args := #[]) (mvT hZ (H 148 rfl))) (mvT hZ (H 148 rfl)) (mvT hZ (H 147 rfl)) (by decide) (backOf (W := 0) (own_begin l Z a0 hw [] a (cf (k8 + 1)) b nz cf kb T8.heap n0 Z8 G8_3 G8_10 hnz (by omega)) hZ (H 149 rfl) (H 41 rfl) (by decide) (by decide)) qa132 qc132 (g := (mkF m 215 #[vr a, vr b, vi 0, vi x9, .val (.long 0), .second, vr b54, vi (Int32.ofNat (own_bl cf k8 k8)), vi (Int32.ofNat (k8 + 1)), un, un, un, un] [(.int (cf (k8 + 1))), (.ref a)])) rfl (by rw [hml]; rfl) (Steps.refl _) (argsL := [(.int (cf (k8 + 1)))]) (rest := []) (lenOf own_pd19 rfl) rfl (own_w0 rfl) (D d15_215) (fun _ _ => ⟨rfl, rfl, (by decide : 12 + 0 ≤ _), (by decide : 1069 + 0 ≤ _)⟩)
            dsimp only [Pt.U, Pt.locs, Pt.cells, Pt.slots] at X131 l131 y131 z131 st131 hQ131
            subst l131 y131 z131
            obtain ⟨rfl, N131, e131⟩ := hQ131
            have NA131 := Fr.app N8 N131
            refine gb T131 m 218 #[vr a, vr b, vi 0, vi x9, .val (.long 0), .second, vr b54, vi (Int32.ofNat (own_bl cf k8 k8)), vi (Int32.ofNat (k8 + 1)), un, un, un, un] [(.int (if (cf 0) = (cf (k8 + 1)) then (1 : Int32) else (0 : Int32)))] (fun u k => st131.trans k) ?_
            clear st131
            have rw133 : (if (cf 0) = (cf (k8 + 1)) then (1 : Int32) else (0 : Int32)) = (own_bf cf (k8 + 1) (k8 + 1)) := own_nxB0 (by omega) hm
            rw [rw133]
            refine gb T131 m 221 #[vr a, vr b, vi 0, vi x9, .val (.long 0), .second, vr b54, vi (own_bf cf (k8 + 1) (k8 + 1)), vi (Int32.ofNat (k8 + 1)), un, un, un, un] [(.ref a)] (fun u k => XS.istore X131.here hx rfl (D d15_218) rfl (l' := #[vr a, vr b, vi 0, vi x9, .val (.long 0), .second, vr b54, vi (own_bf cf (k8 + 1) (k8 + 1)), vi (Int32.ofNat (k8 + 1)), un, un, un, un]) rfl (XS.aloadN X131.here hx rfl (D d15_220) rfl rfl k)) ?_
            obtain ⟨T134, X134, e134, st134⟩ := getF X131 hx hZ hown (host := "") (Or.inl (H 136 rfl)) Via.refl e131 G8_5 (g := (mkF m 221 #[vr a, vr b, vi 0, vi x9, .val (.long 0), .second, vr b54, vi (own_bf cf (k8 + 1) (k8 + 1)), vi (Int32.ofNat (k8 + 1)), un, un, un, un] [(.ref a)])) rfl rfl (D d15_221)
            refine gb T134 m 224 #[vr a, vr b, vi 0, vi x9, .val (.long 0), .second, vr b54, vi (own_bf cf (k8 + 1) (k8 + 1)), vi (Int32.ofNat (k8 + 1)), un, un, un, un] [(.ref b47)] st134 ?_
            clear st134
            refine gb T134 m 228 #[vr a, vr b, vi 0, vi x9, .val (.long 0), .second, vr b54, vi (own_bf cf (k8 + 1) (k8 + 1)), vi (Int32.ofNat (k8 + 1)), un, un, un, un] [(.int (own_bf cf (k8 + 1) (k8 + 1))), (.int (Int32.ofNat (k8 + 1))), (.ref b47)] (fun u k => XS.iload X134.here hx rfl (D d15_224) rfl (XS.iload X134.here hx rfl (D d15_226) rfl k)) ?_
            obtain ⟨cl135, Ar135, aq135, aS135, aM135, aH135, aG135⟩ := id G8_9
            obtain ⟨T136, h136, X136, e136, W136, st136⟩ := stI X134 hx hZ e134 Ar135 (j := (Int32.ofNat (k8 + 1))) (inb_of aS135 (own_ib (by omega) (by omega))) (g := (mkF m 228 #[vr a, vr b, vi 0, vi x9, .val (.long 0), .second, vr b54, vi (own_bf cf (k8 + 1) (k8 + 1)), vi (Int32.ofNat (k8 + 1)), un, un, un, un] [(.int (own_bf cf (k8 + 1) (k8 + 1))), (.int (Int32.ofNat (k8 + 1))), (.ref b47)])) rfl rfl (D d15_228)
            have Z136 : n0 ≤ h136.size := Nat.le_trans Z8 (Keep.of_wr W136).1
            have K136 := K8.wr W136 (Or.inr sz47)
            have N136 := Fr.snoc X136 NA131 gb47
            have V136 : Arv Z h136 b47 k47 .int (Int32.ofNat nz) (rs8.set (k8 + 1) (.int (own_bf cf (k8 + 1) (k8 + 1)))) (.int 0) := Arv.set Ar135 aq135 aS135 aM135 aH135 aG135 rfl W136 ((k8 + 1)) (own_j (k8 + 1) (by omega)).2.1 (by rw [hP8.1]; omega)
            refine gb T136 m 229 #[vr a, vr b, vi 0, vi x9, .val (.long 0), .second, vr b54, vi (own_bf cf (k8 + 1) (k8 + 1)), vi (Int32.ofNat (k8 + 1)), un, un, un, un] [] st136 ?_
            clear st136
            refine gb T136 m 179 #[vr a, vr b, vi 0, vi x9, .val (.long 0), .second, vr b54, vi (own_bf cf (k8 + 1) (k8 + 1)), vi ((Int32.ofNat (k8 + 1)) + (1 : Int32)), un, un, un, un] [] (fun u k => XT.iincV X136.here hx rfl (1 : Int32) (D d15_229) (by decide) rfl (l' := #[vr a, vr b, vi 0, vi x9, .val (.long 0), .second, vr b54, vi (own_bf cf (k8 + 1) (k8 + 1)), vi ((Int32.ofNat (k8 + 1)) + (1 : Int32)), un, un, un, un]) rfl (XS.goto X136.here hx rfl (pc0 := 232) (pc' := 179) rfl (D d15_232) (by decide) (by decide) k)) ?_
            have rw137 : ((Int32.ofNat (k8 + 1)) + (1 : Int32)) = (Int32.ofNat ((k8 + 1) + 1)) := (own_j (k8 + 1) (by omega)).2.2
            rw [rw137]
            have f138 := (G8_0.wr W136)
            have f139 := (G8_1.wr W136)
            have f140 := (G8_2.wr W136)
            have f141 := (G8_3.other W136 (Or.inl ne_a_b47))
            have f142 := (G8_4.other W136 (Or.inl ne_a_b47))
            have f143 := (G8_5.other W136 (Or.inl ne_a_b47))
            have f144 := (G8_6.other W136 (Or.inl ne_a_b47))
            have f145 := (G8_7.other W136 (Or.inl ne_a_b47))
            have f146 := (G8_8.other W136 (Or.inl (Ne.symm ne_b47_b54)))
            have f147 := (G8_10.other W136 ne_b_b47)
            subst e136
            exact ih8 (k8 + 1) _ _ T136 _ (by omega) (by omega) (own_pwB hP8 (by omega)) X136 N136 Z136 K136 f138 f139 f140 f141 f142 f143 f144 f145 f146 V136 f147 
      show Go p e below (own_F s below (Q_own_ndInit Z a b nz cf kb rA kA ra h0 n0) rm19.cells rm19.slots) (T60.setTop (mkF m 179 #[vr a, vr b, vi 0, vi x9, .val (.long 0), .second, vr b54, vi (Int32.ofNat (own_bl cf 0 0)), vi (Int32.ofNat (0 + 1)), un, un, un, un] []))
      have f149 := (f55.ext E54)
      have f150 := ((B47.wr W51).ext E54)
      have f151 := ((((((((f18.keep Kc24 nin0).other W26 (Or.inr (slot_ne (Or.inr (H 76 rfl)) (Or.inr (H 124 rfl)) (by decide) (t := (.array .char)) (t' := (.array (.object "backstitch/Needle$Anchor"))) (by decide) (by decide)))).other W33 (Or.inr (slot_ne (Or.inr (H 76 rfl)) (Or.inr (H 130 rfl)) (by decide) (t := (.array .char)) (t' := .int) (by decide) (by decide)))).other W36 (Or.inr (slot_ne (Or.inr (H 76 rfl)) (Or.inr (H 132 rfl)) (by decide) (t := (.array .char)) (t' := .long) (by decide) (by decide)))).other W42 (Or.inr (slot_ne (Or.inr (H 76 rfl)) (Or.inr (H 134 rfl)) (by decide) (t := (.array .char)) (t' := .long) (by decide) (by decide)))).ext E47).other W51 (Or.inr (slot_ne (Or.inr (H 76 rfl)) (Or.inr (H 137 rfl)) (by decide) (t := (.array .char)) (t' := (.array .int)) (by decide) (by decide)))).ext E54)
      have f152 := ((((((((f19.keep Kc24 nin0).other W26 (Or.inr (slot_ne (Or.inr (H 78 rfl)) (Or.inr (H 124 rfl)) (by decide) (t := .boolean) (t' := (.array (.object "backstitch/Needle$Anchor"))) (by decide) (by decide)))).other W33 (Or.inr (slot_ne (Or.inr (H 78 rfl)) (Or.inr (H 130 rfl)) (by decide) (t := .boolean) (t' := .int) (by decide) (by decide)))).other W36 (Or.inr (slot_ne (Or.inr (H 78 rfl)) (Or.inr (H 132 rfl)) (by decide) (t := .boolean) (t' := .long) (by decide) (by decide)))).other W42 (Or.inr (slot_ne (Or.inr (H 78 rfl)) (Or.inr (H 134 rfl)) (by decide) (t := .boolean) (t' := .long) (by decide) (by decide)))).ext E47).other W51 (Or.inr (slot_ne (Or.inr (H 78 rfl)) (Or.inr (H 137 rfl)) (by decide) (t := .boolean) (t' := (.array .int)) (by decide) (by decide)))).ext E54)
      have f153 := (F51.ext E54)
      have f154 := ((((((((((((F_a_tableComparisons.other W2 (Or.inr (slot_ne (Or.inr (H 156 rfl)) (Or.inr (H 76 rfl)) (by decide) (t := .long) (t' := (.array .char)) (by decide) (by decide)))).other W3 (Or.inr (slot_ne (Or.inr (H 156 rfl)) (Or.inr (H 78 rfl)) (by decide) (t := .long) (t' := .boolean) (by decide) (by decide)))).keep Kc10 nin0).other W13 (Or.inr (slot_ne (Or.inr (H 156 rfl)) (Or.inr (H 110 rfl)) (by decide) (t := .long) (t' := (.object "backstitch/Needle$Anchor")) (by decide) (by decide)))).keep Kc24 nin0).other W26 (Or.inr (slot_ne (Or.inr (H 156 rfl)) (Or.inr (H 124 rfl)) (by decide) (t := .long) (t' := (.array (.object "backstitch/Needle$Anchor"))) (by decide) (by decide)))).other W33 (Or.inr (slot_ne (Or.inr (H 156 rfl)) (Or.inr (H 130 rfl)) (by decide) (t := .long) (t' := .int) (by decide) (by decide)))).other W36 (Or.inr (slot_ne (Or.inr (H 156 rfl)) (Or.inr (H 132 rfl)) (by decide) (t := .long) (t' := .long) (by decide) (by decide)))).other W42 (Or.inr (slot_ne (Or.inr (H 156 rfl)) (Or.inr (H 134 rfl)) (by decide) (t := .long) (t' := .long) (by decide) (by decide)))).ext E47).other W51 (Or.inr (slot_ne (Or.inr (H 156 rfl)) (Or.inr (H 137 rfl)) (by decide) (t := .long) (t' := (.array .int)) (by decide) (by decide)))).ext E54)
      have f155 := ((((((((((((F_a_firstOnce.other W2 (Or.inr (slot_ne (Or.inr (H 158 rfl)) (Or.inr (H 76 rfl)) (by decide) (t := .boolean) (t' := (.array .char)) (by decide) (by decide)))).other W3 (Or.inr (slot_ne (Or.inr (H 158 rfl)) (Or.inr (H 78 rfl)) (by decide) (t := .boolean) (t' := .boolean) (by decide) (by decide)))).keep Kc10 nin0).other W13 (Or.inr (slot_ne (Or.inr (H 158 rfl)) (Or.inr (H 110 rfl)) (by decide) (t := .boolean) (t' := (.object "backstitch/Needle$Anchor")) (by decide) (by decide)))).keep Kc24 nin0).other W26 (Or.inr (slot_ne (Or.inr (H 158 rfl)) (Or.inr (H 124 rfl)) (by decide) (t := .boolean) (t' := (.array (.object "backstitch/Needle$Anchor"))) (by decide) (by decide)))).other W33 (Or.inr (slot_ne (Or.inr (H 158 rfl)) (Or.inr (H 130 rfl)) (by decide) (t := .boolean) (t' := .int) (by decide) (by decide)))).other W36 (Or.inr (slot_ne (Or.inr (H 158 rfl)) (Or.inr (H 132 rfl)) (by decide) (t := .boolean) (t' := .long) (by decide) (by decide)))).other W42 (Or.inr (slot_ne (Or.inr (H 158 rfl)) (Or.inr (H 134 rfl)) (by decide) (t := .boolean) (t' := .long) (by decide) (by decide)))).ext E47).other W51 (Or.inr (slot_ne (Or.inr (H 158 rfl)) (Or.inr (H 137 rfl)) (by decide) (t := .boolean) (t' := (.array .int)) (by decide) (by decide)))).ext E54)
      have f156 := (f59.ext E54)
      have f157 := (f56.ext E54)
      subst e60
      exact loop8 (nz - (0 + 1)) 0 _ _ T60 _ rfl (Or.inl rfl) (own_pwB0 cf) X60 NA60 Z54 K54 f149 A54 f150 f151 f152 f153 f154 f155 (D54 (Or.inl (H 154 rfl)) (ty := .long) (by decide)) f156 f157 
    | succ d9 ih9 =>
      intro i9 x9 T9 L9 hd9 hi9 hx9 X9 N9 E9
      refine gb T9 m 22 #[vr a, vr b, vi 0, vi x9, vi (Int32.ofNat i9), un, un, un, un, un, un, un, un] [(.ref b), (.int (Int32.ofNat i9))] (fun u k => XS.iload X9.here hx rfl (D d15_19) rfl (XS.aloadN X9.here hx rfl (D d15_21) rfl rfl k)) ?_
      have f158 := ((V_b.other W2 (Ne.symm ne_a_b)).other W3 (Ne.symm ne_a_b))
      obtain ⟨cl159, Ar159, aq159, aS159, aM159, aH159, aG159⟩ := id f158
      refine gb T9 m 23 #[vr a, vr b, vi 0, vi x9, vi (Int32.ofNat i9), un, un, un, un, un, un, un, un] [(.int cl159.slots.size.toInt32), (.int (Int32.ofNat i9))] (fun u k => X9.arraylength hx (by rw [E9]; exact Ar159.1) (State.isArrayOf_alike hZ.alike Ar159.2.1) (g := (mkF m 22 #[vr a, vr b, vi 0, vi x9, vi (Int32.ofNat i9), un, un, un, un, un, un, un, un] [(.ref b), (.int (Int32.ofNat i9))])) rfl rfl (D d15_22) _ k) ?_
      rw [len_of aS159 aM159]
      refine gb T9 m 29 #[vr a, vr b, vi 0, vi x9, vi (Int32.ofNat i9), un, un, un, un, un, un, un, un] [(.int (Int32.ofNat i9)), (.ref b)] (fun u k => XS.icmpNo X9.here hx rfl (D d15_23) rfl (XT.ii_ge_f (own_ilt (by omega) (by omega))) (XS.aloadN X9.here hx rfl (D d15_26) rfl rfl (XS.iload X9.here hx rfl (D d15_27) rfl k))) ?_
      obtain ⟨cl160, Ar160, aq160, aS160, aM160, aH160, aG160⟩ := id f158
      refine gb T9 m 30 #[vr a, vr b, vi 0, vi x9, vi (Int32.ofNat i9), un, un, un, un, un, un, un, un] [(.int (cf i9))] (fun u k => X9.caload hx (j := (Int32.ofNat i9)) (v := (.int (cf i9))) (by rw [E9]; exact Ar160.1) (State.isArrayOf_alike hZ.alike Ar160.2.1) Ar160.2.2 (inb_of aS160 (own_ib (by omega) (by omega))) (Has.at aH160 (inb_of aS160 (own_ib (by omega) (by omega))) (own_ld _ (by omega) (by omega))) (g := (mkF m 29 #[vr a, vr b, vi 0, vi x9, vi (Int32.ofNat i9), un, un, un, un, un, un, un, un] [(.int (Int32.ofNat i9)), (.ref b)])) rfl rfl (D d15_29) _ k) ?_
      have f161 := ((V_rA.other W2 (Ne.symm ne_a_rA)).other W3 (Ne.symm ne_a_rA))
      obtain ⟨_, _, ⟨T162, L162, k162, n162⟩, -, X162, ⟨Lc162, hQ162, l162, y162, z162⟩, st162⟩ := Jvm.LawKit.callS X9 hx (y := mn20) hown (mvT hZ (H 79 rfl)) (mvT hZ (H 80 rfl)) (mvT hZ (H 41 rfl)) (mvT hZ (H 81 rfl)) (by decide) (backOf (W := 0) (own_rar l Z a0 hw [] (cf i9) rA kA ra h3 n0 Z3 O3 SRA SUN f161 hRA (hch i9 (by omega)).1.1) hZ (H 81 rfl) (H 41 rfl) (by decide) (by decide)) (g := (mkF m 30 #[vr a, vr b, vi 0, vi x9, vi (Int32.ofNat i9), un, un, un, un, un, un, un, un] [(.int (cf i9))])) rfl (by rw [hml]; rfl) (argsL := [(.int (cf i9))]) (rest := []) (lenOf own_pd19 rfl) rfl (own_w0 rfl) (D d15_30) (fun _ _ => ⟨rfl, E9, (by decide : 0 + 0 ≤ _), (by decide : 0 + 0 ≤ _)⟩)
      dsimp only [Pt.U, Pt.locs, Pt.cells, Pt.slots] at X162 l162 y162 z162 st162 hQ162
      subst l162 y162 z162
      obtain ⟨rv162, rfl, N162, e162, P162_0⟩ := hQ162
      have NA162 := Fr.app N9 N162
      refine gb T162 m 33 #[vr a, vr b, vi 0, vi x9, vi (Int32.ofNat i9), un, un, un, un, un, un, un, un] [(.int rv162)] st162 ?_
      clear st162
      refine gb T162 m 35 #[vr a, vr b, vi 0, vi x9, vi (Int32.ofNat i9), un, un, un, un, un, un, un, un] [(.int x9), (.ref b), (.int rv162)] (fun u k => XS.aloadN X162.here hx rfl (D d15_33) rfl rfl (XS.iloadN X162.here hx rfl (D d15_34) rfl k)) ?_
      have hx8 := hx9.resolve_left (own_n0 (by omega) (by omega))
      have hx7 := own_of hx8.1 hx8.2 (by omega)
      obtain ⟨cl163, Ar163, aq163, aS163, aM163, aH163, aG163⟩ := id f158
      refine gb T162 m 36 #[vr a, vr b, vi 0, vi x9, vi (Int32.ofNat i9), un, un, un, un, un, un, un, un] [(.int (cf x9.toNatClampNeg)), (.int rv162)] (fun u k => X162.caload hx (j := x9) (v := (.int (cf x9.toNatClampNeg))) (by rw [e162]; exact Ar163.1) (State.isArrayOf_alike hZ.alike Ar163.2.1) Ar163.2.2 (inb_of aS163 hx8) (Has.at aH163 (inb_of aS163 hx8) (own_l_at cf hx7)) (g := (mkF m 35 #[vr a, vr b, vi 0, vi x9, vi (Int32.ofNat i9), un, un, un, un, un, un, un, un] [(.int x9), (.ref b), (.int rv162)])) rfl rfl (D d15_35) _ k) ?_
      obtain ⟨_, _, ⟨T164, L164, k164, n164⟩, -, X164, ⟨Lc164, hQ164, l164, y164, z164⟩, st164⟩ := Jvm.LawKit.callS X162 hx (y := mn20) hown (mvT hZ (H 79 rfl)) (mvT hZ (H 80 rfl)) (mvT hZ (H 41 rfl)) (mvT hZ (H 81 rfl)) (by decide) (backOf (W := 1) (own_rar l Z a0 hw [] (cf x9.toNatClampNeg) rA kA ra h3 n0 Z3 O3 SRA SUN f161 hRA (hch _ hx7).1.1) hZ (H 81 rfl) (H 41 rfl) (by decide) (by decide)) (g := (mkF m 36 #[vr a, vr b, vi 0, vi x9, vi (Int32.ofNat i9), un, un, un, un, un, un, un, un] [(.int (cf x9.toNatClampNeg)), (.int rv162)])) rfl (by rw [hml]; rfl) (argsL := [(.int (cf x9.toNatClampNeg))]) (rest := [(.int rv162)]) (lenOf own_pd19 rfl) rfl (own_w0 rfl) (D d15_36) (fun _ _ => ⟨rfl, e162, (by decide : 0 + 0 ≤ _), (by decide : 0 + 0 ≤ _)⟩)
      dsimp only [Pt.U, Pt.locs, Pt.cells, Pt.slots] at X164 l164 y164 z164 st164 hQ164
      subst l164 y164 z164
      obtain ⟨rv164, rfl, N164, e164, P164_0⟩ := hQ164
      have NA164 := Fr.app NA162 N164
      refine gb T164 m 39 #[vr a, vr b, vi 0, vi x9, vi (Int32.ofNat i9), un, un, un, un, un, un, un, un] [(.int rv164), (.int rv162)] st164 ?_
      clear st164
      have sg165 : ∀ u, Steps p.tables e below (T164.setTop (mkF m 45 #[vr a, vr b, vi 0, vi (if rv164 < rv162 then (Int32.ofNat i9) else x9), vi (Int32.ofNat i9), un, un, un, un, un, un, un, un] [])) u → Steps p.tables e below (T164.setTop (mkF m 39 #[vr a, vr b, vi 0, vi x9, vi (Int32.ofNat i9), un, un, un, un, un, un, un, un] [(.int rv164), (.int rv162)])) u := by
        intro u k
        by_cases hc166 : rv164 < rv162
        · refine XS.icmpNo X164.here hx rfl (D d15_39) rfl (XT.ii_le_f hc166) ?_
          show Steps p.tables e below (T164.setTop (mkF m 42 #[vr a, vr b, vi 0, vi x9, vi (Int32.ofNat i9), un, un, un, un, un, un, un, un] [])) u
          refine XS.iload X164.here hx rfl (D d15_42) rfl ?_
          show Steps p.tables e below (T164.setTop (mkF m 44 #[vr a, vr b, vi 0, vi x9, vi (Int32.ofNat i9), un, un, un, un, un, un, un, un] [(.int (Int32.ofNat i9))])) u
          refine XS.istoreN X164.here hx rfl (D d15_44) rfl (l' := #[.val (.ref a), .val (.ref b), .val (.int 0), .val (.int (Int32.ofNat i9)), .val (.int (Int32.ofNat i9)), .unset, .unset, .unset, .unset, .unset, .unset, .unset, .unset]) rfl ?_
          show Steps p.tables e below (T164.setTop (mkF m 45 #[vr a, vr b, vi 0, vi (Int32.ofNat i9), vi (Int32.ofNat i9), un, un, un, un, un, un, un, un] [])) u
          try simp only [if_pos hc166] at k
          exact k
        · refine XS.icmpYes X164.here hx rfl (pc0 := 39) (pc' := 45) rfl (D d15_39) rfl (XT.ii_le_t hc166) (by decide) (by decide) ?_
          show Steps p.tables e below (T164.setTop (mkF m 45 #[vr a, vr b, vi 0, vi x9, vi (Int32.ofNat i9), un, un, un, un, un, un, un, un] [])) u
          try simp only [if_neg hc166] at k
          exact k
      refine gb T164 m 45 #[vr a, vr b, vi 0, vi (if rv164 < rv162 then (Int32.ofNat i9) else x9), vi (Int32.ofNat i9), un, un, un, un, un, un, un, un] [] sg165 ?_
      refine gb T164 m 19 #[vr a, vr b, vi 0, vi (if rv164 < rv162 then (Int32.ofNat i9) else x9), vi ((Int32.ofNat i9) + (1 : Int32)), un, un, un, un, un, un, un, un] [] (fun u k => XT.iincV X164.here hx rfl (1 : Int32) (D d15_45) (by decide) rfl (l' := #[vr a, vr b, vi 0, vi (if rv164 < rv162 then (Int32.ofNat i9) else x9), vi ((Int32.ofNat i9) + (1 : Int32)), un, un, un, un, un, un, un, un]) rfl (XS.goto X164.here hx rfl (pc0 := 48) (pc' := 19) rfl (D d15_48) (by decide) (by decide) k)) ?_
      have rw167 : ((Int32.ofNat i9) + (1 : Int32)) = (Int32.ofNat (i9 + 1)) := (own_j i9 (by omega)).2.2
      rw [rw167]
      exact ih9 (i9 + 1) (if rv164 < rv162 then (Int32.ofNat i9) else x9) T164 _ (by omega) (by omega) (Or.inr (by split; exact own_ib (by omega) (by omega); exact hx8)) X164 NA164 e164
  show Go p e below (own_F s below (Q_own_ndInit Z a b nz cf kb rA kA ra h0 n0) rm19.cells rm19.slots) (T3.setTop (mkF m 19 #[vr a, vr b, vi 0, vi (Int32.ofNat 0), vi (Int32.ofNat 1), un, un, un, un, un, un, un, un] []))
  have hx0 : (Int32.ofNat nz) = (0 : Int32) ∨ (¬ (Int32.ofNat 0) < 0 ∧ (Int32.ofNat 0) < (Int32.ofNat nz)) := by
    by_cases q : nz = 0
    · exact Or.inl (by rw [q]; rfl)
    · exact Or.inr (own_ib (by omega) (by omega))
  exact loop9 (nz - 1) 1 (Int32.ofNat 0) T3 _ rfl (by omega) hx0 X3 N3 e3
theorem own_ch_i2c (x : Int32) : own_ch (x.toUInt32.toUInt16.toUInt32.toInt32) := by
  refine ⟨?_, own_cc x⟩
  generalize x.toUInt32.toUInt16 = u
  have lt := u.toNat_lt
  have q : (u.toUInt32.toInt32).toInt = u.toNat := by
    show u.toUInt32.toBitVec.toInt = _
    rw [BitVec.toInt_eq_toNat_cond]
    have a4 : u.toUInt32.toBitVec.toNat = u.toNat := by
      show u.toUInt32.toNat = _
      rw [UInt16.toNat_toUInt32]
    rw [a4, if_pos (by omega)]
  have e0 : (0 : Int32).toInt = 0 := by decide
  have e1 : (65535 : Int32).toInt = 65535 := by decide
  rw [Int32.lt_iff_toInt_lt, Int32.lt_iff_toInt_lt, q, e0, e1]
  omega
theorem own_mod6 (p : Int32) : ((p &&& (2147483647 : Int32)) % (6 : Int32)) = (0 : Int32) ∨ ((p &&& (2147483647 : Int32)) % (6 : Int32)) = (1 : Int32) ∨ ((p &&& (2147483647 : Int32)) % (6 : Int32)) = (2 : Int32) ∨ ((p &&& (2147483647 : Int32)) % (6 : Int32)) = (3 : Int32) ∨ ((p &&& (2147483647 : Int32)) % (6 : Int32)) = (4 : Int32) ∨ ((p &&& (2147483647 : Int32)) % (6 : Int32)) = (5 : Int32) := by
  have m := c_mask p (2147483647 : Int32) 31 (by decide) (by decide)
  have e6 : (6 : Int32).toInt = 6 := by decide
  have q : ((p &&& (2147483647 : Int32)) % (6 : Int32)).toInt = (p &&& (2147483647 : Int32)).toInt % 6 := by
    rw [Int32.toInt_mod, e6, Int.tmod_eq_emod_of_nonneg (by rw [m]; omega)]
  generalize (p &&& (2147483647 : Int32)) % (6 : Int32) = r at q
  have b : r.toInt = 0 ∨ r.toInt = 1 ∨ r.toInt = 2 ∨ r.toInt = 3 ∨ r.toInt = 4 ∨ r.toInt = 5 := by omega
  rcases b with b | b | b | b | b | b
  · exact Or.inl (Int32.toInt_inj.mp b)
  · exact Or.inr (Or.inl (Int32.toInt_inj.mp b))
  · exact Or.inr (Or.inr (Or.inl (Int32.toInt_inj.mp b)))
  · exact Or.inr (Or.inr (Or.inr (Or.inl (Int32.toInt_inj.mp b))))
  · exact Or.inr (Or.inr (Or.inr (Or.inr (Or.inl (Int32.toInt_inj.mp b)))))
  · exact Or.inr (Or.inr (Or.inr (Or.inr (Or.inr (Int32.toInt_inj.mp b)))))
/-- a place of a table, told by itself -/
theorem own_single {args : Array Value} {s : State} {t : Term} {a : Addr} {cl : Cell} {k : Nat} {v : Int32} (ev : t.eval args s none [] s = some (.ref a)) (A : Arr s s.heap a cl .byte) (h31 : cl.slots.size = 128) (hk : k < 128)
    (h : (Cond.eq (.elem t (.int (Int32.ofNat k))) (.int v)).value args s none s [] = some true) : cl.slots[k]? = some (.int v) := by
  have hat := IntBox.arrayAt_of A.1 A.2.1 A.2.2
  have e1 := Cond.eq_int (Cond.before_iff.mpr h) rfl
  rw [SBG.elem_at (ix := .int (Int32.ofNat k)) ev hat (by omega) (by omega) rfl] at e1
  exact e1
theorem own_elem_ix {args : Array Value} {s : State} {t : Term} {a : Addr} {cl : Cell} {j : Nat} (ev : t.eval args s none [j] s = some (.ref a)) (hat : s.arrayAt? a = some cl) (h : j < 128) : (Term.elem t (.index 0)).eval args s none [j] s = cl.slots[j]? := by
  obtain ⟨hnn, hback⟩ := IntBox.place_nonneg j (by omega)
  have ei : (Term.index 0).eval args s none [j] s = some (.int j.toInt32) := rfl
  simp [Term.eval, ev, hnn, hat, hback]
theorem own_i32 (k : Nat) (h : k < 256) : (k.toInt32).toInt = k := by
  have := Int32.toInt_ofNat_of_lt (n := k) (by omega)
  exact this
/-- a stretch of a table -/
theorem own_range {args : Array Value} {s : State} {C n d : String} {a : Addr} {cl : Cell} {lo hi : Nat} {v : Int32} (ev : (Term.static C n d).eval args s none [] s = some (.ref a)) (A : Arr s s.heap a cl .byte) (h31 : cl.slots.size = 128) (hlo : lo < 256) (hhi : hi < 256)
    (h : (Cond.all (.static C n d) (.or (.lt (.index 0) (.int (Int32.ofNat lo))) (.or (.le (.int (Int32.ofNat hi)) (.index 0)) (.eq (.elem (.static C n d) (.index 0)) (.int v))))).value args s none s [] = some true) : ∀ j, j < 128 → lo ≤ j → j < hi → cl.slots[j]? = some (.int v) := by
  intro j hj h1 h2
  have hat := IntBox.arrayAt_of A.1 A.2.1 A.2.2
  have H := Cond.all_elim ev hat h j (by omega)
  have evj : (Term.static C n d).eval args s none [j] s = some (.ref a) := by
    simp only [Term.eval] at ev ⊢
    exact ev
  have ei : (Term.index 0).eval args s none [j] s = some (.int j.toInt32) := rfl
  have ej := own_i32 j (by omega)
  have el := own_i32 lo hlo
  have eh := own_i32 hi hhi
  have n1 : ¬ (j.toInt32 < Int32.ofNat lo) := by
    rw [Int32.lt_iff_toInt_lt]
    show ¬ (j.toInt32.toInt < (lo.toInt32).toInt)
    omega
  have n2 : ¬ (Int32.ofNat hi ≤ j.toInt32) := by
    rw [Int32.le_iff_toInt_le]
    show ¬ ((hi.toInt32).toInt ≤ j.toInt32.toInt)
    omega
  have ee := own_elem_ix evj hat hj
  obtain ⟨w, hw⟩ : ∃ w, cl.slots[j]? = some w := ⟨_, Array.getElem?_eq_getElem (by omega)⟩
  rw [hw] at ee ⊢
  simp only [Cond.value, ee, ei] at H
  simp [Term.eval, n1, n2] at H
  cases w with
  | int x => simp at H; rw [H]
  | _ => simp at H
theorem own_range0 {args : Array Value} {s : State} {C n d : String} {a : Addr} {cl : Cell} {hi : Nat} {v : Int32} (ev : (Term.static C n d).eval args s none [] s = some (.ref a)) (A : Arr s s.heap a cl .byte) (h31 : cl.slots.size = 128) (hhi : hi < 256)
    (h : (Cond.all (.static C n d) (.or (.le (.int (Int32.ofNat hi)) (.index 0)) (.eq (.elem (.static C n d) (.index 0)) (.int v)))).value args s none s [] = some true) : ∀ j, j < 128 → j < hi → cl.slots[j]? = some (.int v) := by
  intro j hj h2
  have hat := IntBox.arrayAt_of A.1 A.2.1 A.2.2
  have H := Cond.all_elim ev hat h j (by omega)
  have evj : (Term.static C n d).eval args s none [j] s = some (.ref a) := by
    simp only [Term.eval] at ev ⊢
    exact ev
  have ei : (Term.index 0).eval args s none [j] s = some (.int j.toInt32) := rfl
  have ej := own_i32 j (by omega)
  have eh := own_i32 hi hhi
  have n2 : ¬ (Int32.ofNat hi ≤ j.toInt32) := by
    rw [Int32.le_iff_toInt_le]
    show ¬ ((hi.toInt32).toInt ≤ j.toInt32.toInt)
    omega
  have ee := own_elem_ix evj hat hj
  obtain ⟨w, hw⟩ : ∃ w, cl.slots[j]? = some w := ⟨_, Array.getElem?_eq_getElem (by omega)⟩
  rw [hw] at ee ⊢
  simp only [Cond.value, ee, ei] at H
  simp [Term.eval, n2] at H
  cases w with
  | int x => simp at H; rw [H]
  | _ => simp at H
/-- the table, as the walks want it -/
theorem own_tab {s : State} {a : Addr} {cl : Cell} (A : Arr s s.heap a cl .byte) (h128 : cl.slots.size = 128) (H : ∀ j, j < 128 → ∃ z : Int32, cl.slots[j]? = some (.int z) ∧ ¬ z < 0 ∧ ¬ (28 : Int32) < z) : Arv s s.heap a cl.cls .byte (128 : Int32) cl.slots.toList (.int 0) ∧ own_RA cl.slots.toList := by
  have G : ∀ j, j < 128 → ∃ z : Int32, cl.slots.toList.getD j (.int 0) = .int z ∧ ¬ z < 0 ∧ ¬ (28 : Int32) < z := by
    intro j hj
    obtain ⟨z, h1, h2⟩ := H j hj
    refine ⟨z, ?_, h2⟩
    rw [List.getD_eq_getElem?_getD, Array.getElem?_toList, h1]; rfl
  refine ⟨⟨cl, A, rfl, by rw [h128]; decide, by decide, fun i hi => ?_, fun i hi => ?_⟩, by rw [Array.length_toList]; exact h128, G⟩
  · obtain ⟨z, h1, -⟩ := H i (by omega)
    rw [List.getD_eq_getElem?_getD, Array.getElem?_toList, h1]; rfl
  · obtain ⟨z, h1, h2, h3⟩ := G i (by omega)
    rw [h1]
    have : ∃ k : Fin 29, z = Int32.ofNat k.val := by
      rw [Int32.lt_iff_toInt_lt] at h2 h3
      have e0 : (0 : Int32).toInt = 0 := by decide
      have e1 : (28 : Int32).toInt = 28 := by decide
      refine ⟨⟨z.toInt.toNat, by omega⟩, ?_⟩
      apply Int32.toInt_inj.mp
      rw [Int32.toInt_ofNat_of_lt (by show z.toInt.toNat < _; omega)]; show _ = (z.toInt.toNat : Int); omega
    obtain ⟨k, rfl⟩ := this
    revert k; intro k _ _ _
    have q : ∀ k : Fin 29, fits .byte (.int (Int32.ofNat k.val)) = true := by decide +kernel
    exact q k
def own_cf (c0 c1 c2 c3 c4 : Int32) : Nat → Int32
  | 0 => c0
  | 1 => c1
  | 2 => c2
  | 3 => c3
  | _ => c4
theorem own_hcf {c0 c1 c2 c3 c4 : Int32} (h0 : own_ch c0) (h1 : own_ch c1) (h2 : own_ch c2) (h3 : own_ch c3) (h4 : own_ch c4) : ∀ j, own_ch (own_cf c0 c1 c2 c3 c4 j)
  | 0 => h0
  | 1 => h1
  | 2 => h2
  | 3 => h3
  | _ + 4 => h4
theorem own_kb0 (cf : Nat → Int32) (k : Nat) : own_bf cf k 0 = 0 := by
  show Int32.ofNat _ = Int32.ofNat 0
  rw [show own_bl cf k 0 = 0 from Nat.le_zero.mp (own_bl_le cf k 0)]
/-- one step of own_adv, at m + 1 -/
theorem own_adv1 (cf : Nat → Int32) (B : Nat → Nat) (c : Int32) (f m : Nat) : own_adv cf B c (f + 1) (m + 1) = if cf (m + 1) = c then m + 2 else if B m = 0 then 0 else own_adv cf B c f (B m) := rfl
def own_step (c0 ci : Int32) (m a : Nat) : Nat := if 0 < m ∧ a ≠ 0 then a else if c0 = ci then 1 else 0
theorem own_nx_s (cf : Nat → Int32) (P : Nat → Nat) (k m : Nat) (h : P k = m) : own_nx cf P (k + 1) = own_step (cf 0) (cf (k + 1)) m (own_adv cf P (cf (k + 1)) 5 m) := by subst h; rfl
theorem own_b1 (cf : Nat → Int32) : own_bl cf 1 1 = if cf 0 = cf 1 then 1 else 0 := by
  rw [own_bl_eq, own_nx_s cf _ 0 0 rfl]; simp [own_step]
theorem own_b2 (cf : Nat → Int32) : own_bl cf 2 2 = if cf 0 = cf 1 ∧ cf 1 = cf 2 then 2 else if cf 0 = cf 2 then 1 else 0 := by
  have h1 := own_b1 cf
  rw [own_bl_eq]
  by_cases h01 : cf 0 = cf 1
  · rw [if_pos h01] at h1
    rw [own_nx_s cf _ 1 1 h1, own_adv1, show own_bl cf 1 0 = 0 from own_bl_mono cf 1 (by omega)]
    simp only [own_step]; grind
  · rw [if_neg h01] at h1
    rw [own_nx_s cf _ 1 0 h1]; simp only [own_step]; grind
theorem own_b3 (cf : Nat → Int32) : own_bl cf 3 3 = if cf 0 = cf 1 ∧ cf 1 = cf 2 ∧ cf 2 = cf 3 then 3 else if cf 0 = cf 2 ∧ cf 1 = cf 3 then 2 else if cf 0 = cf 3 then 1 else 0 := by
  have h0 : own_bl cf 2 0 = 0 := own_bl_mono cf 2 (by omega)
  have h1 : own_bl cf 2 1 = _ := (own_bl_mono cf 2 (by omega)).trans (own_b1 cf)
  have h2 := own_b2 cf
  rw [own_bl_eq]
  by_cases a : cf 0 = cf 1 ∧ cf 1 = cf 2
  · rw [if_pos a] at h2; rw [if_pos a.1] at h1
    rw [own_nx_s cf _ 2 2 h2, own_adv1, h1, if_neg (by decide : ¬ 1 = 0), own_adv1, h0]
    simp only [own_step]; grind
  · rw [if_neg a] at h2
    by_cases b : cf 0 = cf 2
    · rw [if_pos b] at h2
      rw [own_nx_s cf _ 2 1 h2, own_adv1, h0]
      simp only [own_step]; grind
    · rw [if_neg b] at h2
      rw [own_nx_s cf _ 2 0 h2]; simp only [own_step]; grind
theorem own_b4 (cf : Nat → Int32) : own_bl cf 4 4 = if cf 0 = cf 1 ∧ cf 1 = cf 2 ∧ cf 2 = cf 3 ∧ cf 3 = cf 4 then 4 else if cf 0 = cf 2 ∧ cf 1 = cf 3 ∧ cf 2 = cf 4 then 3 else if cf 0 = cf 3 ∧ cf 1 = cf 4 then 2 else if cf 0 = cf 4 then 1 else 0 := by
  have h0 : own_bl cf 3 0 = 0 := own_bl_mono cf 3 (by omega)
  have h1 : own_bl cf 3 1 = _ := (own_bl_mono cf 3 (by omega)).trans (own_b1 cf)
  have h2 : own_bl cf 3 2 = _ := (own_bl_mono cf 3 (by omega)).trans (own_b2 cf)
  have h3 := own_b3 cf
  rw [own_bl_eq]
  by_cases a : cf 0 = cf 1 ∧ cf 1 = cf 2 ∧ cf 2 = cf 3
  · rw [if_pos a] at h3; rw [if_pos a.1] at h1; rw [if_pos ⟨a.1, a.2.1⟩] at h2
    rw [own_nx_s cf _ 3 3 h3, own_adv1, h2, if_neg (by decide : ¬ 2 = 0), own_adv1, h1, if_neg (by decide : ¬ 1 = 0), own_adv1, h0]
    simp only [own_step]; grind
  · rw [if_neg a] at h3
    by_cases b : cf 0 = cf 2 ∧ cf 1 = cf 3
    · rw [if_pos b] at h3
      by_cases q : cf 0 = cf 1
      · exact absurd ⟨q, by grind, by grind⟩ a
      · rw [if_neg q] at h1
        rw [own_nx_s cf _ 3 2 h3, own_adv1, h1, if_pos rfl]
        simp only [own_step]; grind
    · rw [if_neg b] at h3
      by_cases d : cf 0 = cf 3
      · rw [if_pos d] at h3
        rw [own_nx_s cf _ 3 1 h3, own_adv1, h0]
        simp only [own_step]; grind
      · rw [if_neg d] at h3
        rw [own_nx_s cf _ 3 0 h3]; simp only [own_step]; grind
theorem own_kb1 (cf : Nat → Int32) {k : Nat} (h : 1 ≤ k) : own_bf cf k 1 = own_bd2 (cf 0) (cf 1) := by
  show Int32.ofNat (own_bl cf k 1) = _
  rw [own_bl_mono cf k h, own_b1]
  simp only [apply_ite Int32.ofNat, own_bd2]; rfl
theorem own_kb2 (cf : Nat → Int32) {k : Nat} (h : 2 ≤ k) : own_bf cf k 2 = own_bd3 (cf 0) (cf 1) (cf 2) := by
  show Int32.ofNat (own_bl cf k 2) = _
  rw [own_bl_mono cf k h, own_b2]
  simp only [apply_ite Int32.ofNat, own_bd3]; rfl
theorem own_kb3 (cf : Nat → Int32) {k : Nat} (h : 3 ≤ k) : own_bf cf k 3 = own_bd4 (cf 0) (cf 1) (cf 2) (cf 3) := by
  show Int32.ofNat (own_bl cf k 3) = _
  rw [own_bl_mono cf k h, own_b3]
  simp only [apply_ite Int32.ofNat, own_bd4]; rfl
theorem own_kb4 (cf : Nat → Int32) {k : Nat} (h : 4 ≤ k) : own_bf cf k 4 = own_bd5 (cf 0) (cf 1) (cf 2) (cf 3) (cf 4) := by
  show Int32.ofNat (own_bl cf k 4) = _
  rw [own_bl_mono cf k h, own_b4]
  simp only [apply_ite Int32.ofNat, own_bd5]; rfl
theorem d10_0 : dc cd10 0 (.aload_n 0) 1 := by decide +kernel
theorem d10_1 : dc cd10 1 .areturn 1 := by decide +kernel
theorem own_ef_own_ts (m : MethodId) (x0 : Addr) : entryFrame m #[(.ref x0)] 1 = mkF m 0 #[.val (.ref x0)] [] := by first | (simp [entryFrame, mkF, argsToLocals, Value.category]; done) | rfl
def Q_own_ts (Z : State) (a : Addr) (h0 : Heap) (n0 : Nat) (v : Option Value) (h : Heap) (L : List Loc) : Prop := v = some (.ref a) ∧ Fr n0 L ∧ h = h0
theorem own_ts (l : Launch) (Z : State) (a0 : Array Value) (hw : ∀ d ∈ tables_1, d.before a0 Z = true) (ws : List Jvm.Cond) (a : Addr) (h0 : Heap) (n0 : Nat) (Z0 : n0 ≤ h0.size) :
    own_Met l Z mn33 jdk_42_method_126_code 1 (some (.object "java/lang/String")) ws rm0 #[(.ref a)] h0 (Q_own_ts Z a h0 n0) := by
  refine own_start (plainFor_of_name own_pn1) fun p e s m below meth c s₁ Bd hx hby hml hZ hown hnm X0 e0 => ?_
  have H := @own_hw Z a0 hw
  have D := @hb _ _ hby
  have hown : s.vm.findClass "java/lang/String" = some m.cls := hown
  have N0 := Fr.nil n0
  have K0 := Keep.refl h0 []
  rw [own_ef_own_ts m a]
  refine gb s₁ m 1 #[vr a] [(.ref a)] (fun u k => XS.aloadN X0.here hx rfl (D d10_0) rfl rfl k) ?_
  obtain ⟨fs, hr, hrun, hended, hW, hsame⟩ := X0.leave (v := some (.ref a)) (fun h => by rw [Bd.returns] at h; cases h)
  refine ⟨_, _, retOut X0 hx (t := (.object "java/lang/String")) (i := .areturn) Bd.returns rfl (Or.inr (Or.inr (Or.inr (Or.inr ⟨rfl, rfl, rfl⟩)))) (D d10_1) hr, hrun, hended, _, _, rfl, ?_, ⟨_, rfl⟩, hW, hsame.mono (by decide) (by decide)⟩
  show Q_own_ts Z a h0 n0 _ s₁.heap _
  rw [e0]
  exact ⟨rfl, N0, rfl⟩
theorem own_pd25 : parseMethodDescriptor "()Ljava/lang/String;" = some ⟨[], some (.object "java/lang/String")⟩ := by decide +kernel
theorem own_pd26 : parseMethodDescriptor "()[C" = some ⟨[], some (.array .char)⟩ := by decide +kernel
theorem own_pd27 : parseMethodDescriptor "([CZ)V" = some ⟨[(.array .char), .boolean], none⟩ := by decide +kernel
theorem d9_0 : dc cd9 0 (.new 8) 3 := by decide +kernel
theorem d9_3 : dc cd9 3 .dup 1 := by decide +kernel
theorem d9_4 : dc cd9 4 (.aload_n 0) 1 := by decide +kernel
theorem d9_5 : dc cd9 5 (.invokeinterface 86 1) 5 := by decide +kernel
theorem d9_10 : dc cd9 10 (.invokevirtual 92) 3 := by decide +kernel
theorem d9_13 : dc cd9 13 (.iconst 0) 1 := by decide +kernel
theorem d9_14 : dc cd9 14 (.invokespecial 98) 3 := by decide +kernel
theorem d9_17 : dc cd9 17 .areturn 1 := by decide +kernel
theorem own_ef_own_ofC (m : MethodId) (x0 : Addr) : entryFrame m #[(.ref x0)] 1 = mkF m 0 #[.val (.ref x0)] [] := by first | (simp [entryFrame, mkF, argsToLocals, Value.category]; done) | rfl
def Q_own_ofC (Z : State) (sx : Addr) (gC : Int32) (fm : Value) (nz : Nat) (cf : Nat → Int32) (rA : Addr) (kA : ClassId) (ra : List Value) (h0 : Heap) (n0 : Nat) (v : Option Value) (h : Heap) (L : List Loc) : Prop := ∃ nd : Addr, ∃ bq : Addr, ∃ r : Addr, ∃ kq : ClassId, ∃ kr : ClassId, v = some (.ref nd) ∧ Fr n0 L ∧ Keep h0 h [] ∧ n0 ≤ nd ∧ h0.size ≤ nd ∧ n0 ≤ bq ∧ h0.size ≤ bq ∧ n0 ≤ r ∧ h0.size ≤ r ∧ Exa Z h nd "backstitch/Needle" ∧ Fld Z h nd "backstitch/Needle" "units" "[C" (.ref bq) ∧ Fld Z h nd "backstitch/Needle" "ofBytes" "Z" (.int 0) ∧ Fld Z h nd "backstitch/Needle" "borders" "[I" (.ref r) ∧ Exa Z h r "[I" ∧ Arv Z h r kr .int (Int32.ofNat nz) (own_l nz (own_bf cf (nz - 1))) (.int 0) ∧ Arv Z h bq kq .char (Int32.ofNat nz) (own_l nz cf) (.int 0)
theorem own_ofC (l : Launch) (Z : State) (a0 : Array Value) (hw : ∀ d ∈ tables_1, d.before a0 Z = true) (ws : List Jvm.Cond) (sx : Addr) (gC : Int32) (fm : Value) (nz : Nat) (cf : Nat → Int32) (rA : Addr) (kA : ClassId) (ra : List Value) (h0 : Heap) (n0 : Nat) (Z0 : n0 ≤ h0.size) (E_sx : Exa Z h0 sx "java/lang/String") (Old0 : Old Z n0 h0) (SCS : Sta Z Z.heap "java/lang/String" "COMPACT_STRINGS" "Z" (.int gC)) (P5 : ¬ gC = 0) (SFM : Sta Z Z.heap "jdk/internal/util/Preconditions" "SIOOBE_FORMATTER" "Ljava/util/function/BiFunction;" fm) (r_fm : fm.isRef = true) (Sa : Sta Z Z.heap "java/lang/StringUTF16" "$assertionsDisabled" "Z" (.int 1)) (SHI : Sta Z Z.heap "java/lang/StringUTF16" "HI_BYTE_SHIFT" "I" (.int 0)) (SLO : Sta Z Z.heap "java/lang/StringUTF16" "LO_BYTE_SHIFT" "I" (.int 8)) (SRA : Sta Z Z.heap "backstitch/Needle" "ASCII_RARITY" "[B" (.ref rA)) (SUN : Sta Z Z.heap "backstitch/Needle" "UNORDINARY" "I" (.int 28)) (V_rA : Arv Z h0 rA kA .byte (128 : Int32) ra (.int 0)) (hRA : own_RA ra) (TX : (∃ t kt, t ≠ sx ∧ Fld Z h0 sx "java/lang/String" "value" "[B" (.ref t) ∧ ((Fld Z h0 sx "java/lang/String" "coder" "B" (.int 0) ∧ Arv Z h0 t kt .byte (Int32.ofNat nz) (own_l nz (own_lo8 cf)) (.int 0) ∧ ∀ j, j < nz → ¬ (255 : Int32) < cf j) ∨ (0 < nz ∧ Fld Z h0 sx "java/lang/String" "coder" "B" (.int 1) ∧ Arv Z h0 t kt .byte (Int32.ofNat (2 * nz)) (own_l (2 * nz) (own_w cf)) (.int 0))))) (hnz : nz < 6) (hch : ∀ j, j < nz → own_ch (cf j)) :
    own_Met l Z mn34 prog_8_method_2_code 1 (some (.object "backstitch/Needle")) ws rm20 #[(.ref sx)] h0 (Q_own_ofC Z sx gC fm nz cf rA kA ra h0 n0) := by
  refine own_start (plainFor_of_name own_pn4) fun p e s m below meth c s₁ Bd hx hby hml hZ hown hnm X0 e0 => ?_
  have H := @own_hw Z a0 hw
  have D := @hb _ _ hby
  have hown : s.vm.findClass "backstitch/Needle" = some m.cls := hown
  have N0 := Fr.nil n0
  have K0 := Keep.refl h0 []
  rw [own_ef_own_ofC m sx]
  obtain ⟨t, kt, hts, FV, TX⟩ := TX
  rcases TX with ⟨FC, VT, hb9⟩ | ⟨hn1, FC, VT⟩
  · obtain ⟨T1, h1, X1, e1, E1, A1, D1, -, st1⟩ := newO X0 hx hZ hown (H 43 rfl) (H 44 rfl) (H 41 rfl) e0 (g := (mkF m 0 #[vr sx] [])) rfl (D d9_0) (by decide) (by decide)
    obtain ⟨b1, g1⟩ : ∃ z, z = h0.size := ⟨_, rfl⟩
    rw [← g1] at A1 D1 st1
    have ne_sx_b1 : sx ≠ b1 := Nat.ne_of_lt (Nat.lt_of_lt_of_le E_sx.lt (Nat.le_of_eq g1.symm))
    have ne_rA_b1 : rA ≠ b1 := Nat.ne_of_lt (Nat.lt_of_lt_of_le V_rA.lt (Nat.le_of_eq g1.symm))
    have ne_t_b1 : t ≠ b1 := Nat.ne_of_lt (Nat.lt_of_lt_of_le VT.lt (Nat.le_of_eq g1.symm))
    have gb1 : n0 ≤ b1 := Nat.le_trans Z0 (Nat.le_of_eq g1.symm)
    have sz1 : h0.size ≤ b1 := Nat.le_trans K0.1 (Nat.le_of_eq g1.symm)
    have Z1 : n0 ≤ h1.size := Nat.le_trans Z0 E1.1
    have K1 := K0.ext E1
    have O1 := Old0.ext E1
    refine gb T1 m 3 #[vr sx] [(.ref b1)] st1 ?_
    clear st1
    refine gb T1 m 5 #[vr sx] [(.ref sx), (.ref b1), (.ref b1)] (fun u k => XS.dup X1.here hx rfl (D d9_3) rfl rfl (XS.aloadN X1.here hx rfl (D d9_4) rfl rfl k)) ?_
    have f4 := (E_sx.ext E1)
    obtain ⟨cq3, kq3, qa3, qb3, qc3⟩ := isOf hZ e1 f4
    obtain ⟨_, _, ⟨T2, L2, k2, n2⟩, -, X2, ⟨Lc2, hQ2, l2, y2, z2⟩, st2⟩ := X1.interfaceBack hx (C := "java/lang/String") (xi := mn35) (y := mn33) hown (mvT hZ (H 45 rfl)) (mvT hZ (H 46 rfl)) (mvT hZ (H 47 rfl)) (mvT hZ (H 48 rfl)) (mvT hZ (H 49 rfl)) (mvT hZ (H 50 rfl)) (mvT hZ (H 51 rfl)) (mvT hZ (H 52 rfl)) ⟨by decide, by decide⟩ (backOf (W := 2) (own_ts l Z a0 hw [] sx h1 n0 Z1 ) hZ (H 53 rfl) (H 12 rfl) (by decide) (by decide)) qa3 qb3 qc3 (g := (mkF m 5 #[vr sx] [(.ref sx), (.ref b1), (.ref b1)])) rfl (by rw [hml]; rfl) (Steps.refl _) (argsL := []) (rest := [(.ref b1), (.ref b1)]) (lenOf own_pd25 rfl) rfl (own_w0 rfl) (D d9_5) (fun _ _ => ⟨rfl, e1, (by decide : 1 + 0 ≤ _), (by decide : 10 + 0 ≤ _)⟩)
    dsimp only [Pt.U, Pt.locs, Pt.cells, Pt.slots] at X2 l2 y2 z2 st2 hQ2
    subst l2 y2 z2
    obtain ⟨rfl, N2, e2⟩ := hQ2
    have NA2 := Fr.app N0 N2
    refine gb T2 m 10 #[vr sx] [(.ref sx), (.ref b1), (.ref b1)] (fun u k => st2.trans k) ?_
    clear st2
    have f5 := (FC.ext E1)
    have f6 := (FV.ext E1)
    have f7 := (VT.ext E1)
    obtain ⟨cq9, kq9, qa9, qb9, qc9⟩ := isOf hZ e2 f4
    obtain ⟨_, _, ⟨T8, L8, k8, n8⟩, -, X8, ⟨Lc8, hQ8, l8, y8, z8⟩, st8⟩ := X2.virtualBack hx (y := mn19) (z := mn19) hown (mvT hZ (H 54 rfl)) (mvT hZ (H 55 rfl)) (notFace_of_selects (args := #[]) (mvT hZ (H 57 rfl))) (mvT hZ (H 57 rfl)) (mvT hZ (H 56 rfl)) (by decide) (backOf (W := 2) (own_tca_L l Z a0 hw [] sx t gC fm nz cf kt h1 n0 Z1 f4 f5 f6 O1 SCS P5 SFM r_fm Sa SHI SLO f7 hnz hch hb9) hZ (H 58 rfl) (H 12 rfl) (by decide) (by decide)) qa9 qc9 (g := (mkF m 10 #[vr sx] [(.ref sx), (.ref b1), (.ref b1)])) rfl (by rw [hml]; rfl) (Steps.refl _) (argsL := []) (rest := [(.ref b1), (.ref b1)]) (lenOf own_pd26 rfl) rfl (own_w0 rfl) (D d9_10) (fun _ _ => ⟨rfl, e2, (by decide : 1 + 1 ≤ _), (by decide : 10 + 5 ≤ _)⟩)
    dsimp only [Pt.U, Pt.locs, Pt.cells, Pt.slots] at X8 l8 y8 z8 st8 hQ8
    subst l8 y8 z8
    obtain ⟨r8, kr8, rfl, N8, Kc8, gb_r8, szc_r8, P8_0⟩ := hQ8
    have NA8 := Fr.app NA2 N8
    have Z8 : n0 ≤ T8.heap.size := Nat.le_trans Z1 Kc8.1
    have K8 := K1.trans Kc8 all0
    have O8 := O1.keep Kc8 all0
    have sz_r8 : h0.size ≤ r8 := Nat.le_trans K1.1 szc_r8
    have ne_sx_r8 : sx ≠ r8 := Nat.ne_of_lt (Nat.lt_of_lt_of_le f4.lt szc_r8)
    have f10 := (V_rA.ext E1)
    have ne_rA_r8 : rA ≠ r8 := Nat.ne_of_lt (Nat.lt_of_lt_of_le f10.lt szc_r8)
    have ne_t_r8 : t ≠ r8 := Nat.ne_of_lt (Nat.lt_of_lt_of_le f7.lt szc_r8)
    have ne_b1_r8 : b1 ≠ r8 := Nat.ne_of_lt (Nat.lt_of_lt_of_le A1.lt szc_r8)
    refine gb T8 m 13 #[vr sx] [(.ref r8), (.ref b1), (.ref b1)] (fun u k => st8.trans k) ?_
    clear st8
    refine gb T8 m 14 #[vr sx] [(.int 0), (.ref r8), (.ref b1), (.ref b1)] (fun u k => XT.iconstV X8.here hx rfl (0 : Int32) (D d9_13) (by decide) k) ?_
    have f11 := (A1.keep Kc8)
    have f12 := ((D1 (Or.inr (H 76 rfl)) (ty := (.array .char)) (by decide)).keep Kc8 nin0)
    have f13 := ((D1 (Or.inr (H 78 rfl)) (ty := .boolean) (by decide)).keep Kc8 nin0)
    have f14 := ((D1 (Or.inr (H 110 rfl)) (ty := (.object "backstitch/Needle$Anchor")) (by decide)).keep Kc8 nin0)
    have f15 := ((D1 (Or.inr (H 124 rfl)) (ty := (.array (.object "backstitch/Needle$Anchor"))) (by decide)).keep Kc8 nin0)
    have f16 := ((D1 (Or.inr (H 130 rfl)) (ty := .int) (by decide)).keep Kc8 nin0)
    have f17 := ((D1 (Or.inr (H 132 rfl)) (ty := .long) (by decide)).keep Kc8 nin0)
    have f18 := ((D1 (Or.inr (H 134 rfl)) (ty := .long) (by decide)).keep Kc8 nin0)
    have f19 := ((D1 (Or.inr (H 137 rfl)) (ty := (.array .int)) (by decide)).keep Kc8 nin0)
    have f20 := ((D1 (Or.inr (H 156 rfl)) (ty := .long) (by decide)).keep Kc8 nin0)
    have f21 := ((D1 (Or.inr (H 158 rfl)) (ty := .boolean) (by decide)).keep Kc8 nin0)
    have f22 := (f10.keep Kc8 nin0)
    obtain ⟨_, _, ⟨T23, L23, k23, n23⟩, -, X23, ⟨Lc23, hQ23, l23, y23, z23⟩, st23⟩ := X8.specialBack hx (y := mn32) rfl hown (mvT hZ (H 71 rfl)) (mvT hZ (H 72 rfl)) (mvT hZ (H 73 rfl)) (by decide) (backOf (W := 1) (own_ndInit l Z a0 hw [] b1 r8 nz cf kr8 rA kA ra T8.heap n0 Z8 f11 f12 f13 f14 f15 f16 f17 f18 f19 f20 f21 gb1 ne_b1_r8 (Ne.symm ne_rA_b1) O8 SRA SUN f22 hRA P8_0 hnz hch) hZ (H 73 rfl) (H 41 rfl) (by decide) (by decide)) (g := (mkF m 14 #[vr sx] [(.int 0), (.ref r8), (.ref b1), (.ref b1)])) rfl (by rw [hml]; rfl) (Steps.refl _) (a := b1) (argsL := [(.ref r8), (.int 0)]) (rest := [(.ref b1)]) (lenOf own_pd27 rfl) rfl (own_w0 rfl) (D d9_14) (fun _ _ => ⟨rfl, rfl, (by decide : 2 + 12 ≤ _), (by decide : 15 + 1069 ≤ _)⟩)
    dsimp only [Pt.U, Pt.locs, Pt.cells, Pt.slots] at X23 l23 y23 z23 st23 hQ23
    subst l23 y23 z23
    obtain ⟨r23, kr23, rfl, N23, Kc23, gb_r23, szc_r23, P23_0, P23_1, P23_2, P23_3, P23_4, P23_5⟩ := hQ23
    have NA23 := Fr.app NA8 N23
    have Z23 : n0 ≤ T23.heap.size := Nat.le_trans Z8 Kc23.1
    have K23 := K8.trans Kc23 (allS (Or.inr sz1) all0)
    have O23 := O8.keep Kc23 (allS gb1 all0)
    have sz_r23 : h0.size ≤ r23 := Nat.le_trans K8.1 szc_r23
    have f24 := (f4.keep Kc8)
    have ne_sx_r23 : sx ≠ r23 := Nat.ne_of_lt (Nat.lt_of_lt_of_le f24.lt szc_r23)
    have ne_rA_r23 : rA ≠ r23 := Nat.ne_of_lt (Nat.lt_of_lt_of_le f22.lt szc_r23)
    have f25 := (f7.keep Kc8 nin0)
    have ne_t_r23 : t ≠ r23 := Nat.ne_of_lt (Nat.lt_of_lt_of_le f25.lt szc_r23)
    have ne_b1_r23 : b1 ≠ r23 := Nat.ne_of_lt (Nat.lt_of_lt_of_le f11.lt szc_r23)
    have ne_r8_r23 : r8 ≠ r23 := Nat.ne_of_lt (Nat.lt_of_lt_of_le P8_0.lt szc_r23)
    refine gb T23 m 17 #[vr sx] [(.ref b1)] (fun u k => st23.trans k) ?_
    clear st23
    have f26 := (P8_0.keep Kc23 (ninS (Ne.symm ne_b1_r8) nin0))
    obtain ⟨fs, hr, hrun, hended, hW, hsame⟩ := X23.leave (v := some (.ref b1)) (fun h => by rw [Bd.returns] at h; cases h)
    refine ⟨_, _, retOut X23 hx (t := (.object "backstitch/Needle")) (i := .areturn) Bd.returns rfl (Or.inr (Or.inr (Or.inr (Or.inr ⟨rfl, rfl, rfl⟩)))) (D d9_17) hr, hrun, hended, _, _, rfl, ?_, ⟨_, rfl⟩, hW, hsame.mono (by decide) (by decide)⟩
    show Q_own_ofC Z sx gC fm nz cf rA kA ra h0 n0 _ T23.heap _
    exact ⟨b1, r8, r23, kr8, kr23, rfl, NA23, K23, gb1, sz1, gb_r8, sz_r8, gb_r23, sz_r23, P23_0, P23_1, P23_2, P23_3, P23_4, P23_5, f26⟩
  · obtain ⟨T27, h27, X27, e27, E27, A27, D27, -, st27⟩ := newO X0 hx hZ hown (H 43 rfl) (H 44 rfl) (H 41 rfl) e0 (g := (mkF m 0 #[vr sx] [])) rfl (D d9_0) (by decide) (by decide)
    obtain ⟨b27, g27⟩ : ∃ z, z = h0.size := ⟨_, rfl⟩
    rw [← g27] at A27 D27 st27
    have ne_sx_b27 : sx ≠ b27 := Nat.ne_of_lt (Nat.lt_of_lt_of_le E_sx.lt (Nat.le_of_eq g27.symm))
    have ne_rA_b27 : rA ≠ b27 := Nat.ne_of_lt (Nat.lt_of_lt_of_le V_rA.lt (Nat.le_of_eq g27.symm))
    have ne_t_b27 : t ≠ b27 := Nat.ne_of_lt (Nat.lt_of_lt_of_le VT.lt (Nat.le_of_eq g27.symm))
    have gb27 : n0 ≤ b27 := Nat.le_trans Z0 (Nat.le_of_eq g27.symm)
    have sz27 : h0.size ≤ b27 := Nat.le_trans K0.1 (Nat.le_of_eq g27.symm)
    have Z27 : n0 ≤ h27.size := Nat.le_trans Z0 E27.1
    have K27 := K0.ext E27
    have O27 := Old0.ext E27
    refine gb T27 m 3 #[vr sx] [(.ref b27)] st27 ?_
    clear st27
    refine gb T27 m 5 #[vr sx] [(.ref sx), (.ref b27), (.ref b27)] (fun u k => XS.dup X27.here hx rfl (D d9_3) rfl rfl (XS.aloadN X27.here hx rfl (D d9_4) rfl rfl k)) ?_
    have f30 := (E_sx.ext E27)
    obtain ⟨cq29, kq29, qa29, qb29, qc29⟩ := isOf hZ e27 f30
    obtain ⟨_, _, ⟨T28, L28, k28, n28⟩, -, X28, ⟨Lc28, hQ28, l28, y28, z28⟩, st28⟩ := X27.interfaceBack hx (C := "java/lang/String") (xi := mn35) (y := mn33) hown (mvT hZ (H 45 rfl)) (mvT hZ (H 46 rfl)) (mvT hZ (H 47 rfl)) (mvT hZ (H 48 rfl)) (mvT hZ (H 49 rfl)) (mvT hZ (H 50 rfl)) (mvT hZ (H 51 rfl)) (mvT hZ (H 52 rfl)) ⟨by decide, by decide⟩ (backOf (W := 2) (own_ts l Z a0 hw [] sx h27 n0 Z27 ) hZ (H 53 rfl) (H 12 rfl) (by decide) (by decide)) qa29 qb29 qc29 (g := (mkF m 5 #[vr sx] [(.ref sx), (.ref b27), (.ref b27)])) rfl (by rw [hml]; rfl) (Steps.refl _) (argsL := []) (rest := [(.ref b27), (.ref b27)]) (lenOf own_pd25 rfl) rfl (own_w0 rfl) (D d9_5) (fun _ _ => ⟨rfl, e27, (by decide : 1 + 0 ≤ _), (by decide : 10 + 0 ≤ _)⟩)
    dsimp only [Pt.U, Pt.locs, Pt.cells, Pt.slots] at X28 l28 y28 z28 st28 hQ28
    subst l28 y28 z28
    obtain ⟨rfl, N28, e28⟩ := hQ28
    have NA28 := Fr.app N0 N28
    refine gb T28 m 10 #[vr sx] [(.ref sx), (.ref b27), (.ref b27)] (fun u k => st28.trans k) ?_
    clear st28
    have f31 := (FC.ext E27)
    have f32 := (FV.ext E27)
    have f33 := (VT.ext E27)
    obtain ⟨cq35, kq35, qa35, qb35, qc35⟩ := isOf hZ e28 f30
    obtain ⟨_, _, ⟨T34, L34, k34, n34⟩, -, X34, ⟨Lc34, hQ34, l34, y34, z34⟩, st34⟩ := X28.virtualBack hx (y := mn19) (z := mn19) hown (mvT hZ (H 54 rfl)) (mvT hZ (H 55 rfl)) (notFace_of_selects (args := #[]) (mvT hZ (H 57 rfl))) (mvT hZ (H 57 rfl)) (mvT hZ (H 56 rfl)) (by decide) (backOf (W := 2) (own_tca_W l Z a0 hw [] sx t gC fm nz cf kt h27 n0 Z27 f30 f31 f32 O27 SCS P5 SFM r_fm Sa SHI SLO f33 hnz hch hn1) hZ (H 58 rfl) (H 12 rfl) (by decide) (by decide)) qa35 qc35 (g := (mkF m 10 #[vr sx] [(.ref sx), (.ref b27), (.ref b27)])) rfl (by rw [hml]; rfl) (Steps.refl _) (argsL := []) (rest := [(.ref b27), (.ref b27)]) (lenOf own_pd26 rfl) rfl (own_w0 rfl) (D d9_10) (fun _ _ => ⟨rfl, e28, (by decide : 1 + 1 ≤ _), (by decide : 10 + 5 ≤ _)⟩)
    dsimp only [Pt.U, Pt.locs, Pt.cells, Pt.slots] at X34 l34 y34 z34 st34 hQ34
    subst l34 y34 z34
    obtain ⟨r34, kr34, rfl, N34, Kc34, gb_r34, szc_r34, P34_0⟩ := hQ34
    have NA34 := Fr.app NA28 N34
    have Z34 : n0 ≤ T34.heap.size := Nat.le_trans Z27 Kc34.1
    have K34 := K27.trans Kc34 all0
    have O34 := O27.keep Kc34 all0
    have sz_r34 : h0.size ≤ r34 := Nat.le_trans K27.1 szc_r34
    have ne_sx_r34 : sx ≠ r34 := Nat.ne_of_lt (Nat.lt_of_lt_of_le f30.lt szc_r34)
    have f36 := (V_rA.ext E27)
    have ne_rA_r34 : rA ≠ r34 := Nat.ne_of_lt (Nat.lt_of_lt_of_le f36.lt szc_r34)
    have ne_t_r34 : t ≠ r34 := Nat.ne_of_lt (Nat.lt_of_lt_of_le f33.lt szc_r34)
    have ne_b27_r34 : b27 ≠ r34 := Nat.ne_of_lt (Nat.lt_of_lt_of_le A27.lt szc_r34)
    refine gb T34 m 13 #[vr sx] [(.ref r34), (.ref b27), (.ref b27)] (fun u k => st34.trans k) ?_
    clear st34
    refine gb T34 m 14 #[vr sx] [(.int 0), (.ref r34), (.ref b27), (.ref b27)] (fun u k => XT.iconstV X34.here hx rfl (0 : Int32) (D d9_13) (by decide) k) ?_
    have f37 := (A27.keep Kc34)
    have f38 := ((D27 (Or.inr (H 76 rfl)) (ty := (.array .char)) (by decide)).keep Kc34 nin0)
    have f39 := ((D27 (Or.inr (H 78 rfl)) (ty := .boolean) (by decide)).keep Kc34 nin0)
    have f40 := ((D27 (Or.inr (H 110 rfl)) (ty := (.object "backstitch/Needle$Anchor")) (by decide)).keep Kc34 nin0)
    have f41 := ((D27 (Or.inr (H 124 rfl)) (ty := (.array (.object "backstitch/Needle$Anchor"))) (by decide)).keep Kc34 nin0)
    have f42 := ((D27 (Or.inr (H 130 rfl)) (ty := .int) (by decide)).keep Kc34 nin0)
    have f43 := ((D27 (Or.inr (H 132 rfl)) (ty := .long) (by decide)).keep Kc34 nin0)
    have f44 := ((D27 (Or.inr (H 134 rfl)) (ty := .long) (by decide)).keep Kc34 nin0)
    have f45 := ((D27 (Or.inr (H 137 rfl)) (ty := (.array .int)) (by decide)).keep Kc34 nin0)
    have f46 := ((D27 (Or.inr (H 156 rfl)) (ty := .long) (by decide)).keep Kc34 nin0)
    have f47 := ((D27 (Or.inr (H 158 rfl)) (ty := .boolean) (by decide)).keep Kc34 nin0)
    have f48 := (f36.keep Kc34 nin0)
    obtain ⟨_, _, ⟨T49, L49, k49, n49⟩, -, X49, ⟨Lc49, hQ49, l49, y49, z49⟩, st49⟩ := X34.specialBack hx (y := mn32) rfl hown (mvT hZ (H 71 rfl)) (mvT hZ (H 72 rfl)) (mvT hZ (H 73 rfl)) (by decide) (backOf (W := 1) (own_ndInit l Z a0 hw [] b27 r34 nz cf kr34 rA kA ra T34.heap n0 Z34 f37 f38 f39 f40 f41 f42 f43 f44 f45 f46 f47 gb27 ne_b27_r34 (Ne.symm ne_rA_b27) O34 SRA SUN f48 hRA P34_0 hnz hch) hZ (H 73 rfl) (H 41 rfl) (by decide) (by decide)) (g := (mkF m 14 #[vr sx] [(.int 0), (.ref r34), (.ref b27), (.ref b27)])) rfl (by rw [hml]; rfl) (Steps.refl _) (a := b27) (argsL := [(.ref r34), (.int 0)]) (rest := [(.ref b27)]) (lenOf own_pd27 rfl) rfl (own_w0 rfl) (D d9_14) (fun _ _ => ⟨rfl, rfl, (by decide : 2 + 12 ≤ _), (by decide : 15 + 1069 ≤ _)⟩)
    dsimp only [Pt.U, Pt.locs, Pt.cells, Pt.slots] at X49 l49 y49 z49 st49 hQ49
    subst l49 y49 z49
    obtain ⟨r49, kr49, rfl, N49, Kc49, gb_r49, szc_r49, P49_0, P49_1, P49_2, P49_3, P49_4, P49_5⟩ := hQ49
    have NA49 := Fr.app NA34 N49
    have Z49 : n0 ≤ T49.heap.size := Nat.le_trans Z34 Kc49.1
    have K49 := K34.trans Kc49 (allS (Or.inr sz27) all0)
    have O49 := O34.keep Kc49 (allS gb27 all0)
    have sz_r49 : h0.size ≤ r49 := Nat.le_trans K34.1 szc_r49
    have f50 := (f30.keep Kc34)
    have ne_sx_r49 : sx ≠ r49 := Nat.ne_of_lt (Nat.lt_of_lt_of_le f50.lt szc_r49)
    have ne_rA_r49 : rA ≠ r49 := Nat.ne_of_lt (Nat.lt_of_lt_of_le f48.lt szc_r49)
    have f51 := (f33.keep Kc34 nin0)
    have ne_t_r49 : t ≠ r49 := Nat.ne_of_lt (Nat.lt_of_lt_of_le f51.lt szc_r49)
    have ne_b27_r49 : b27 ≠ r49 := Nat.ne_of_lt (Nat.lt_of_lt_of_le f37.lt szc_r49)
    have ne_r34_r49 : r34 ≠ r49 := Nat.ne_of_lt (Nat.lt_of_lt_of_le P34_0.lt szc_r49)
    refine gb T49 m 17 #[vr sx] [(.ref b27)] (fun u k => st49.trans k) ?_
    clear st49
    have f52 := (P34_0.keep Kc49 (ninS (Ne.symm ne_b27_r34) nin0))
    obtain ⟨fs, hr, hrun, hended, hW, hsame⟩ := X49.leave (v := some (.ref b27)) (fun h => by rw [Bd.returns] at h; cases h)
    refine ⟨_, _, retOut X49 hx (t := (.object "backstitch/Needle")) (i := .areturn) Bd.returns rfl (Or.inr (Or.inr (Or.inr (Or.inr ⟨rfl, rfl, rfl⟩)))) (D d9_17) hr, hrun, hended, _, _, rfl, ?_, ⟨_, rfl⟩, hW, hsame.mono (by decide) (by decide)⟩
    show Q_own_ofC Z sx gC fm nz cf rA kA ra h0 n0 _ T49.heap _
    exact ⟨b27, r34, r49, kr34, kr49, rfl, NA49, K49, gb27, sz27, gb_r34, sz_r34, gb_r49, sz_r49, P49_0, P49_1, P49_2, P49_3, P49_4, P49_5, f52⟩
theorem own_pn8 : plainName "backstitch/NeedleOfPinLaw" = true := by first | (simp [plainName, overriddenIn]; done) | decide +kernel
theorem d1_0 : dc cd1 0 (.iload_n 0) 1 := by decide +kernel
theorem d1_1 : dc cd1 1 (.ldc 7) 2 := by decide +kernel
theorem d1_3 : dc cd1 3 .iand 1 := by decide +kernel
theorem d1_4 : dc cd1 4 (.ifCond .eq 9) 3 := by decide +kernel
theorem d1_7 : dc cd1 7 (.iload_n 0) 1 := by decide +kernel
theorem d1_8 : dc cd1 8 (.ldc 8) 2 := by decide +kernel
theorem d1_10 : dc cd1 10 .iand 1 := by decide +kernel
theorem d1_11 : dc cd1 11 .i2c 1 := by decide +kernel
theorem d1_12 : dc cd1 12 .ireturn 1 := by decide +kernel
theorem d1_13 : dc cd1 13 (.bipush 97) 2 := by decide +kernel
theorem d1_15 : dc cd1 15 (.iload_n 0) 1 := by decide +kernel
theorem d1_16 : dc cd1 16 (.iconst 1) 1 := by decide +kernel
theorem d1_17 : dc cd1 17 .iand 1 := by decide +kernel
theorem d1_18 : dc cd1 18 .iadd 1 := by decide +kernel
theorem d1_19 : dc cd1 19 .i2c 1 := by decide +kernel
theorem d1_20 : dc cd1 20 .ireturn 1 := by decide +kernel
theorem own_ef_own_unitF (m : MethodId) (x0 : Int32) : entryFrame m #[(.int x0)] 1 = mkF m 0 #[.val (.int x0)] [] := by first | (simp [entryFrame, mkF, argsToLocals, Value.category]; done) | rfl
def Q_own_unitF (Z : State) (px : Int32) (h0 : Heap) (n0 : Nat) (v : Option Value) (h : Heap) (L : List Loc) : Prop := ∃ rv : Int32, v = some (.int rv) ∧ Fr n0 L ∧ h = h0 ∧ own_ch rv
theorem own_unitF (l : Launch) (Z : State) (a0 : Array Value) (hw : ∀ d ∈ tables_1, d.before a0 Z = true) (ws : List Jvm.Cond) (px : Int32) (h0 : Heap) (n0 : Nat) (Z0 : n0 ≤ h0.size) :
    own_Met l Z mn36 method_2_code 1 (some .char) ws rm0 #[(.int px)] h0 (Q_own_unitF Z px h0 n0) := by
  refine own_start (plainFor_of_name own_pn8) fun p e s m below meth c s₁ Bd hx hby hml hZ hown hnm X0 e0 => ?_
  have H := @own_hw Z a0 hw
  have D := @hb _ _ hby
  have hown : s.vm.findClass "backstitch/NeedleOfPinLaw" = some m.cls := hown
  have N0 := Fr.nil n0
  have K0 := Keep.refl h0 []
  rw [own_ef_own_unitF m px]
  refine gb s₁ m 4 #[vi px] [(.int (px &&& (65536 : Int32)))] (fun u k => XS.iloadN X0.here hx rfl (D d1_0) rfl (X0.ldcI hx hown (mvT hZ (H 5 rfl)) rfl (D d1_1) (XS.iand X0.here hx rfl (D d1_3) rfl k))) ?_
  by_cases hc1 : (px &&& (65536 : Int32)) = (0 : Int32)
  · refine gb s₁ m 20 #[vi px] [(.int (((97 : Int32) + (px &&& (1 : Int32))).toUInt32.toUInt16.toUInt32.toInt32))] (fun u k => XS.ifYes X0.here hx rfl (pc0 := 4) (pc' := 13) rfl (D d1_4) rfl (XT.i0_eq_t hc1) (by decide) (by decide) (XT.bipushV X0.here hx rfl (97 : Int32) (D d1_13) (by decide) (XS.iloadN X0.here hx rfl (D d1_15) rfl (XT.iconstV X0.here hx rfl (1 : Int32) (D d1_16) (by decide) (XS.iand X0.here hx rfl (D d1_17) rfl (XS.iadd X0.here hx rfl (D d1_18) rfl (XT.i2c X0.here hx rfl (D d1_19) rfl k))))))) ?_
    obtain ⟨fs, hr, hrun, hended, hW, hsame⟩ := X0.leave (v := some (.int (nar .char (((97 : Int32) + (px &&& (1 : Int32))).toUInt32.toUInt16.toUInt32.toInt32)))) (fun h => by rw [Bd.returns] at h; cases h)
    refine ⟨_, _, retN X0 hx (t := .char) Bd.returns (by simp) (D d1_20) hr, hrun, hended, _, _, rfl, ?_, ⟨_, rfl⟩, hW, hsame.mono (by decide) (by decide)⟩
    show Q_own_unitF Z px h0 n0 _ s₁.heap _
    rw [e0]
    exact ⟨(((97 : Int32) + (px &&& (1 : Int32))).toUInt32.toUInt16.toUInt32.toInt32), (congrArg (fun z => some (Value.int z)) (own_cc ((97 : Int32) + (px &&& (1 : Int32))))), N0, rfl, own_ch_i2c _⟩
  · refine gb s₁ m 12 #[vi px] [(.int ((px &&& (65535 : Int32)).toUInt32.toUInt16.toUInt32.toInt32))] (fun u k => XS.ifNo X0.here hx rfl (D d1_4) rfl (XT.i0_eq_f hc1) (XS.iloadN X0.here hx rfl (D d1_7) rfl (X0.ldcI hx hown (mvT hZ (H 204 rfl)) rfl (D d1_8) (XS.iand X0.here hx rfl (D d1_10) rfl (XT.i2c X0.here hx rfl (D d1_11) rfl k))))) ?_
    obtain ⟨fs, hr, hrun, hended, hW, hsame⟩ := X0.leave (v := some (.int (nar .char ((px &&& (65535 : Int32)).toUInt32.toUInt16.toUInt32.toInt32)))) (fun h => by rw [Bd.returns] at h; cases h)
    refine ⟨_, _, retN X0 hx (t := .char) Bd.returns (by simp) (D d1_12) hr, hrun, hended, _, _, rfl, ?_, ⟨_, rfl⟩, hW, hsame.mono (by decide) (by decide)⟩
    show Q_own_unitF Z px h0 n0 _ s₁.heap _
    rw [e0]
    exact ⟨((px &&& (65535 : Int32)).toUInt32.toUInt16.toUInt32.toInt32), (congrArg (fun z => some (Value.int z)) (own_cc (px &&& (65535 : Int32)))), N0, rfl, own_ch_i2c _⟩
theorem d2_0 : dc cd2 0 (.iload_n 0) 1 := by decide +kernel
theorem d2_1 : dc cd2 1 (.ifCond .ne 7) 3 := by decide +kernel
theorem d2_4 : dc cd2 4 (.iconst 0) 1 := by decide +kernel
theorem d2_5 : dc cd2 5 (.newarray .char) 2 := by decide +kernel
theorem d2_7 : dc cd2 7 .areturn 1 := by decide +kernel
theorem d2_8 : dc cd2 8 (.iload_n 0) 1 := by decide +kernel
theorem d2_9 : dc cd2 9 (.iconst 1) 1 := by decide +kernel
theorem d2_10 : dc cd2 10 (.if_icmp .ne 11) 3 := by decide +kernel
theorem d2_13 : dc cd2 13 (.iconst 1) 1 := by decide +kernel
theorem d2_14 : dc cd2 14 (.newarray .char) 2 := by decide +kernel
theorem d2_16 : dc cd2 16 .dup 1 := by decide +kernel
theorem d2_17 : dc cd2 17 (.iconst 0) 1 := by decide +kernel
theorem d2_18 : dc cd2 18 (.iload_n 1) 1 := by decide +kernel
theorem d2_19 : dc cd2 19 .castore 1 := by decide +kernel
theorem d2_20 : dc cd2 20 .areturn 1 := by decide +kernel
theorem d2_21 : dc cd2 21 (.iload_n 0) 1 := by decide +kernel
theorem d2_22 : dc cd2 22 (.iconst 2) 1 := by decide +kernel
theorem d2_23 : dc cd2 23 (.if_icmp .ne 15) 3 := by decide +kernel
theorem d2_26 : dc cd2 26 (.iconst 2) 1 := by decide +kernel
theorem d2_27 : dc cd2 27 (.newarray .char) 2 := by decide +kernel
theorem d2_29 : dc cd2 29 .dup 1 := by decide +kernel
theorem d2_30 : dc cd2 30 (.iconst 0) 1 := by decide +kernel
theorem d2_31 : dc cd2 31 (.iload_n 1) 1 := by decide +kernel
theorem d2_32 : dc cd2 32 .castore 1 := by decide +kernel
theorem d2_33 : dc cd2 33 .dup 1 := by decide +kernel
theorem d2_34 : dc cd2 34 (.iconst 1) 1 := by decide +kernel
theorem d2_35 : dc cd2 35 (.iload_n 2) 1 := by decide +kernel
theorem d2_36 : dc cd2 36 .castore 1 := by decide +kernel
theorem d2_37 : dc cd2 37 .areturn 1 := by decide +kernel
theorem d2_38 : dc cd2 38 (.iload_n 0) 1 := by decide +kernel
theorem d2_39 : dc cd2 39 (.iconst 3) 1 := by decide +kernel
theorem d2_40 : dc cd2 40 (.if_icmp .ne 19) 3 := by decide +kernel
theorem d2_43 : dc cd2 43 (.iconst 3) 1 := by decide +kernel
theorem d2_44 : dc cd2 44 (.newarray .char) 2 := by decide +kernel
theorem d2_46 : dc cd2 46 .dup 1 := by decide +kernel
theorem d2_47 : dc cd2 47 (.iconst 0) 1 := by decide +kernel
theorem d2_48 : dc cd2 48 (.iload_n 1) 1 := by decide +kernel
theorem d2_49 : dc cd2 49 .castore 1 := by decide +kernel
theorem d2_50 : dc cd2 50 .dup 1 := by decide +kernel
theorem d2_51 : dc cd2 51 (.iconst 1) 1 := by decide +kernel
theorem d2_52 : dc cd2 52 (.iload_n 2) 1 := by decide +kernel
theorem d2_53 : dc cd2 53 .castore 1 := by decide +kernel
theorem d2_54 : dc cd2 54 .dup 1 := by decide +kernel
theorem d2_55 : dc cd2 55 (.iconst 2) 1 := by decide +kernel
theorem d2_56 : dc cd2 56 (.iload_n 3) 1 := by decide +kernel
theorem d2_57 : dc cd2 57 .castore 1 := by decide +kernel
theorem d2_58 : dc cd2 58 .areturn 1 := by decide +kernel
theorem d2_59 : dc cd2 59 (.iload_n 0) 1 := by decide +kernel
theorem d2_60 : dc cd2 60 (.iconst 4) 1 := by decide +kernel
theorem d2_61 : dc cd2 61 (.if_icmp .ne 24) 3 := by decide +kernel
theorem d2_64 : dc cd2 64 (.iconst 4) 1 := by decide +kernel
theorem d2_65 : dc cd2 65 (.newarray .char) 2 := by decide +kernel
theorem d2_67 : dc cd2 67 .dup 1 := by decide +kernel
theorem d2_68 : dc cd2 68 (.iconst 0) 1 := by decide +kernel
theorem d2_69 : dc cd2 69 (.iload_n 1) 1 := by decide +kernel
theorem d2_70 : dc cd2 70 .castore 1 := by decide +kernel
theorem d2_71 : dc cd2 71 .dup 1 := by decide +kernel
theorem d2_72 : dc cd2 72 (.iconst 1) 1 := by decide +kernel
theorem d2_73 : dc cd2 73 (.iload_n 2) 1 := by decide +kernel
theorem d2_74 : dc cd2 74 .castore 1 := by decide +kernel
theorem d2_75 : dc cd2 75 .dup 1 := by decide +kernel
theorem d2_76 : dc cd2 76 (.iconst 2) 1 := by decide +kernel
theorem d2_77 : dc cd2 77 (.iload_n 3) 1 := by decide +kernel
theorem d2_78 : dc cd2 78 .castore 1 := by decide +kernel
theorem d2_79 : dc cd2 79 .dup 1 := by decide +kernel
theorem d2_80 : dc cd2 80 (.iconst 3) 1 := by decide +kernel
theorem d2_81 : dc cd2 81 (.iload 4) 2 := by decide +kernel
theorem d2_83 : dc cd2 83 .castore 1 := by decide +kernel
theorem d2_84 : dc cd2 84 .areturn 1 := by decide +kernel
theorem d2_85 : dc cd2 85 (.iconst 5) 1 := by decide +kernel
theorem d2_86 : dc cd2 86 (.newarray .char) 2 := by decide +kernel
theorem d2_88 : dc cd2 88 .dup 1 := by decide +kernel
theorem d2_89 : dc cd2 89 (.iconst 0) 1 := by decide +kernel
theorem d2_90 : dc cd2 90 (.iload_n 1) 1 := by decide +kernel
theorem d2_91 : dc cd2 91 .castore 1 := by decide +kernel
theorem d2_92 : dc cd2 92 .dup 1 := by decide +kernel
theorem d2_93 : dc cd2 93 (.iconst 1) 1 := by decide +kernel
theorem d2_94 : dc cd2 94 (.iload_n 2) 1 := by decide +kernel
theorem d2_95 : dc cd2 95 .castore 1 := by decide +kernel
theorem d2_96 : dc cd2 96 .dup 1 := by decide +kernel
theorem d2_97 : dc cd2 97 (.iconst 2) 1 := by decide +kernel
theorem d2_98 : dc cd2 98 (.iload_n 3) 1 := by decide +kernel
theorem d2_99 : dc cd2 99 .castore 1 := by decide +kernel
theorem d2_100 : dc cd2 100 .dup 1 := by decide +kernel
theorem d2_101 : dc cd2 101 (.iconst 3) 1 := by decide +kernel
theorem d2_102 : dc cd2 102 (.iload 4) 2 := by decide +kernel
theorem d2_104 : dc cd2 104 .castore 1 := by decide +kernel
theorem d2_105 : dc cd2 105 .dup 1 := by decide +kernel
theorem d2_106 : dc cd2 106 (.iconst 4) 1 := by decide +kernel
theorem d2_107 : dc cd2 107 (.iload 5) 2 := by decide +kernel
theorem d2_109 : dc cd2 109 .castore 1 := by decide +kernel
theorem d2_110 : dc cd2 110 .areturn 1 := by decide +kernel
theorem own_ef_own_pat_0 (m : MethodId) (x1 : Int32) (x2 : Int32) (x3 : Int32) (x4 : Int32) (x5 : Int32) : entryFrame m #[(.int 0), (.int x1), (.int x2), (.int x3), (.int x4), (.int x5)] 6 = mkF m 0 #[.val (.int 0), .val (.int x1), .val (.int x2), .val (.int x3), .val (.int x4), .val (.int x5)] [] := by first | (simp [entryFrame, mkF, argsToLocals, Value.category]; done) | rfl
def Q_own_pat_0 (Z : State) (c0 : Int32) (c1 : Int32) (c2 : Int32) (c3 : Int32) (c4 : Int32) (h0 : Heap) (n0 : Nat) (v : Option Value) (h : Heap) (L : List Loc) : Prop := ∃ r : Addr, ∃ kr : ClassId, v = some (.ref r) ∧ Fr n0 L ∧ Keep h0 h [] ∧ n0 ≤ r ∧ h0.size ≤ r ∧ Arv Z h r kr .char (0 : Int32) [] (.int 0)
theorem own_pat_0 (l : Launch) (Z : State) (a0 : Array Value) (hw : ∀ d ∈ tables_1, d.before a0 Z = true) (ws : List Jvm.Cond) (c0 : Int32) (c1 : Int32) (c2 : Int32) (c3 : Int32) (c4 : Int32) (h0 : Heap) (n0 : Nat) (Z0 : n0 ≤ h0.size) (hch0 : own_ch c0) (hch1 : own_ch c1) (hch2 : own_ch c2) (hch3 : own_ch c3) (hch4 : own_ch c4) :
    own_Met l Z mn37 method_3_code 6 (some (.array .char)) ws rm21 #[(.int 0), (.int c0), (.int c1), (.int c2), (.int c3), (.int c4)] h0 (Q_own_pat_0 Z c0 c1 c2 c3 c4 h0 n0) := by
  refine own_start (plainFor_of_name own_pn8) fun p e s m below meth c s₁ Bd hx hby hml hZ hown hnm X0 e0 => ?_
  have H := @own_hw Z a0 hw
  have D := @hb _ _ hby
  have hown : s.vm.findClass "backstitch/NeedleOfPinLaw" = some m.cls := hown
  have N0 := Fr.nil n0
  have K0 := Keep.refl h0 []
  rw [own_ef_own_pat_0 m c0 c1 c2 c3 c4]
  refine gb s₁ m 5 #[vi 0, vi c0, vi c1, vi c2, vi c3, vi c4] [(.int 0)] (fun u k => XS.iloadN X0.here hx rfl (D d2_0) rfl (XS.ifNo X0.here hx rfl (D d2_1) rfl (XT.i0_ne_f (by decide)) (XT.iconstV X0.here hx rfl (0 : Int32) (D d2_4) (by decide) k))) ?_
  obtain ⟨T1, h1, k1, X1, e1, E1, A1, st1⟩ := newP X0 hx hZ (H 9 rfl) e0 (g := (mkF m 5 #[vi 0, vi c0, vi c1, vi c2, vi c3, vi c4] [(.int 0)])) rfl (D d2_5) rfl (by decide) (cap := 0) (by decide) (by decide) (by decide) (by decide)
  obtain ⟨b1, g1⟩ : ∃ z, z = h0.size := ⟨_, rfl⟩
  rw [← g1] at A1 st1
  have gb1 : n0 ≤ b1 := Nat.le_trans Z0 (Nat.le_of_eq g1.symm)
  have sz1 : h0.size ≤ b1 := Nat.le_trans K0.1 (Nat.le_of_eq g1.symm)
  have Z1 : n0 ≤ h1.size := Nat.le_trans Z0 E1.1
  have K1 := K0.ext E1
  have V1 : Arv Z h1 b1 k1 .char (0 : Int32) [] (.int 0) := (Arv.new A1 (by decide)).pad (pad_rep [] (.int 0) 0)
  refine gb T1 m 7 #[vi 0, vi c0, vi c1, vi c2, vi c3, vi c4] [(.ref b1)] st1 ?_
  clear st1
  obtain ⟨fs, hr, hrun, hended, hW, hsame⟩ := X1.leave (v := some (.ref b1)) (fun h => by rw [Bd.returns] at h; cases h)
  refine ⟨_, _, retOut X1 hx (t := (.array .char)) (i := .areturn) Bd.returns rfl (Or.inr (Or.inr (Or.inr (Or.inr ⟨rfl, rfl, rfl⟩)))) (D d2_7) hr, hrun, hended, _, _, rfl, ?_, ⟨_, rfl⟩, hW, hsame.mono (by decide) (by decide)⟩
  show Q_own_pat_0 Z c0 c1 c2 c3 c4 h0 n0 _ T1.heap _
  rw [e1]
  exact ⟨b1, k1, rfl, N0, K1, gb1, sz1, V1⟩
theorem own_ef_own_pat_1 (m : MethodId) (x1 : Int32) (x2 : Int32) (x3 : Int32) (x4 : Int32) (x5 : Int32) : entryFrame m #[(.int 1), (.int x1), (.int x2), (.int x3), (.int x4), (.int x5)] 6 = mkF m 0 #[.val (.int 1), .val (.int x1), .val (.int x2), .val (.int x3), .val (.int x4), .val (.int x5)] [] := by first | (simp [entryFrame, mkF, argsToLocals, Value.category]; done) | rfl
def Q_own_pat_1 (Z : State) (c0 : Int32) (c1 : Int32) (c2 : Int32) (c3 : Int32) (c4 : Int32) (h0 : Heap) (n0 : Nat) (v : Option Value) (h : Heap) (L : List Loc) : Prop := ∃ r : Addr, ∃ kr : ClassId, v = some (.ref r) ∧ Fr n0 L ∧ Keep h0 h [] ∧ n0 ≤ r ∧ h0.size ≤ r ∧ Arv Z h r kr .char (1 : Int32) [(.int c0)] (.int 0)
theorem own_pat_1 (l : Launch) (Z : State) (a0 : Array Value) (hw : ∀ d ∈ tables_1, d.before a0 Z = true) (ws : List Jvm.Cond) (c0 : Int32) (c1 : Int32) (c2 : Int32) (c3 : Int32) (c4 : Int32) (h0 : Heap) (n0 : Nat) (Z0 : n0 ≤ h0.size) (hch0 : own_ch c0) (hch1 : own_ch c1) (hch2 : own_ch c2) (hch3 : own_ch c3) (hch4 : own_ch c4) :
    own_Met l Z mn37 method_3_code 6 (some (.array .char)) ws rm21 #[(.int 1), (.int c0), (.int c1), (.int c2), (.int c3), (.int c4)] h0 (Q_own_pat_1 Z c0 c1 c2 c3 c4 h0 n0) := by
  refine own_start (plainFor_of_name own_pn8) fun p e s m below meth c s₁ Bd hx hby hml hZ hown hnm X0 e0 => ?_
  have H := @own_hw Z a0 hw
  have D := @hb _ _ hby
  have hown : s.vm.findClass "backstitch/NeedleOfPinLaw" = some m.cls := hown
  have N0 := Fr.nil n0
  have K0 := Keep.refl h0 []
  rw [own_ef_own_pat_1 m c0 c1 c2 c3 c4]
  refine gb s₁ m 14 #[vi 1, vi c0, vi c1, vi c2, vi c3, vi c4] [(.int 1)] (fun u k => XS.iloadN X0.here hx rfl (D d2_0) rfl (XS.ifYes X0.here hx rfl (pc0 := 1) (pc' := 8) rfl (D d2_1) rfl (XT.i0_ne_t (by decide)) (by decide) (by decide) (XS.iloadN X0.here hx rfl (D d2_8) rfl (XT.iconstV X0.here hx rfl (1 : Int32) (D d2_9) (by decide) (XS.icmpNo X0.here hx rfl (D d2_10) rfl (XT.ii_ne_f (by decide)) (XT.iconstV X0.here hx rfl (1 : Int32) (D d2_13) (by decide) k)))))) ?_
  obtain ⟨T1, h1, k1, X1, e1, E1, A1, st1⟩ := newP X0 hx hZ (H 9 rfl) e0 (g := (mkF m 14 #[vi 1, vi c0, vi c1, vi c2, vi c3, vi c4] [(.int 1)])) rfl (D d2_14) rfl (by decide) (cap := 1) (by decide) (by decide) (by decide) (by decide)
  obtain ⟨b1, g1⟩ : ∃ z, z = h0.size := ⟨_, rfl⟩
  rw [← g1] at A1 st1
  have gb1 : n0 ≤ b1 := Nat.le_trans Z0 (Nat.le_of_eq g1.symm)
  have sz1 : h0.size ≤ b1 := Nat.le_trans K0.1 (Nat.le_of_eq g1.symm)
  have Z1 : n0 ≤ h1.size := Nat.le_trans Z0 E1.1
  have K1 := K0.ext E1
  have V1 : Arv Z h1 b1 k1 .char (1 : Int32) [(.int 0)] (.int 0) := (Arv.new A1 (by decide)).pad (pad_rep [] (.int 0) 1)
  refine gb T1 m 16 #[vi 1, vi c0, vi c1, vi c2, vi c3, vi c4] [(.ref b1)] st1 ?_
  clear st1
  refine gb T1 m 19 #[vi 1, vi c0, vi c1, vi c2, vi c3, vi c4] [(.int c0), (.int 0), (.ref b1), (.ref b1)] (fun u k => XS.dup X1.here hx rfl (D d2_16) rfl rfl (XT.iconstV X1.here hx rfl (0 : Int32) (D d2_17) (by decide) (XS.iloadN X1.here hx rfl (D d2_18) rfl k))) ?_
  obtain ⟨cl2, Ar2, aq2, aS2, aM2, aH2, aG2⟩ := id V1
  obtain ⟨T3, h3, X3, e3, W3, st3⟩ := stC X1 hx hZ e1 Ar2 (j := (0 : Int32)) (inb_of aS2 ⟨by decide, by decide⟩) (g := (mkF m 19 #[vi 1, vi c0, vi c1, vi c2, vi c3, vi c4] [(.int c0), (.int 0), (.ref b1), (.ref b1)])) rfl rfl (D d2_19)
  have Z3 : n0 ≤ h3.size := Nat.le_trans Z1 (Keep.of_wr W3).1
  have K3 := K1.wr W3 (Or.inr sz1)
  have N3 := Fr.snoc X3 N0 gb1
  have V3 : Arv Z h3 b1 k1 .char (1 : Int32) [(.int (nar .char c0))] (.int 0) := Arv.set Ar2 aq2 aS2 aM2 aH2 aG2 (fits_nar_char _) W3 0 rfl (Nat.le_of_ble_eq_true rfl)
  rw [hch0.2] at V3
  refine gb T3 m 20 #[vi 1, vi c0, vi c1, vi c2, vi c3, vi c4] [(.ref b1)] st3 ?_
  clear st3
  obtain ⟨fs, hr, hrun, hended, hW, hsame⟩ := X3.leave (v := some (.ref b1)) (fun h => by rw [Bd.returns] at h; cases h)
  refine ⟨_, _, retOut X3 hx (t := (.array .char)) (i := .areturn) Bd.returns rfl (Or.inr (Or.inr (Or.inr (Or.inr ⟨rfl, rfl, rfl⟩)))) (D d2_20) hr, hrun, hended, _, _, rfl, ?_, ⟨_, rfl⟩, hW, hsame.mono (by decide) (by decide)⟩
  show Q_own_pat_1 Z c0 c1 c2 c3 c4 h0 n0 _ T3.heap _
  rw [e3]
  exact ⟨b1, k1, rfl, N3, K3, gb1, sz1, V3⟩
theorem own_ef_own_pat_2 (m : MethodId) (x1 : Int32) (x2 : Int32) (x3 : Int32) (x4 : Int32) (x5 : Int32) : entryFrame m #[(.int 2), (.int x1), (.int x2), (.int x3), (.int x4), (.int x5)] 6 = mkF m 0 #[.val (.int 2), .val (.int x1), .val (.int x2), .val (.int x3), .val (.int x4), .val (.int x5)] [] := by first | (simp [entryFrame, mkF, argsToLocals, Value.category]; done) | rfl
def Q_own_pat_2 (Z : State) (c0 : Int32) (c1 : Int32) (c2 : Int32) (c3 : Int32) (c4 : Int32) (h0 : Heap) (n0 : Nat) (v : Option Value) (h : Heap) (L : List Loc) : Prop := ∃ r : Addr, ∃ kr : ClassId, v = some (.ref r) ∧ Fr n0 L ∧ Keep h0 h [] ∧ n0 ≤ r ∧ h0.size ≤ r ∧ Arv Z h r kr .char (2 : Int32) [(.int c0), (.int c1)] (.int 0)
theorem own_pat_2 (l : Launch) (Z : State) (a0 : Array Value) (hw : ∀ d ∈ tables_1, d.before a0 Z = true) (ws : List Jvm.Cond) (c0 : Int32) (c1 : Int32) (c2 : Int32) (c3 : Int32) (c4 : Int32) (h0 : Heap) (n0 : Nat) (Z0 : n0 ≤ h0.size) (hch0 : own_ch c0) (hch1 : own_ch c1) (hch2 : own_ch c2) (hch3 : own_ch c3) (hch4 : own_ch c4) :
    own_Met l Z mn37 method_3_code 6 (some (.array .char)) ws rm21 #[(.int 2), (.int c0), (.int c1), (.int c2), (.int c3), (.int c4)] h0 (Q_own_pat_2 Z c0 c1 c2 c3 c4 h0 n0) := by
  refine own_start (plainFor_of_name own_pn8) fun p e s m below meth c s₁ Bd hx hby hml hZ hown hnm X0 e0 => ?_
  have H := @own_hw Z a0 hw
  have D := @hb _ _ hby
  have hown : s.vm.findClass "backstitch/NeedleOfPinLaw" = some m.cls := hown
  have N0 := Fr.nil n0
  have K0 := Keep.refl h0 []
  rw [own_ef_own_pat_2 m c0 c1 c2 c3 c4]
  refine gb s₁ m 27 #[vi 2, vi c0, vi c1, vi c2, vi c3, vi c4] [(.int 2)] (fun u k => XS.iloadN X0.here hx rfl (D d2_0) rfl (XS.ifYes X0.here hx rfl (pc0 := 1) (pc' := 8) rfl (D d2_1) rfl (XT.i0_ne_t (by decide)) (by decide) (by decide) (XS.iloadN X0.here hx rfl (D d2_8) rfl (XT.iconstV X0.here hx rfl (1 : Int32) (D d2_9) (by decide) (XS.icmpYes X0.here hx rfl (pc0 := 10) (pc' := 21) rfl (D d2_10) rfl (XT.ii_ne_t (by decide)) (by decide) (by decide) (XS.iloadN X0.here hx rfl (D d2_21) rfl (XT.iconstV X0.here hx rfl (2 : Int32) (D d2_22) (by decide) (XS.icmpNo X0.here hx rfl (D d2_23) rfl (XT.ii_ne_f (by decide)) (XT.iconstV X0.here hx rfl (2 : Int32) (D d2_26) (by decide) k))))))))) ?_
  obtain ⟨T1, h1, k1, X1, e1, E1, A1, st1⟩ := newP X0 hx hZ (H 9 rfl) e0 (g := (mkF m 27 #[vi 2, vi c0, vi c1, vi c2, vi c3, vi c4] [(.int 2)])) rfl (D d2_27) rfl (by decide) (cap := 2) (by decide) (by decide) (by decide) (by decide)
  obtain ⟨b1, g1⟩ : ∃ z, z = h0.size := ⟨_, rfl⟩
  rw [← g1] at A1 st1
  have gb1 : n0 ≤ b1 := Nat.le_trans Z0 (Nat.le_of_eq g1.symm)
  have sz1 : h0.size ≤ b1 := Nat.le_trans K0.1 (Nat.le_of_eq g1.symm)
  have Z1 : n0 ≤ h1.size := Nat.le_trans Z0 E1.1
  have K1 := K0.ext E1
  have V1 : Arv Z h1 b1 k1 .char (2 : Int32) [(.int 0), (.int 0)] (.int 0) := (Arv.new A1 (by decide)).pad (pad_rep [] (.int 0) 2)
  refine gb T1 m 29 #[vi 2, vi c0, vi c1, vi c2, vi c3, vi c4] [(.ref b1)] st1 ?_
  clear st1
  refine gb T1 m 32 #[vi 2, vi c0, vi c1, vi c2, vi c3, vi c4] [(.int c0), (.int 0), (.ref b1), (.ref b1)] (fun u k => XS.dup X1.here hx rfl (D d2_29) rfl rfl (XT.iconstV X1.here hx rfl (0 : Int32) (D d2_30) (by decide) (XS.iloadN X1.here hx rfl (D d2_31) rfl k))) ?_
  obtain ⟨cl2, Ar2, aq2, aS2, aM2, aH2, aG2⟩ := id V1
  obtain ⟨T3, h3, X3, e3, W3, st3⟩ := stC X1 hx hZ e1 Ar2 (j := (0 : Int32)) (inb_of aS2 ⟨by decide, by decide⟩) (g := (mkF m 32 #[vi 2, vi c0, vi c1, vi c2, vi c3, vi c4] [(.int c0), (.int 0), (.ref b1), (.ref b1)])) rfl rfl (D d2_32)
  have Z3 : n0 ≤ h3.size := Nat.le_trans Z1 (Keep.of_wr W3).1
  have K3 := K1.wr W3 (Or.inr sz1)
  have N3 := Fr.snoc X3 N0 gb1
  have V3 : Arv Z h3 b1 k1 .char (2 : Int32) [(.int (nar .char c0)), (.int 0)] (.int 0) := Arv.set Ar2 aq2 aS2 aM2 aH2 aG2 (fits_nar_char _) W3 0 rfl (Nat.le_of_ble_eq_true rfl)
  rw [hch0.2] at V3
  refine gb T3 m 33 #[vi 2, vi c0, vi c1, vi c2, vi c3, vi c4] [(.ref b1)] st3 ?_
  clear st3
  refine gb T3 m 36 #[vi 2, vi c0, vi c1, vi c2, vi c3, vi c4] [(.int c1), (.int 1), (.ref b1), (.ref b1)] (fun u k => XS.dup X3.here hx rfl (D d2_33) rfl rfl (XT.iconstV X3.here hx rfl (1 : Int32) (D d2_34) (by decide) (XS.iloadN X3.here hx rfl (D d2_35) rfl k))) ?_
  obtain ⟨cl4, Ar4, aq4, aS4, aM4, aH4, aG4⟩ := id V3
  obtain ⟨T5, h5, X5, e5, W5, st5⟩ := stC X3 hx hZ e3 Ar4 (j := (1 : Int32)) (inb_of aS4 ⟨by decide, by decide⟩) (g := (mkF m 36 #[vi 2, vi c0, vi c1, vi c2, vi c3, vi c4] [(.int c1), (.int 1), (.ref b1), (.ref b1)])) rfl rfl (D d2_36)
  have Z5 : n0 ≤ h5.size := Nat.le_trans Z3 (Keep.of_wr W5).1
  have K5 := K3.wr W5 (Or.inr sz1)
  have N5 := Fr.snoc X5 N3 gb1
  have V5 : Arv Z h5 b1 k1 .char (2 : Int32) [(.int c0), (.int (nar .char c1))] (.int 0) := Arv.set Ar4 aq4 aS4 aM4 aH4 aG4 (fits_nar_char _) W5 1 rfl (Nat.le_of_ble_eq_true rfl)
  rw [hch1.2] at V5
  refine gb T5 m 37 #[vi 2, vi c0, vi c1, vi c2, vi c3, vi c4] [(.ref b1)] st5 ?_
  clear st5
  obtain ⟨fs, hr, hrun, hended, hW, hsame⟩ := X5.leave (v := some (.ref b1)) (fun h => by rw [Bd.returns] at h; cases h)
  refine ⟨_, _, retOut X5 hx (t := (.array .char)) (i := .areturn) Bd.returns rfl (Or.inr (Or.inr (Or.inr (Or.inr ⟨rfl, rfl, rfl⟩)))) (D d2_37) hr, hrun, hended, _, _, rfl, ?_, ⟨_, rfl⟩, hW, hsame.mono (by decide) (by decide)⟩
  show Q_own_pat_2 Z c0 c1 c2 c3 c4 h0 n0 _ T5.heap _
  rw [e5]
  exact ⟨b1, k1, rfl, N5, K5, gb1, sz1, V5⟩
theorem own_ef_own_pat_3 (m : MethodId) (x1 : Int32) (x2 : Int32) (x3 : Int32) (x4 : Int32) (x5 : Int32) : entryFrame m #[(.int 3), (.int x1), (.int x2), (.int x3), (.int x4), (.int x5)] 6 = mkF m 0 #[.val (.int 3), .val (.int x1), .val (.int x2), .val (.int x3), .val (.int x4), .val (.int x5)] [] := by first | (simp [entryFrame, mkF, argsToLocals, Value.category]; done) | rfl
def Q_own_pat_3 (Z : State) (c0 : Int32) (c1 : Int32) (c2 : Int32) (c3 : Int32) (c4 : Int32) (h0 : Heap) (n0 : Nat) (v : Option Value) (h : Heap) (L : List Loc) : Prop := ∃ r : Addr, ∃ kr : ClassId, v = some (.ref r) ∧ Fr n0 L ∧ Keep h0 h [] ∧ n0 ≤ r ∧ h0.size ≤ r ∧ Arv Z h r kr .char (3 : Int32) [(.int c0), (.int c1), (.int c2)] (.int 0)
theorem own_pat_3 (l : Launch) (Z : State) (a0 : Array Value) (hw : ∀ d ∈ tables_1, d.before a0 Z = true) (ws : List Jvm.Cond) (c0 : Int32) (c1 : Int32) (c2 : Int32) (c3 : Int32) (c4 : Int32) (h0 : Heap) (n0 : Nat) (Z0 : n0 ≤ h0.size) (hch0 : own_ch c0) (hch1 : own_ch c1) (hch2 : own_ch c2) (hch3 : own_ch c3) (hch4 : own_ch c4) :
    own_Met l Z mn37 method_3_code 6 (some (.array .char)) ws rm21 #[(.int 3), (.int c0), (.int c1), (.int c2), (.int c3), (.int c4)] h0 (Q_own_pat_3 Z c0 c1 c2 c3 c4 h0 n0) := by
  refine own_start (plainFor_of_name own_pn8) fun p e s m below meth c s₁ Bd hx hby hml hZ hown hnm X0 e0 => ?_
  have H := @own_hw Z a0 hw
  have D := @hb _ _ hby
  have hown : s.vm.findClass "backstitch/NeedleOfPinLaw" = some m.cls := hown
  have N0 := Fr.nil n0
  have K0 := Keep.refl h0 []
  rw [own_ef_own_pat_3 m c0 c1 c2 c3 c4]
  refine gb s₁ m 44 #[vi 3, vi c0, vi c1, vi c2, vi c3, vi c4] [(.int 3)] (fun u k => XS.iloadN X0.here hx rfl (D d2_0) rfl (XS.ifYes X0.here hx rfl (pc0 := 1) (pc' := 8) rfl (D d2_1) rfl (XT.i0_ne_t (by decide)) (by decide) (by decide) (XS.iloadN X0.here hx rfl (D d2_8) rfl (XT.iconstV X0.here hx rfl (1 : Int32) (D d2_9) (by decide) (XS.icmpYes X0.here hx rfl (pc0 := 10) (pc' := 21) rfl (D d2_10) rfl (XT.ii_ne_t (by decide)) (by decide) (by decide) (XS.iloadN X0.here hx rfl (D d2_21) rfl (XT.iconstV X0.here hx rfl (2 : Int32) (D d2_22) (by decide) (XS.icmpYes X0.here hx rfl (pc0 := 23) (pc' := 38) rfl (D d2_23) rfl (XT.ii_ne_t (by decide)) (by decide) (by decide) (XS.iloadN X0.here hx rfl (D d2_38) rfl (XT.iconstV X0.here hx rfl (3 : Int32) (D d2_39) (by decide) (XS.icmpNo X0.here hx rfl (D d2_40) rfl (XT.ii_ne_f (by decide)) (XT.iconstV X0.here hx rfl (3 : Int32) (D d2_43) (by decide) k)))))))))))) ?_
  obtain ⟨T1, h1, k1, X1, e1, E1, A1, st1⟩ := newP X0 hx hZ (H 9 rfl) e0 (g := (mkF m 44 #[vi 3, vi c0, vi c1, vi c2, vi c3, vi c4] [(.int 3)])) rfl (D d2_44) rfl (by decide) (cap := 3) (by decide) (by decide) (by decide) (by decide)
  obtain ⟨b1, g1⟩ : ∃ z, z = h0.size := ⟨_, rfl⟩
  rw [← g1] at A1 st1
  have gb1 : n0 ≤ b1 := Nat.le_trans Z0 (Nat.le_of_eq g1.symm)
  have sz1 : h0.size ≤ b1 := Nat.le_trans K0.1 (Nat.le_of_eq g1.symm)
  have Z1 : n0 ≤ h1.size := Nat.le_trans Z0 E1.1
  have K1 := K0.ext E1
  have V1 : Arv Z h1 b1 k1 .char (3 : Int32) [(.int 0), (.int 0), (.int 0)] (.int 0) := (Arv.new A1 (by decide)).pad (pad_rep [] (.int 0) 3)
  refine gb T1 m 46 #[vi 3, vi c0, vi c1, vi c2, vi c3, vi c4] [(.ref b1)] st1 ?_
  clear st1
  refine gb T1 m 49 #[vi 3, vi c0, vi c1, vi c2, vi c3, vi c4] [(.int c0), (.int 0), (.ref b1), (.ref b1)] (fun u k => XS.dup X1.here hx rfl (D d2_46) rfl rfl (XT.iconstV X1.here hx rfl (0 : Int32) (D d2_47) (by decide) (XS.iloadN X1.here hx rfl (D d2_48) rfl k))) ?_
  obtain ⟨cl2, Ar2, aq2, aS2, aM2, aH2, aG2⟩ := id V1
  obtain ⟨T3, h3, X3, e3, W3, st3⟩ := stC X1 hx hZ e1 Ar2 (j := (0 : Int32)) (inb_of aS2 ⟨by decide, by decide⟩) (g := (mkF m 49 #[vi 3, vi c0, vi c1, vi c2, vi c3, vi c4] [(.int c0), (.int 0), (.ref b1), (.ref b1)])) rfl rfl (D d2_49)
  have Z3 : n0 ≤ h3.size := Nat.le_trans Z1 (Keep.of_wr W3).1
  have K3 := K1.wr W3 (Or.inr sz1)
  have N3 := Fr.snoc X3 N0 gb1
  have V3 : Arv Z h3 b1 k1 .char (3 : Int32) [(.int (nar .char c0)), (.int 0), (.int 0)] (.int 0) := Arv.set Ar2 aq2 aS2 aM2 aH2 aG2 (fits_nar_char _) W3 0 rfl (Nat.le_of_ble_eq_true rfl)
  rw [hch0.2] at V3
  refine gb T3 m 50 #[vi 3, vi c0, vi c1, vi c2, vi c3, vi c4] [(.ref b1)] st3 ?_
  clear st3
  refine gb T3 m 53 #[vi 3, vi c0, vi c1, vi c2, vi c3, vi c4] [(.int c1), (.int 1), (.ref b1), (.ref b1)] (fun u k => XS.dup X3.here hx rfl (D d2_50) rfl rfl (XT.iconstV X3.here hx rfl (1 : Int32) (D d2_51) (by decide) (XS.iloadN X3.here hx rfl (D d2_52) rfl k))) ?_
  obtain ⟨cl4, Ar4, aq4, aS4, aM4, aH4, aG4⟩ := id V3
  obtain ⟨T5, h5, X5, e5, W5, st5⟩ := stC X3 hx hZ e3 Ar4 (j := (1 : Int32)) (inb_of aS4 ⟨by decide, by decide⟩) (g := (mkF m 53 #[vi 3, vi c0, vi c1, vi c2, vi c3, vi c4] [(.int c1), (.int 1), (.ref b1), (.ref b1)])) rfl rfl (D d2_53)
  have Z5 : n0 ≤ h5.size := Nat.le_trans Z3 (Keep.of_wr W5).1
  have K5 := K3.wr W5 (Or.inr sz1)
  have N5 := Fr.snoc X5 N3 gb1
  have V5 : Arv Z h5 b1 k1 .char (3 : Int32) [(.int c0), (.int (nar .char c1)), (.int 0)] (.int 0) := Arv.set Ar4 aq4 aS4 aM4 aH4 aG4 (fits_nar_char _) W5 1 rfl (Nat.le_of_ble_eq_true rfl)
  rw [hch1.2] at V5
  refine gb T5 m 54 #[vi 3, vi c0, vi c1, vi c2, vi c3, vi c4] [(.ref b1)] st5 ?_
  clear st5
  refine gb T5 m 57 #[vi 3, vi c0, vi c1, vi c2, vi c3, vi c4] [(.int c2), (.int 2), (.ref b1), (.ref b1)] (fun u k => XS.dup X5.here hx rfl (D d2_54) rfl rfl (XT.iconstV X5.here hx rfl (2 : Int32) (D d2_55) (by decide) (XS.iloadN X5.here hx rfl (D d2_56) rfl k))) ?_
  obtain ⟨cl6, Ar6, aq6, aS6, aM6, aH6, aG6⟩ := id V5
  obtain ⟨T7, h7, X7, e7, W7, st7⟩ := stC X5 hx hZ e5 Ar6 (j := (2 : Int32)) (inb_of aS6 ⟨by decide, by decide⟩) (g := (mkF m 57 #[vi 3, vi c0, vi c1, vi c2, vi c3, vi c4] [(.int c2), (.int 2), (.ref b1), (.ref b1)])) rfl rfl (D d2_57)
  have Z7 : n0 ≤ h7.size := Nat.le_trans Z5 (Keep.of_wr W7).1
  have K7 := K5.wr W7 (Or.inr sz1)
  have N7 := Fr.snoc X7 N5 gb1
  have V7 : Arv Z h7 b1 k1 .char (3 : Int32) [(.int c0), (.int c1), (.int (nar .char c2))] (.int 0) := Arv.set Ar6 aq6 aS6 aM6 aH6 aG6 (fits_nar_char _) W7 2 rfl (Nat.le_of_ble_eq_true rfl)
  rw [hch2.2] at V7
  refine gb T7 m 58 #[vi 3, vi c0, vi c1, vi c2, vi c3, vi c4] [(.ref b1)] st7 ?_
  clear st7
  obtain ⟨fs, hr, hrun, hended, hW, hsame⟩ := X7.leave (v := some (.ref b1)) (fun h => by rw [Bd.returns] at h; cases h)
  refine ⟨_, _, retOut X7 hx (t := (.array .char)) (i := .areturn) Bd.returns rfl (Or.inr (Or.inr (Or.inr (Or.inr ⟨rfl, rfl, rfl⟩)))) (D d2_58) hr, hrun, hended, _, _, rfl, ?_, ⟨_, rfl⟩, hW, hsame.mono (by decide) (by decide)⟩
  show Q_own_pat_3 Z c0 c1 c2 c3 c4 h0 n0 _ T7.heap _
  rw [e7]
  exact ⟨b1, k1, rfl, N7, K7, gb1, sz1, V7⟩
theorem own_ef_own_pat_4 (m : MethodId) (x1 : Int32) (x2 : Int32) (x3 : Int32) (x4 : Int32) (x5 : Int32) : entryFrame m #[(.int 4), (.int x1), (.int x2), (.int x3), (.int x4), (.int x5)] 6 = mkF m 0 #[.val (.int 4), .val (.int x1), .val (.int x2), .val (.int x3), .val (.int x4), .val (.int x5)] [] := by first | (simp [entryFrame, mkF, argsToLocals, Value.category]; done) | rfl
def Q_own_pat_4 (Z : State) (c0 : Int32) (c1 : Int32) (c2 : Int32) (c3 : Int32) (c4 : Int32) (h0 : Heap) (n0 : Nat) (v : Option Value) (h : Heap) (L : List Loc) : Prop := ∃ r : Addr, ∃ kr : ClassId, v = some (.ref r) ∧ Fr n0 L ∧ Keep h0 h [] ∧ n0 ≤ r ∧ h0.size ≤ r ∧ Arv Z h r kr .char (4 : Int32) [(.int c0), (.int c1), (.int c2), (.int c3)] (.int 0)
theorem own_pat_4 (l : Launch) (Z : State) (a0 : Array Value) (hw : ∀ d ∈ tables_1, d.before a0 Z = true) (ws : List Jvm.Cond) (c0 : Int32) (c1 : Int32) (c2 : Int32) (c3 : Int32) (c4 : Int32) (h0 : Heap) (n0 : Nat) (Z0 : n0 ≤ h0.size) (hch0 : own_ch c0) (hch1 : own_ch c1) (hch2 : own_ch c2) (hch3 : own_ch c3) (hch4 : own_ch c4) :
    own_Met l Z mn37 method_3_code 6 (some (.array .char)) ws rm21 #[(.int 4), (.int c0), (.int c1), (.int c2), (.int c3), (.int c4)] h0 (Q_own_pat_4 Z c0 c1 c2 c3 c4 h0 n0) := by
  refine own_start (plainFor_of_name own_pn8) fun p e s m below meth c s₁ Bd hx hby hml hZ hown hnm X0 e0 => ?_
  have H := @own_hw Z a0 hw
  have D := @hb _ _ hby
  have hown : s.vm.findClass "backstitch/NeedleOfPinLaw" = some m.cls := hown
  have N0 := Fr.nil n0
  have K0 := Keep.refl h0 []
  rw [own_ef_own_pat_4 m c0 c1 c2 c3 c4]
  refine gb s₁ m 64 #[vi 4, vi c0, vi c1, vi c2, vi c3, vi c4] [] (fun u k => XS.iloadN X0.here hx rfl (D d2_0) rfl (XS.ifYes X0.here hx rfl (pc0 := 1) (pc' := 8) rfl (D d2_1) rfl (XT.i0_ne_t (by decide)) (by decide) (by decide) (XS.iloadN X0.here hx rfl (D d2_8) rfl (XT.iconstV X0.here hx rfl (1 : Int32) (D d2_9) (by decide) (XS.icmpYes X0.here hx rfl (pc0 := 10) (pc' := 21) rfl (D d2_10) rfl (XT.ii_ne_t (by decide)) (by decide) (by decide) (XS.iloadN X0.here hx rfl (D d2_21) rfl (XT.iconstV X0.here hx rfl (2 : Int32) (D d2_22) (by decide) (XS.icmpYes X0.here hx rfl (pc0 := 23) (pc' := 38) rfl (D d2_23) rfl (XT.ii_ne_t (by decide)) (by decide) (by decide) (XS.iloadN X0.here hx rfl (D d2_38) rfl (XT.iconstV X0.here hx rfl (3 : Int32) (D d2_39) (by decide) (XS.icmpYes X0.here hx rfl (pc0 := 40) (pc' := 59) rfl (D d2_40) rfl (XT.ii_ne_t (by decide)) (by decide) (by decide) (XS.iloadN X0.here hx rfl (D d2_59) rfl (XT.iconstV X0.here hx rfl (4 : Int32) (D d2_60) (by decide) (XS.icmpNo X0.here hx rfl (D d2_61) rfl (XT.ii_ne_f (by decide)) k)))))))))))))) ?_
  refine gb s₁ m 65 #[vi 4, vi c0, vi c1, vi c2, vi c3, vi c4] [(.int 4)] (fun u k => XT.iconstV X0.here hx rfl (4 : Int32) (D d2_64) (by decide) k) ?_
  obtain ⟨T1, h1, k1, X1, e1, E1, A1, st1⟩ := newP X0 hx hZ (H 9 rfl) e0 (g := (mkF m 65 #[vi 4, vi c0, vi c1, vi c2, vi c3, vi c4] [(.int 4)])) rfl (D d2_65) rfl (by decide) (cap := 4) (by decide) (by decide) (by decide) (by decide)
  obtain ⟨b1, g1⟩ : ∃ z, z = h0.size := ⟨_, rfl⟩
  rw [← g1] at A1 st1
  have gb1 : n0 ≤ b1 := Nat.le_trans Z0 (Nat.le_of_eq g1.symm)
  have sz1 : h0.size ≤ b1 := Nat.le_trans K0.1 (Nat.le_of_eq g1.symm)
  have Z1 : n0 ≤ h1.size := Nat.le_trans Z0 E1.1
  have K1 := K0.ext E1
  have V1 : Arv Z h1 b1 k1 .char (4 : Int32) [(.int 0), (.int 0), (.int 0), (.int 0)] (.int 0) := (Arv.new A1 (by decide)).pad (pad_rep [] (.int 0) 4)
  refine gb T1 m 67 #[vi 4, vi c0, vi c1, vi c2, vi c3, vi c4] [(.ref b1)] st1 ?_
  clear st1
  refine gb T1 m 70 #[vi 4, vi c0, vi c1, vi c2, vi c3, vi c4] [(.int c0), (.int 0), (.ref b1), (.ref b1)] (fun u k => XS.dup X1.here hx rfl (D d2_67) rfl rfl (XT.iconstV X1.here hx rfl (0 : Int32) (D d2_68) (by decide) (XS.iloadN X1.here hx rfl (D d2_69) rfl k))) ?_
  obtain ⟨cl2, Ar2, aq2, aS2, aM2, aH2, aG2⟩ := id V1
  obtain ⟨T3, h3, X3, e3, W3, st3⟩ := stC X1 hx hZ e1 Ar2 (j := (0 : Int32)) (inb_of aS2 ⟨by decide, by decide⟩) (g := (mkF m 70 #[vi 4, vi c0, vi c1, vi c2, vi c3, vi c4] [(.int c0), (.int 0), (.ref b1), (.ref b1)])) rfl rfl (D d2_70)
  have Z3 : n0 ≤ h3.size := Nat.le_trans Z1 (Keep.of_wr W3).1
  have K3 := K1.wr W3 (Or.inr sz1)
  have N3 := Fr.snoc X3 N0 gb1
  have V3 : Arv Z h3 b1 k1 .char (4 : Int32) [(.int (nar .char c0)), (.int 0), (.int 0), (.int 0)] (.int 0) := Arv.set Ar2 aq2 aS2 aM2 aH2 aG2 (fits_nar_char _) W3 0 rfl (Nat.le_of_ble_eq_true rfl)
  rw [hch0.2] at V3
  refine gb T3 m 71 #[vi 4, vi c0, vi c1, vi c2, vi c3, vi c4] [(.ref b1)] st3 ?_
  clear st3
  refine gb T3 m 74 #[vi 4, vi c0, vi c1, vi c2, vi c3, vi c4] [(.int c1), (.int 1), (.ref b1), (.ref b1)] (fun u k => XS.dup X3.here hx rfl (D d2_71) rfl rfl (XT.iconstV X3.here hx rfl (1 : Int32) (D d2_72) (by decide) (XS.iloadN X3.here hx rfl (D d2_73) rfl k))) ?_
  obtain ⟨cl4, Ar4, aq4, aS4, aM4, aH4, aG4⟩ := id V3
  obtain ⟨T5, h5, X5, e5, W5, st5⟩ := stC X3 hx hZ e3 Ar4 (j := (1 : Int32)) (inb_of aS4 ⟨by decide, by decide⟩) (g := (mkF m 74 #[vi 4, vi c0, vi c1, vi c2, vi c3, vi c4] [(.int c1), (.int 1), (.ref b1), (.ref b1)])) rfl rfl (D d2_74)
  have Z5 : n0 ≤ h5.size := Nat.le_trans Z3 (Keep.of_wr W5).1
  have K5 := K3.wr W5 (Or.inr sz1)
  have N5 := Fr.snoc X5 N3 gb1
  have V5 : Arv Z h5 b1 k1 .char (4 : Int32) [(.int c0), (.int (nar .char c1)), (.int 0), (.int 0)] (.int 0) := Arv.set Ar4 aq4 aS4 aM4 aH4 aG4 (fits_nar_char _) W5 1 rfl (Nat.le_of_ble_eq_true rfl)
  rw [hch1.2] at V5
  refine gb T5 m 75 #[vi 4, vi c0, vi c1, vi c2, vi c3, vi c4] [(.ref b1)] st5 ?_
  clear st5
  refine gb T5 m 78 #[vi 4, vi c0, vi c1, vi c2, vi c3, vi c4] [(.int c2), (.int 2), (.ref b1), (.ref b1)] (fun u k => XS.dup X5.here hx rfl (D d2_75) rfl rfl (XT.iconstV X5.here hx rfl (2 : Int32) (D d2_76) (by decide) (XS.iloadN X5.here hx rfl (D d2_77) rfl k))) ?_
  obtain ⟨cl6, Ar6, aq6, aS6, aM6, aH6, aG6⟩ := id V5
  obtain ⟨T7, h7, X7, e7, W7, st7⟩ := stC X5 hx hZ e5 Ar6 (j := (2 : Int32)) (inb_of aS6 ⟨by decide, by decide⟩) (g := (mkF m 78 #[vi 4, vi c0, vi c1, vi c2, vi c3, vi c4] [(.int c2), (.int 2), (.ref b1), (.ref b1)])) rfl rfl (D d2_78)
  have Z7 : n0 ≤ h7.size := Nat.le_trans Z5 (Keep.of_wr W7).1
  have K7 := K5.wr W7 (Or.inr sz1)
  have N7 := Fr.snoc X7 N5 gb1
  have V7 : Arv Z h7 b1 k1 .char (4 : Int32) [(.int c0), (.int c1), (.int (nar .char c2)), (.int 0)] (.int 0) := Arv.set Ar6 aq6 aS6 aM6 aH6 aG6 (fits_nar_char _) W7 2 rfl (Nat.le_of_ble_eq_true rfl)
  rw [hch2.2] at V7
  refine gb T7 m 79 #[vi 4, vi c0, vi c1, vi c2, vi c3, vi c4] [(.ref b1)] st7 ?_
  clear st7
  refine gb T7 m 83 #[vi 4, vi c0, vi c1, vi c2, vi c3, vi c4] [(.int c3), (.int 3), (.ref b1), (.ref b1)] (fun u k => XS.dup X7.here hx rfl (D d2_79) rfl rfl (XT.iconstV X7.here hx rfl (3 : Int32) (D d2_80) (by decide) (XS.iload X7.here hx rfl (D d2_81) rfl k))) ?_
  obtain ⟨cl8, Ar8, aq8, aS8, aM8, aH8, aG8⟩ := id V7
  obtain ⟨T9, h9, X9, e9, W9, st9⟩ := stC X7 hx hZ e7 Ar8 (j := (3 : Int32)) (inb_of aS8 ⟨by decide, by decide⟩) (g := (mkF m 83 #[vi 4, vi c0, vi c1, vi c2, vi c3, vi c4] [(.int c3), (.int 3), (.ref b1), (.ref b1)])) rfl rfl (D d2_83)
  have Z9 : n0 ≤ h9.size := Nat.le_trans Z7 (Keep.of_wr W9).1
  have K9 := K7.wr W9 (Or.inr sz1)
  have N9 := Fr.snoc X9 N7 gb1
  have V9 : Arv Z h9 b1 k1 .char (4 : Int32) [(.int c0), (.int c1), (.int c2), (.int (nar .char c3))] (.int 0) := Arv.set Ar8 aq8 aS8 aM8 aH8 aG8 (fits_nar_char _) W9 3 rfl (Nat.le_of_ble_eq_true rfl)
  rw [hch3.2] at V9
  refine gb T9 m 84 #[vi 4, vi c0, vi c1, vi c2, vi c3, vi c4] [(.ref b1)] st9 ?_
  clear st9
  obtain ⟨fs, hr, hrun, hended, hW, hsame⟩ := X9.leave (v := some (.ref b1)) (fun h => by rw [Bd.returns] at h; cases h)
  refine ⟨_, _, retOut X9 hx (t := (.array .char)) (i := .areturn) Bd.returns rfl (Or.inr (Or.inr (Or.inr (Or.inr ⟨rfl, rfl, rfl⟩)))) (D d2_84) hr, hrun, hended, _, _, rfl, ?_, ⟨_, rfl⟩, hW, hsame.mono (by decide) (by decide)⟩
  show Q_own_pat_4 Z c0 c1 c2 c3 c4 h0 n0 _ T9.heap _
  rw [e9]
  exact ⟨b1, k1, rfl, N9, K9, gb1, sz1, V9⟩
theorem own_ef_own_pat_5 (m : MethodId) (x1 : Int32) (x2 : Int32) (x3 : Int32) (x4 : Int32) (x5 : Int32) : entryFrame m #[(.int 5), (.int x1), (.int x2), (.int x3), (.int x4), (.int x5)] 6 = mkF m 0 #[.val (.int 5), .val (.int x1), .val (.int x2), .val (.int x3), .val (.int x4), .val (.int x5)] [] := by first | (simp [entryFrame, mkF, argsToLocals, Value.category]; done) | rfl
def Q_own_pat_5 (Z : State) (c0 : Int32) (c1 : Int32) (c2 : Int32) (c3 : Int32) (c4 : Int32) (h0 : Heap) (n0 : Nat) (v : Option Value) (h : Heap) (L : List Loc) : Prop := ∃ r : Addr, ∃ kr : ClassId, v = some (.ref r) ∧ Fr n0 L ∧ Keep h0 h [] ∧ n0 ≤ r ∧ h0.size ≤ r ∧ Arv Z h r kr .char (5 : Int32) [(.int c0), (.int c1), (.int c2), (.int c3), (.int c4)] (.int 0)
theorem own_pat_5 (l : Launch) (Z : State) (a0 : Array Value) (hw : ∀ d ∈ tables_1, d.before a0 Z = true) (ws : List Jvm.Cond) (c0 : Int32) (c1 : Int32) (c2 : Int32) (c3 : Int32) (c4 : Int32) (h0 : Heap) (n0 : Nat) (Z0 : n0 ≤ h0.size) (hch0 : own_ch c0) (hch1 : own_ch c1) (hch2 : own_ch c2) (hch3 : own_ch c3) (hch4 : own_ch c4) :
    own_Met l Z mn37 method_3_code 6 (some (.array .char)) ws rm21 #[(.int 5), (.int c0), (.int c1), (.int c2), (.int c3), (.int c4)] h0 (Q_own_pat_5 Z c0 c1 c2 c3 c4 h0 n0) := by
  refine own_start (plainFor_of_name own_pn8) fun p e s m below meth c s₁ Bd hx hby hml hZ hown hnm X0 e0 => ?_
  have H := @own_hw Z a0 hw
  have D := @hb _ _ hby
  have hown : s.vm.findClass "backstitch/NeedleOfPinLaw" = some m.cls := hown
  have N0 := Fr.nil n0
  have K0 := Keep.refl h0 []
  rw [own_ef_own_pat_5 m c0 c1 c2 c3 c4]
  refine gb s₁ m 85 #[vi 5, vi c0, vi c1, vi c2, vi c3, vi c4] [] (fun u k => XS.iloadN X0.here hx rfl (D d2_0) rfl (XS.ifYes X0.here hx rfl (pc0 := 1) (pc' := 8) rfl (D d2_1) rfl (XT.i0_ne_t (by decide)) (by decide) (by decide) (XS.iloadN X0.here hx rfl (D d2_8) rfl (XT.iconstV X0.here hx rfl (1 : Int32) (D d2_9) (by decide) (XS.icmpYes X0.here hx rfl (pc0 := 10) (pc' := 21) rfl (D d2_10) rfl (XT.ii_ne_t (by decide)) (by decide) (by decide) (XS.iloadN X0.here hx rfl (D d2_21) rfl (XT.iconstV X0.here hx rfl (2 : Int32) (D d2_22) (by decide) (XS.icmpYes X0.here hx rfl (pc0 := 23) (pc' := 38) rfl (D d2_23) rfl (XT.ii_ne_t (by decide)) (by decide) (by decide) (XS.iloadN X0.here hx rfl (D d2_38) rfl (XT.iconstV X0.here hx rfl (3 : Int32) (D d2_39) (by decide) (XS.icmpYes X0.here hx rfl (pc0 := 40) (pc' := 59) rfl (D d2_40) rfl (XT.ii_ne_t (by decide)) (by decide) (by decide) (XS.iloadN X0.here hx rfl (D d2_59) rfl (XT.iconstV X0.here hx rfl (4 : Int32) (D d2_60) (by decide) (XS.icmpYes X0.here hx rfl (pc0 := 61) (pc' := 85) rfl (D d2_61) rfl (XT.ii_ne_t (by decide)) (by decide) (by decide) k)))))))))))))) ?_
  refine gb s₁ m 86 #[vi 5, vi c0, vi c1, vi c2, vi c3, vi c4] [(.int 5)] (fun u k => XT.iconstV X0.here hx rfl (5 : Int32) (D d2_85) (by decide) k) ?_
  obtain ⟨T1, h1, k1, X1, e1, E1, A1, st1⟩ := newP X0 hx hZ (H 9 rfl) e0 (g := (mkF m 86 #[vi 5, vi c0, vi c1, vi c2, vi c3, vi c4] [(.int 5)])) rfl (D d2_86) rfl (by decide) (cap := 5) (by decide) (by decide) (by decide) (by decide)
  obtain ⟨b1, g1⟩ : ∃ z, z = h0.size := ⟨_, rfl⟩
  rw [← g1] at A1 st1
  have gb1 : n0 ≤ b1 := Nat.le_trans Z0 (Nat.le_of_eq g1.symm)
  have sz1 : h0.size ≤ b1 := Nat.le_trans K0.1 (Nat.le_of_eq g1.symm)
  have Z1 : n0 ≤ h1.size := Nat.le_trans Z0 E1.1
  have K1 := K0.ext E1
  have V1 : Arv Z h1 b1 k1 .char (5 : Int32) [(.int 0), (.int 0), (.int 0), (.int 0), (.int 0)] (.int 0) := (Arv.new A1 (by decide)).pad (pad_rep [] (.int 0) 5)
  refine gb T1 m 88 #[vi 5, vi c0, vi c1, vi c2, vi c3, vi c4] [(.ref b1)] st1 ?_
  clear st1
  refine gb T1 m 91 #[vi 5, vi c0, vi c1, vi c2, vi c3, vi c4] [(.int c0), (.int 0), (.ref b1), (.ref b1)] (fun u k => XS.dup X1.here hx rfl (D d2_88) rfl rfl (XT.iconstV X1.here hx rfl (0 : Int32) (D d2_89) (by decide) (XS.iloadN X1.here hx rfl (D d2_90) rfl k))) ?_
  obtain ⟨cl2, Ar2, aq2, aS2, aM2, aH2, aG2⟩ := id V1
  obtain ⟨T3, h3, X3, e3, W3, st3⟩ := stC X1 hx hZ e1 Ar2 (j := (0 : Int32)) (inb_of aS2 ⟨by decide, by decide⟩) (g := (mkF m 91 #[vi 5, vi c0, vi c1, vi c2, vi c3, vi c4] [(.int c0), (.int 0), (.ref b1), (.ref b1)])) rfl rfl (D d2_91)
  have Z3 : n0 ≤ h3.size := Nat.le_trans Z1 (Keep.of_wr W3).1
  have K3 := K1.wr W3 (Or.inr sz1)
  have N3 := Fr.snoc X3 N0 gb1
  have V3 : Arv Z h3 b1 k1 .char (5 : Int32) [(.int (nar .char c0)), (.int 0), (.int 0), (.int 0), (.int 0)] (.int 0) := Arv.set Ar2 aq2 aS2 aM2 aH2 aG2 (fits_nar_char _) W3 0 rfl (Nat.le_of_ble_eq_true rfl)
  rw [hch0.2] at V3
  refine gb T3 m 92 #[vi 5, vi c0, vi c1, vi c2, vi c3, vi c4] [(.ref b1)] st3 ?_
  clear st3
  refine gb T3 m 95 #[vi 5, vi c0, vi c1, vi c2, vi c3, vi c4] [(.int c1), (.int 1), (.ref b1), (.ref b1)] (fun u k => XS.dup X3.here hx rfl (D d2_92) rfl rfl (XT.iconstV X3.here hx rfl (1 : Int32) (D d2_93) (by decide) (XS.iloadN X3.here hx rfl (D d2_94) rfl k))) ?_
  obtain ⟨cl4, Ar4, aq4, aS4, aM4, aH4, aG4⟩ := id V3
  obtain ⟨T5, h5, X5, e5, W5, st5⟩ := stC X3 hx hZ e3 Ar4 (j := (1 : Int32)) (inb_of aS4 ⟨by decide, by decide⟩) (g := (mkF m 95 #[vi 5, vi c0, vi c1, vi c2, vi c3, vi c4] [(.int c1), (.int 1), (.ref b1), (.ref b1)])) rfl rfl (D d2_95)
  have Z5 : n0 ≤ h5.size := Nat.le_trans Z3 (Keep.of_wr W5).1
  have K5 := K3.wr W5 (Or.inr sz1)
  have N5 := Fr.snoc X5 N3 gb1
  have V5 : Arv Z h5 b1 k1 .char (5 : Int32) [(.int c0), (.int (nar .char c1)), (.int 0), (.int 0), (.int 0)] (.int 0) := Arv.set Ar4 aq4 aS4 aM4 aH4 aG4 (fits_nar_char _) W5 1 rfl (Nat.le_of_ble_eq_true rfl)
  rw [hch1.2] at V5
  refine gb T5 m 96 #[vi 5, vi c0, vi c1, vi c2, vi c3, vi c4] [(.ref b1)] st5 ?_
  clear st5
  refine gb T5 m 99 #[vi 5, vi c0, vi c1, vi c2, vi c3, vi c4] [(.int c2), (.int 2), (.ref b1), (.ref b1)] (fun u k => XS.dup X5.here hx rfl (D d2_96) rfl rfl (XT.iconstV X5.here hx rfl (2 : Int32) (D d2_97) (by decide) (XS.iloadN X5.here hx rfl (D d2_98) rfl k))) ?_
  obtain ⟨cl6, Ar6, aq6, aS6, aM6, aH6, aG6⟩ := id V5
  obtain ⟨T7, h7, X7, e7, W7, st7⟩ := stC X5 hx hZ e5 Ar6 (j := (2 : Int32)) (inb_of aS6 ⟨by decide, by decide⟩) (g := (mkF m 99 #[vi 5, vi c0, vi c1, vi c2, vi c3, vi c4] [(.int c2), (.int 2), (.ref b1), (.ref b1)])) rfl rfl (D d2_99)
  have Z7 : n0 ≤ h7.size := Nat.le_trans Z5 (Keep.of_wr W7).1
  have K7 := K5.wr W7 (Or.inr sz1)
  have N7 := Fr.snoc X7 N5 gb1
  have V7 : Arv Z h7 b1 k1 .char (5 : Int32) [(.int c0), (.int c1), (.int (nar .char c2)), (.int 0), (.int 0)] (.int 0) := Arv.set Ar6 aq6 aS6 aM6 aH6 aG6 (fits_nar_char _) W7 2 rfl (Nat.le_of_ble_eq_true rfl)
  rw [hch2.2] at V7
  refine gb T7 m 100 #[vi 5, vi c0, vi c1, vi c2, vi c3, vi c4] [(.ref b1)] st7 ?_
  clear st7
  refine gb T7 m 104 #[vi 5, vi c0, vi c1, vi c2, vi c3, vi c4] [(.int c3), (.int 3), (.ref b1), (.ref b1)] (fun u k => XS.dup X7.here hx rfl (D d2_100) rfl rfl (XT.iconstV X7.here hx rfl (3 : Int32) (D d2_101) (by decide) (XS.iload X7.here hx rfl (D d2_102) rfl k))) ?_
  obtain ⟨cl8, Ar8, aq8, aS8, aM8, aH8, aG8⟩ := id V7
  obtain ⟨T9, h9, X9, e9, W9, st9⟩ := stC X7 hx hZ e7 Ar8 (j := (3 : Int32)) (inb_of aS8 ⟨by decide, by decide⟩) (g := (mkF m 104 #[vi 5, vi c0, vi c1, vi c2, vi c3, vi c4] [(.int c3), (.int 3), (.ref b1), (.ref b1)])) rfl rfl (D d2_104)
  have Z9 : n0 ≤ h9.size := Nat.le_trans Z7 (Keep.of_wr W9).1
  have K9 := K7.wr W9 (Or.inr sz1)
  have N9 := Fr.snoc X9 N7 gb1
  have V9 : Arv Z h9 b1 k1 .char (5 : Int32) [(.int c0), (.int c1), (.int c2), (.int (nar .char c3)), (.int 0)] (.int 0) := Arv.set Ar8 aq8 aS8 aM8 aH8 aG8 (fits_nar_char _) W9 3 rfl (Nat.le_of_ble_eq_true rfl)
  rw [hch3.2] at V9
  refine gb T9 m 105 #[vi 5, vi c0, vi c1, vi c2, vi c3, vi c4] [(.ref b1)] st9 ?_
  clear st9
  refine gb T9 m 109 #[vi 5, vi c0, vi c1, vi c2, vi c3, vi c4] [(.int c4), (.int 4), (.ref b1), (.ref b1)] (fun u k => XS.dup X9.here hx rfl (D d2_105) rfl rfl (XT.iconstV X9.here hx rfl (4 : Int32) (D d2_106) (by decide) (XS.iload X9.here hx rfl (D d2_107) rfl k))) ?_
  obtain ⟨cl10, Ar10, aq10, aS10, aM10, aH10, aG10⟩ := id V9
  obtain ⟨T11, h11, X11, e11, W11, st11⟩ := stC X9 hx hZ e9 Ar10 (j := (4 : Int32)) (inb_of aS10 ⟨by decide, by decide⟩) (g := (mkF m 109 #[vi 5, vi c0, vi c1, vi c2, vi c3, vi c4] [(.int c4), (.int 4), (.ref b1), (.ref b1)])) rfl rfl (D d2_109)
  have Z11 : n0 ≤ h11.size := Nat.le_trans Z9 (Keep.of_wr W11).1
  have K11 := K9.wr W11 (Or.inr sz1)
  have N11 := Fr.snoc X11 N9 gb1
  have V11 : Arv Z h11 b1 k1 .char (5 : Int32) [(.int c0), (.int c1), (.int c2), (.int c3), (.int (nar .char c4))] (.int 0) := Arv.set Ar10 aq10 aS10 aM10 aH10 aG10 (fits_nar_char _) W11 4 rfl (Nat.le_of_ble_eq_true rfl)
  rw [hch4.2] at V11
  refine gb T11 m 110 #[vi 5, vi c0, vi c1, vi c2, vi c3, vi c4] [(.ref b1)] st11 ?_
  clear st11
  obtain ⟨fs, hr, hrun, hended, hW, hsame⟩ := X11.leave (v := some (.ref b1)) (fun h => by rw [Bd.returns] at h; cases h)
  refine ⟨_, _, retOut X11 hx (t := (.array .char)) (i := .areturn) Bd.returns rfl (Or.inr (Or.inr (Or.inr (Or.inr ⟨rfl, rfl, rfl⟩)))) (D d2_110) hr, hrun, hended, _, _, rfl, ?_, ⟨_, rfl⟩, hW, hsame.mono (by decide) (by decide)⟩
  show Q_own_pat_5 Z c0 c1 c2 c3 c4 h0 n0 _ T11.heap _
  rw [e11]
  exact ⟨b1, k1, rfl, N11, K11, gb1, sz1, V11⟩
theorem d29_0 : dc cd29 0 (.iload_n 1) 1 := by decide +kernel
theorem d29_1 : dc cd29 1 (.iconst 5) 1 := by decide +kernel
theorem d29_2 : dc cd29 2 (.if_icmp .lt 16) 3 := by decide +kernel
theorem d29_5 : dc cd29 5 (.aload_n 0) 1 := by decide +kernel
theorem d29_6 : dc cd29 6 (.iload_n 1) 1 := by decide +kernel
theorem d29_7 : dc cd29 7 (.iconst 4) 1 := by decide +kernel
theorem d29_8 : dc cd29 8 .isub 1 := by decide +kernel
theorem d29_9 : dc cd29 9 (.iconst 4) 1 := by decide +kernel
theorem d29_10 : dc cd29 10 (.invokestatic 9) 3 := by decide +kernel
theorem d29_13 : dc cd29 13 (.ifCond .eq 5) 3 := by decide +kernel
theorem d29_16 : dc cd29 16 (.iconst 4) 1 := by decide +kernel
theorem d29_17 : dc cd29 17 .ireturn 1 := by decide +kernel
theorem d29_18 : dc cd29 18 (.iload_n 1) 1 := by decide +kernel
theorem d29_19 : dc cd29 19 (.iconst 4) 1 := by decide +kernel
theorem d29_20 : dc cd29 20 (.if_icmp .lt 16) 3 := by decide +kernel
theorem d29_23 : dc cd29 23 (.aload_n 0) 1 := by decide +kernel
theorem d29_24 : dc cd29 24 (.iload_n 1) 1 := by decide +kernel
theorem d29_25 : dc cd29 25 (.iconst 3) 1 := by decide +kernel
theorem d29_26 : dc cd29 26 .isub 1 := by decide +kernel
theorem d29_27 : dc cd29 27 (.iconst 3) 1 := by decide +kernel
theorem d29_28 : dc cd29 28 (.invokestatic 9) 3 := by decide +kernel
theorem d29_31 : dc cd29 31 (.ifCond .eq 5) 3 := by decide +kernel
theorem d29_34 : dc cd29 34 (.iconst 3) 1 := by decide +kernel
theorem d29_35 : dc cd29 35 .ireturn 1 := by decide +kernel
theorem d29_36 : dc cd29 36 (.iload_n 1) 1 := by decide +kernel
theorem d29_37 : dc cd29 37 (.iconst 3) 1 := by decide +kernel
theorem d29_38 : dc cd29 38 (.if_icmp .lt 16) 3 := by decide +kernel
theorem d29_41 : dc cd29 41 (.aload_n 0) 1 := by decide +kernel
theorem d29_42 : dc cd29 42 (.iload_n 1) 1 := by decide +kernel
theorem d29_43 : dc cd29 43 (.iconst 2) 1 := by decide +kernel
theorem d29_44 : dc cd29 44 .isub 1 := by decide +kernel
theorem d29_45 : dc cd29 45 (.iconst 2) 1 := by decide +kernel
theorem d29_46 : dc cd29 46 (.invokestatic 9) 3 := by decide +kernel
theorem d29_49 : dc cd29 49 (.ifCond .eq 5) 3 := by decide +kernel
theorem d29_52 : dc cd29 52 (.iconst 2) 1 := by decide +kernel
theorem d29_53 : dc cd29 53 .ireturn 1 := by decide +kernel
theorem d29_54 : dc cd29 54 (.iload_n 1) 1 := by decide +kernel
theorem d29_55 : dc cd29 55 (.iconst 2) 1 := by decide +kernel
theorem d29_56 : dc cd29 56 (.if_icmp .lt 16) 3 := by decide +kernel
theorem d29_59 : dc cd29 59 (.aload_n 0) 1 := by decide +kernel
theorem d29_60 : dc cd29 60 (.iload_n 1) 1 := by decide +kernel
theorem d29_61 : dc cd29 61 (.iconst 1) 1 := by decide +kernel
theorem d29_62 : dc cd29 62 .isub 1 := by decide +kernel
theorem d29_63 : dc cd29 63 (.iconst 1) 1 := by decide +kernel
theorem d29_64 : dc cd29 64 (.invokestatic 9) 3 := by decide +kernel
theorem d29_67 : dc cd29 67 (.ifCond .eq 5) 3 := by decide +kernel
theorem d29_70 : dc cd29 70 (.iconst 1) 1 := by decide +kernel
theorem d29_71 : dc cd29 71 .ireturn 1 := by decide +kernel
theorem d29_72 : dc cd29 72 (.iconst 0) 1 := by decide +kernel
theorem d29_73 : dc cd29 73 .ireturn 1 := by decide +kernel
theorem own_ef_own_bor_1 (m : MethodId) (x0 : Addr) : entryFrame m #[(.ref x0), (.int 1)] 2 = mkF m 0 #[.val (.ref x0), .val (.int 1)] [] := by first | (simp [entryFrame, mkF, argsToLocals, Value.category]; done) | rfl
def Q_own_bor_1 (Z : State) (b : Addr) (nz : Nat) (cf : Nat → Int32) (kb : ClassId) (h0 : Heap) (n0 : Nat) (v : Option Value) (h : Heap) (L : List Loc) : Prop := v = some (.int 0) ∧ Fr n0 L ∧ h = h0
theorem own_bor_1 (l : Launch) (Z : State) (a0 : Array Value) (hw : ∀ d ∈ tables_1, d.before a0 Z = true) (ws : List Jvm.Cond) (b : Addr) (nz : Nat) (cf : Nat → Int32) (kb : ClassId) (h0 : Heap) (n0 : Nat) (Z0 : n0 ≤ h0.size) (V_b : Arv Z h0 b kb .char (Int32.ofNat nz) (own_l nz cf) (.int 0)) (hnz : nz < 6) (hle : 1 ≤ nz) :
    own_Met l Z mn38 method_5_code 2 (some .int) ws rm0 #[(.ref b), (.int 1)] h0 (Q_own_bor_1 Z b nz cf kb h0 n0) := by
  refine own_start (plainFor_of_name own_pn8) fun p e s m below meth c s₁ Bd hx hby hml hZ hown hnm X0 e0 => ?_
  have H := @own_hw Z a0 hw
  have D := @hb _ _ hby
  have hown : s.vm.findClass "backstitch/NeedleOfPinLaw" = some m.cls := hown
  have N0 := Fr.nil n0
  have K0 := Keep.refl h0 []
  rw [own_ef_own_bor_1 m b]
  refine gb s₁ m 73 #[vr b, vi 1] [(.int 0)] (fun u k => XS.iloadN X0.here hx rfl (D d29_0) rfl (XT.iconstV X0.here hx rfl (5 : Int32) (D d29_1) (by decide) (XS.icmpYes X0.here hx rfl (pc0 := 2) (pc' := 18) rfl (D d29_2) rfl (XT.ii_lt_t (by decide)) (by decide) (by decide) (XS.iloadN X0.here hx rfl (D d29_18) rfl (XT.iconstV X0.here hx rfl (4 : Int32) (D d29_19) (by decide) (XS.icmpYes X0.here hx rfl (pc0 := 20) (pc' := 36) rfl (D d29_20) rfl (XT.ii_lt_t (by decide)) (by decide) (by decide) (XS.iloadN X0.here hx rfl (D d29_36) rfl (XT.iconstV X0.here hx rfl (3 : Int32) (D d29_37) (by decide) (XS.icmpYes X0.here hx rfl (pc0 := 38) (pc' := 54) rfl (D d29_38) rfl (XT.ii_lt_t (by decide)) (by decide) (by decide) (XS.iloadN X0.here hx rfl (D d29_54) rfl (XT.iconstV X0.here hx rfl (2 : Int32) (D d29_55) (by decide) (XS.icmpYes X0.here hx rfl (pc0 := 56) (pc' := 72) rfl (D d29_56) rfl (XT.ii_lt_t (by decide)) (by decide) (by decide) (XT.iconstV X0.here hx rfl (0 : Int32) (D d29_72) (by decide) k))))))))))))) ?_
  obtain ⟨fs, hr, hrun, hended, hW, hsame⟩ := X0.leave (v := some (.int 0)) (fun h => by rw [Bd.returns] at h; cases h)
  refine ⟨_, _, retI X0 hx Bd.returns (D d29_73) hr, hrun, hended, _, _, rfl, ?_, ⟨_, rfl⟩, hW, hsame.mono (by decide) (by decide)⟩
  show Q_own_bor_1 Z b nz cf kb h0 n0 _ s₁.heap _
  rw [e0]
  exact ⟨rfl, N0, rfl⟩
theorem d30_0 : dc cd30 0 (.iload_n 2) 1 := by decide +kernel
theorem d30_1 : dc cd30 1 (.iconst 1) 1 := by decide +kernel
theorem d30_2 : dc cd30 2 (.if_icmp .lt 12) 3 := by decide +kernel
theorem d30_5 : dc cd30 5 (.aload_n 0) 1 := by decide +kernel
theorem d30_6 : dc cd30 6 (.iconst 0) 1 := by decide +kernel
theorem d30_7 : dc cd30 7 .caload 1 := by decide +kernel
theorem d30_8 : dc cd30 8 (.aload_n 0) 1 := by decide +kernel
theorem d30_9 : dc cd30 9 (.iload_n 1) 1 := by decide +kernel
theorem d30_10 : dc cd30 10 .caload 1 := by decide +kernel
theorem d30_11 : dc cd30 11 (.if_icmp .ne 55) 3 := by decide +kernel
theorem d30_14 : dc cd30 14 (.iload_n 2) 1 := by decide +kernel
theorem d30_15 : dc cd30 15 (.iconst 2) 1 := by decide +kernel
theorem d30_16 : dc cd30 16 (.if_icmp .lt 14) 3 := by decide +kernel
theorem d30_19 : dc cd30 19 (.aload_n 0) 1 := by decide +kernel
theorem d30_20 : dc cd30 20 (.iconst 1) 1 := by decide +kernel
theorem d30_21 : dc cd30 21 .caload 1 := by decide +kernel
theorem d30_22 : dc cd30 22 (.aload_n 0) 1 := by decide +kernel
theorem d30_23 : dc cd30 23 (.iload_n 1) 1 := by decide +kernel
theorem d30_24 : dc cd30 24 (.iconst 1) 1 := by decide +kernel
theorem d30_25 : dc cd30 25 .iadd 1 := by decide +kernel
theorem d30_26 : dc cd30 26 .caload 1 := by decide +kernel
theorem d30_27 : dc cd30 27 (.if_icmp .ne 39) 3 := by decide +kernel
theorem d30_30 : dc cd30 30 (.iload_n 2) 1 := by decide +kernel
theorem d30_31 : dc cd30 31 (.iconst 3) 1 := by decide +kernel
theorem d30_32 : dc cd30 32 (.if_icmp .lt 14) 3 := by decide +kernel
theorem d30_35 : dc cd30 35 (.aload_n 0) 1 := by decide +kernel
theorem d30_36 : dc cd30 36 (.iconst 2) 1 := by decide +kernel
theorem d30_37 : dc cd30 37 .caload 1 := by decide +kernel
theorem d30_38 : dc cd30 38 (.aload_n 0) 1 := by decide +kernel
theorem d30_39 : dc cd30 39 (.iload_n 1) 1 := by decide +kernel
theorem d30_40 : dc cd30 40 (.iconst 2) 1 := by decide +kernel
theorem d30_41 : dc cd30 41 .iadd 1 := by decide +kernel
theorem d30_42 : dc cd30 42 .caload 1 := by decide +kernel
theorem d30_43 : dc cd30 43 (.if_icmp .ne 23) 3 := by decide +kernel
theorem d30_46 : dc cd30 46 (.iload_n 2) 1 := by decide +kernel
theorem d30_47 : dc cd30 47 (.iconst 4) 1 := by decide +kernel
theorem d30_48 : dc cd30 48 (.if_icmp .lt 14) 3 := by decide +kernel
theorem d30_51 : dc cd30 51 (.aload_n 0) 1 := by decide +kernel
theorem d30_52 : dc cd30 52 (.iconst 3) 1 := by decide +kernel
theorem d30_53 : dc cd30 53 .caload 1 := by decide +kernel
theorem d30_54 : dc cd30 54 (.aload_n 0) 1 := by decide +kernel
theorem d30_55 : dc cd30 55 (.iload_n 1) 1 := by decide +kernel
theorem d30_56 : dc cd30 56 (.iconst 3) 1 := by decide +kernel
theorem d30_57 : dc cd30 57 .iadd 1 := by decide +kernel
theorem d30_58 : dc cd30 58 .caload 1 := by decide +kernel
theorem d30_59 : dc cd30 59 (.if_icmp .ne 7) 3 := by decide +kernel
theorem d30_62 : dc cd30 62 (.iconst 1) 1 := by decide +kernel
theorem d30_63 : dc cd30 63 (.goto 4) 3 := by decide +kernel
theorem d30_66 : dc cd30 66 (.iconst 0) 1 := by decide +kernel
theorem d30_67 : dc cd30 67 .ireturn 1 := by decide +kernel
theorem own_ef_own_same_1_1 (m : MethodId) (x0 : Addr) : entryFrame m #[(.ref x0), (.int 1), (.int 1)] 3 = mkF m 0 #[.val (.ref x0), .val (.int 1), .val (.int 1)] [] := by first | (simp [entryFrame, mkF, argsToLocals, Value.category]; done) | rfl
def Q_own_same_1_1 (Z : State) (b : Addr) (nz : Nat) (cf : Nat → Int32) (kb : ClassId) (h0 : Heap) (n0 : Nat) (v : Option Value) (h : Heap) (L : List Loc) : Prop := v = some (.int (if (cf 0) = (cf 1) then (1 : Int32) else (0 : Int32))) ∧ Fr n0 L ∧ h = h0
theorem own_same_1_1 (l : Launch) (Z : State) (a0 : Array Value) (hw : ∀ d ∈ tables_1, d.before a0 Z = true) (ws : List Jvm.Cond) (b : Addr) (nz : Nat) (cf : Nat → Int32) (kb : ClassId) (h0 : Heap) (n0 : Nat) (Z0 : n0 ≤ h0.size) (V_b : Arv Z h0 b kb .char (Int32.ofNat nz) (own_l nz cf) (.int 0)) (hnz : nz < 6) (hle : 2 ≤ nz) :
    own_Met l Z mn39 method_4_code 3 (some .boolean) ws rm0 #[(.ref b), (.int 1), (.int 1)] h0 (Q_own_same_1_1 Z b nz cf kb h0 n0) := by
  refine own_start (plainFor_of_name own_pn8) fun p e s m below meth c s₁ Bd hx hby hml hZ hown hnm X0 e0 => ?_
  have H := @own_hw Z a0 hw
  have D := @hb _ _ hby
  have hown : s.vm.findClass "backstitch/NeedleOfPinLaw" = some m.cls := hown
  have N0 := Fr.nil n0
  have K0 := Keep.refl h0 []
  rw [own_ef_own_same_1_1 m b]
  refine gb s₁ m 7 #[vr b, vi 1, vi 1] [(.int 0), (.ref b)] (fun u k => XS.iloadN X0.here hx rfl (D d30_0) rfl (XT.iconstV X0.here hx rfl (1 : Int32) (D d30_1) (by decide) (XS.icmpNo X0.here hx rfl (D d30_2) rfl (XT.ii_lt_f (by decide)) (XS.aloadN X0.here hx rfl (D d30_5) rfl rfl (XT.iconstV X0.here hx rfl (0 : Int32) (D d30_6) (by decide) k))))) ?_
  obtain ⟨cl1, Ar1, aq1, aS1, aM1, aH1, aG1⟩ := id V_b
  refine gb s₁ m 10 #[vr b, vi 1, vi 1] [(.int 1), (.ref b), (.int (cf 0))] (fun u k => X0.caload hx (j := (0 : Int32)) (v := (.int (cf 0))) (by rw [e0]; exact Ar1.1) (State.isArrayOf_alike hZ.alike Ar1.2.1) Ar1.2.2 (inb_of aS1 (own_ib (i := 0) (by omega) (by omega))) (Has.at aH1 (inb_of aS1 (own_ib (i := 0) (by omega) (by omega))) (own_l_at (j := 0) _ (by omega))) (g := (mkF m 7 #[vr b, vi 1, vi 1] [(.int 0), (.ref b)])) rfl rfl (D d30_7) _ (XS.aloadN X0.here hx rfl (D d30_8) rfl rfl (XS.iloadN X0.here hx rfl (D d30_9) rfl k))) ?_
  obtain ⟨cl2, Ar2, aq2, aS2, aM2, aH2, aG2⟩ := id V_b
  refine gb s₁ m 11 #[vr b, vi 1, vi 1] [(.int (cf 1)), (.int (cf 0))] (fun u k => X0.caload hx (j := (1 : Int32)) (v := (.int (cf 1))) (by rw [e0]; exact Ar2.1) (State.isArrayOf_alike hZ.alike Ar2.2.1) Ar2.2.2 (inb_of aS2 (own_ib (i := 1) (by omega) (by omega))) (Has.at aH2 (inb_of aS2 (own_ib (i := 1) (by omega) (by omega))) (own_l_at (j := 1) _ (by omega))) (g := (mkF m 10 #[vr b, vi 1, vi 1] [(.int 1), (.ref b), (.int (cf 0))])) rfl rfl (D d30_10) _ k) ?_
  by_cases hc3 : (cf 0) = (cf 1)
  · refine gb s₁ m 67 #[vr b, vi 1, vi 1] [(.int 1)] (fun u k => XS.icmpNo X0.here hx rfl (D d30_11) rfl (XT.ii_ne_f hc3) (XS.iloadN X0.here hx rfl (D d30_14) rfl (XT.iconstV X0.here hx rfl (2 : Int32) (D d30_15) (by decide) (XS.icmpYes X0.here hx rfl (pc0 := 16) (pc' := 30) rfl (D d30_16) rfl (XT.ii_lt_t (by decide)) (by decide) (by decide) (XS.iloadN X0.here hx rfl (D d30_30) rfl (XT.iconstV X0.here hx rfl (3 : Int32) (D d30_31) (by decide) (XS.icmpYes X0.here hx rfl (pc0 := 32) (pc' := 46) rfl (D d30_32) rfl (XT.ii_lt_t (by decide)) (by decide) (by decide) (XS.iloadN X0.here hx rfl (D d30_46) rfl (XT.iconstV X0.here hx rfl (4 : Int32) (D d30_47) (by decide) (XS.icmpYes X0.here hx rfl (pc0 := 48) (pc' := 62) rfl (D d30_48) rfl (XT.ii_lt_t (by decide)) (by decide) (by decide) (XT.iconstV X0.here hx rfl (1 : Int32) (D d30_62) (by decide) (XS.goto X0.here hx rfl (pc0 := 63) (pc' := 67) rfl (D d30_63) (by decide) (by decide) k)))))))))))) ?_
    obtain ⟨fs, hr, hrun, hended, hW, hsame⟩ := X0.leave (v := some (.int 1)) (fun h => by rw [Bd.returns] at h; cases h)
    refine ⟨_, _, retN X0 hx (t := .boolean) Bd.returns (by simp) (D d30_67) hr, hrun, hended, _, _, rfl, ?_, ⟨_, rfl⟩, hW, hsame.mono (by decide) (by decide)⟩
    show Q_own_same_1_1 Z b nz cf kb h0 n0 _ s₁.heap _
    rw [e0]
    exact ⟨(by rw [if_pos hc3]), N0, rfl⟩
  · refine gb s₁ m 67 #[vr b, vi 1, vi 1] [(.int 0)] (fun u k => XS.icmpYes X0.here hx rfl (pc0 := 11) (pc' := 66) rfl (D d30_11) rfl (XT.ii_ne_t hc3) (by decide) (by decide) (XT.iconstV X0.here hx rfl (0 : Int32) (D d30_66) (by decide) k)) ?_
    obtain ⟨fs, hr, hrun, hended, hW, hsame⟩ := X0.leave (v := some (.int 0)) (fun h => by rw [Bd.returns] at h; cases h)
    refine ⟨_, _, retN X0 hx (t := .boolean) Bd.returns (by simp) (D d30_67) hr, hrun, hended, _, _, rfl, ?_, ⟨_, rfl⟩, hW, hsame.mono (by decide) (by decide)⟩
    show Q_own_same_1_1 Z b nz cf kb h0 n0 _ s₁.heap _
    rw [e0]
    exact ⟨(by rw [if_neg (fun q => hc3 q)]), N0, rfl⟩
theorem own_pd28 : parseMethodDescriptor "([CII)Z" = some ⟨[(.array .char), .int, .int], some .boolean⟩ := by decide +kernel
theorem own_ef_own_bor_2 (m : MethodId) (x0 : Addr) : entryFrame m #[(.ref x0), (.int 2)] 2 = mkF m 0 #[.val (.ref x0), .val (.int 2)] [] := by first | (simp [entryFrame, mkF, argsToLocals, Value.category]; done) | rfl
def Q_own_bor_2 (Z : State) (b : Addr) (nz : Nat) (cf : Nat → Int32) (kb : ClassId) (h0 : Heap) (n0 : Nat) (v : Option Value) (h : Heap) (L : List Loc) : Prop := v = some (.int (own_bd2 (cf 0) (cf 1))) ∧ Fr n0 L ∧ h = h0
theorem own_bor_2 (l : Launch) (Z : State) (a0 : Array Value) (hw : ∀ d ∈ tables_1, d.before a0 Z = true) (ws : List Jvm.Cond) (b : Addr) (nz : Nat) (cf : Nat → Int32) (kb : ClassId) (h0 : Heap) (n0 : Nat) (Z0 : n0 ≤ h0.size) (V_b : Arv Z h0 b kb .char (Int32.ofNat nz) (own_l nz cf) (.int 0)) (hnz : nz < 6) (hle : 2 ≤ nz) :
    own_Met l Z mn38 method_5_code 2 (some .int) ws rm22 #[(.ref b), (.int 2)] h0 (Q_own_bor_2 Z b nz cf kb h0 n0) := by
  refine own_start (plainFor_of_name own_pn8) fun p e s m below meth c s₁ Bd hx hby hml hZ hown hnm X0 e0 => ?_
  have H := @own_hw Z a0 hw
  have D := @hb _ _ hby
  have hown : s.vm.findClass "backstitch/NeedleOfPinLaw" = some m.cls := hown
  have N0 := Fr.nil n0
  have K0 := Keep.refl h0 []
  rw [own_ef_own_bor_2 m b]
  refine gb s₁ m 61 #[vr b, vi 2] [(.int 2), (.ref b)] (fun u k => XS.iloadN X0.here hx rfl (D d29_0) rfl (XT.iconstV X0.here hx rfl (5 : Int32) (D d29_1) (by decide) (XS.icmpYes X0.here hx rfl (pc0 := 2) (pc' := 18) rfl (D d29_2) rfl (XT.ii_lt_t (by decide)) (by decide) (by decide) (XS.iloadN X0.here hx rfl (D d29_18) rfl (XT.iconstV X0.here hx rfl (4 : Int32) (D d29_19) (by decide) (XS.icmpYes X0.here hx rfl (pc0 := 20) (pc' := 36) rfl (D d29_20) rfl (XT.ii_lt_t (by decide)) (by decide) (by decide) (XS.iloadN X0.here hx rfl (D d29_36) rfl (XT.iconstV X0.here hx rfl (3 : Int32) (D d29_37) (by decide) (XS.icmpYes X0.here hx rfl (pc0 := 38) (pc' := 54) rfl (D d29_38) rfl (XT.ii_lt_t (by decide)) (by decide) (by decide) (XS.iloadN X0.here hx rfl (D d29_54) rfl (XT.iconstV X0.here hx rfl (2 : Int32) (D d29_55) (by decide) (XS.icmpNo X0.here hx rfl (D d29_56) rfl (XT.ii_lt_f (by decide)) (XS.aloadN X0.here hx rfl (D d29_59) rfl rfl (XS.iloadN X0.here hx rfl (D d29_60) rfl k)))))))))))))) ?_
  refine gb s₁ m 63 #[vr b, vi 2] [(.int ((2 : Int32) - (1 : Int32))), (.ref b)] (fun u k => XT.iconstV X0.here hx rfl (1 : Int32) (D d29_61) (by decide) (XS.isub X0.here hx rfl (D d29_62) rfl k)) ?_
  have rw1 : ((2 : Int32) - (1 : Int32)) = (1 : Int32) := by decide
  rw [rw1]
  refine gb s₁ m 64 #[vr b, vi 2] [(.int 1), (.int 1), (.ref b)] (fun u k => XT.iconstV X0.here hx rfl (1 : Int32) (D d29_63) (by decide) k) ?_
  obtain ⟨_, _, ⟨T2, L2, k2, n2⟩, -, X2, ⟨Lc2, hQ2, l2, y2, z2⟩, st2⟩ := Jvm.LawKit.callS X0 hx (y := mn39) hown (mvT hZ (H 186 rfl)) (mvT hZ (H 187 rfl)) (mvT hZ (H 3 rfl)) (mvT hZ (H 188 rfl)) (by decide) (backOf (W := 0) (own_same_1_1 l Z a0 hw [] b nz cf kb h0 n0 Z0 V_b hnz hle) hZ (H 188 rfl) (H 3 rfl) (by decide) (by decide)) (g := (mkF m 64 #[vr b, vi 2] [(.int 1), (.int 1), (.ref b)])) rfl (by rw [hml]; rfl) (argsL := [(.ref b), (.int 1), (.int 1)]) (rest := []) (lenOf own_pd28 rfl) rfl (own_w0 rfl) (D d29_64) (fun _ _ => ⟨rfl, e0, (by decide : 0 + 0 ≤ _), (by decide : 0 + 0 ≤ _)⟩)
  dsimp only [Pt.U, Pt.locs, Pt.cells, Pt.slots] at X2 l2 y2 z2 st2 hQ2
  subst l2 y2 z2
  obtain ⟨rfl, N2, e2⟩ := hQ2
  have NA2 := Fr.app N0 N2
  refine gb T2 m 67 #[vr b, vi 2] [(.int (if (cf 0) = (cf 1) then (1 : Int32) else (0 : Int32)))] st2 ?_
  clear st2
  by_cases hA1 : (cf 0) = (cf 1)
  · have rw3 : (if (cf 0) = (cf 1) then (1 : Int32) else (0 : Int32)) = (1 : Int32) := if_pos hA1
    rw [rw3]
    refine gb T2 m 71 #[vr b, vi 2] [(.int 1)] (fun u k => XS.ifNo X2.here hx rfl (D d29_67) rfl (XT.i0_eq_f (by decide)) (XT.iconstV X2.here hx rfl (1 : Int32) (D d29_70) (by decide) k)) ?_
    obtain ⟨fs, hr, hrun, hended, hW, hsame⟩ := X2.leave (v := some (.int 1)) (fun h => by rw [Bd.returns] at h; cases h)
    refine ⟨_, _, retI X2 hx Bd.returns (D d29_71) hr, hrun, hended, _, _, rfl, ?_, ⟨_, rfl⟩, hW, hsame.mono (by decide) (by decide)⟩
    show Q_own_bor_2 Z b nz cf kb h0 n0 _ T2.heap _
    rw [e2]
    exact ⟨(by unfold own_bd2; rw [if_pos hA1]), NA2, rfl⟩
  · have rw4 : (if (cf 0) = (cf 1) then (1 : Int32) else (0 : Int32)) = (0 : Int32) := if_neg hA1
    rw [rw4]
    refine gb T2 m 73 #[vr b, vi 2] [(.int 0)] (fun u k => XS.ifYes X2.here hx rfl (pc0 := 67) (pc' := 72) rfl (D d29_67) rfl (XT.i0_eq_t (by decide)) (by decide) (by decide) (XT.iconstV X2.here hx rfl (0 : Int32) (D d29_72) (by decide) k)) ?_
    obtain ⟨fs, hr, hrun, hended, hW, hsame⟩ := X2.leave (v := some (.int 0)) (fun h => by rw [Bd.returns] at h; cases h)
    refine ⟨_, _, retI X2 hx Bd.returns (D d29_73) hr, hrun, hended, _, _, rfl, ?_, ⟨_, rfl⟩, hW, hsame.mono (by decide) (by decide)⟩
    show Q_own_bor_2 Z b nz cf kb h0 n0 _ T2.heap _
    rw [e2]
    exact ⟨(by unfold own_bd2; rw [if_neg hA1]), NA2, rfl⟩
theorem own_ef_own_same_2_1 (m : MethodId) (x0 : Addr) : entryFrame m #[(.ref x0), (.int 2), (.int 1)] 3 = mkF m 0 #[.val (.ref x0), .val (.int 2), .val (.int 1)] [] := by first | (simp [entryFrame, mkF, argsToLocals, Value.category]; done) | rfl
def Q_own_same_2_1 (Z : State) (b : Addr) (nz : Nat) (cf : Nat → Int32) (kb : ClassId) (h0 : Heap) (n0 : Nat) (v : Option Value) (h : Heap) (L : List Loc) : Prop := v = some (.int (if (cf 0) = (cf 2) then (1 : Int32) else (0 : Int32))) ∧ Fr n0 L ∧ h = h0
theorem own_same_2_1 (l : Launch) (Z : State) (a0 : Array Value) (hw : ∀ d ∈ tables_1, d.before a0 Z = true) (ws : List Jvm.Cond) (b : Addr) (nz : Nat) (cf : Nat → Int32) (kb : ClassId) (h0 : Heap) (n0 : Nat) (Z0 : n0 ≤ h0.size) (V_b : Arv Z h0 b kb .char (Int32.ofNat nz) (own_l nz cf) (.int 0)) (hnz : nz < 6) (hle : 3 ≤ nz) :
    own_Met l Z mn39 method_4_code 3 (some .boolean) ws rm0 #[(.ref b), (.int 2), (.int 1)] h0 (Q_own_same_2_1 Z b nz cf kb h0 n0) := by
  refine own_start (plainFor_of_name own_pn8) fun p e s m below meth c s₁ Bd hx hby hml hZ hown hnm X0 e0 => ?_
  have H := @own_hw Z a0 hw
  have D := @hb _ _ hby
  have hown : s.vm.findClass "backstitch/NeedleOfPinLaw" = some m.cls := hown
  have N0 := Fr.nil n0
  have K0 := Keep.refl h0 []
  rw [own_ef_own_same_2_1 m b]
  refine gb s₁ m 7 #[vr b, vi 2, vi 1] [(.int 0), (.ref b)] (fun u k => XS.iloadN X0.here hx rfl (D d30_0) rfl (XT.iconstV X0.here hx rfl (1 : Int32) (D d30_1) (by decide) (XS.icmpNo X0.here hx rfl (D d30_2) rfl (XT.ii_lt_f (by decide)) (XS.aloadN X0.here hx rfl (D d30_5) rfl rfl (XT.iconstV X0.here hx rfl (0 : Int32) (D d30_6) (by decide) k))))) ?_
  obtain ⟨cl1, Ar1, aq1, aS1, aM1, aH1, aG1⟩ := id V_b
  refine gb s₁ m 10 #[vr b, vi 2, vi 1] [(.int 2), (.ref b), (.int (cf 0))] (fun u k => X0.caload hx (j := (0 : Int32)) (v := (.int (cf 0))) (by rw [e0]; exact Ar1.1) (State.isArrayOf_alike hZ.alike Ar1.2.1) Ar1.2.2 (inb_of aS1 (own_ib (i := 0) (by omega) (by omega))) (Has.at aH1 (inb_of aS1 (own_ib (i := 0) (by omega) (by omega))) (own_l_at (j := 0) _ (by omega))) (g := (mkF m 7 #[vr b, vi 2, vi 1] [(.int 0), (.ref b)])) rfl rfl (D d30_7) _ (XS.aloadN X0.here hx rfl (D d30_8) rfl rfl (XS.iloadN X0.here hx rfl (D d30_9) rfl k))) ?_
  obtain ⟨cl2, Ar2, aq2, aS2, aM2, aH2, aG2⟩ := id V_b
  refine gb s₁ m 11 #[vr b, vi 2, vi 1] [(.int (cf 2)), (.int (cf 0))] (fun u k => X0.caload hx (j := (2 : Int32)) (v := (.int (cf 2))) (by rw [e0]; exact Ar2.1) (State.isArrayOf_alike hZ.alike Ar2.2.1) Ar2.2.2 (inb_of aS2 (own_ib (i := 2) (by omega) (by omega))) (Has.at aH2 (inb_of aS2 (own_ib (i := 2) (by omega) (by omega))) (own_l_at (j := 2) _ (by omega))) (g := (mkF m 10 #[vr b, vi 2, vi 1] [(.int 2), (.ref b), (.int (cf 0))])) rfl rfl (D d30_10) _ k) ?_
  by_cases hc3 : (cf 0) = (cf 2)
  · refine gb s₁ m 67 #[vr b, vi 2, vi 1] [(.int 1)] (fun u k => XS.icmpNo X0.here hx rfl (D d30_11) rfl (XT.ii_ne_f hc3) (XS.iloadN X0.here hx rfl (D d30_14) rfl (XT.iconstV X0.here hx rfl (2 : Int32) (D d30_15) (by decide) (XS.icmpYes X0.here hx rfl (pc0 := 16) (pc' := 30) rfl (D d30_16) rfl (XT.ii_lt_t (by decide)) (by decide) (by decide) (XS.iloadN X0.here hx rfl (D d30_30) rfl (XT.iconstV X0.here hx rfl (3 : Int32) (D d30_31) (by decide) (XS.icmpYes X0.here hx rfl (pc0 := 32) (pc' := 46) rfl (D d30_32) rfl (XT.ii_lt_t (by decide)) (by decide) (by decide) (XS.iloadN X0.here hx rfl (D d30_46) rfl (XT.iconstV X0.here hx rfl (4 : Int32) (D d30_47) (by decide) (XS.icmpYes X0.here hx rfl (pc0 := 48) (pc' := 62) rfl (D d30_48) rfl (XT.ii_lt_t (by decide)) (by decide) (by decide) (XT.iconstV X0.here hx rfl (1 : Int32) (D d30_62) (by decide) (XS.goto X0.here hx rfl (pc0 := 63) (pc' := 67) rfl (D d30_63) (by decide) (by decide) k)))))))))))) ?_
    obtain ⟨fs, hr, hrun, hended, hW, hsame⟩ := X0.leave (v := some (.int 1)) (fun h => by rw [Bd.returns] at h; cases h)
    refine ⟨_, _, retN X0 hx (t := .boolean) Bd.returns (by simp) (D d30_67) hr, hrun, hended, _, _, rfl, ?_, ⟨_, rfl⟩, hW, hsame.mono (by decide) (by decide)⟩
    show Q_own_same_2_1 Z b nz cf kb h0 n0 _ s₁.heap _
    rw [e0]
    exact ⟨(by rw [if_pos hc3]), N0, rfl⟩
  · refine gb s₁ m 67 #[vr b, vi 2, vi 1] [(.int 0)] (fun u k => XS.icmpYes X0.here hx rfl (pc0 := 11) (pc' := 66) rfl (D d30_11) rfl (XT.ii_ne_t hc3) (by decide) (by decide) (XT.iconstV X0.here hx rfl (0 : Int32) (D d30_66) (by decide) k)) ?_
    obtain ⟨fs, hr, hrun, hended, hW, hsame⟩ := X0.leave (v := some (.int 0)) (fun h => by rw [Bd.returns] at h; cases h)
    refine ⟨_, _, retN X0 hx (t := .boolean) Bd.returns (by simp) (D d30_67) hr, hrun, hended, _, _, rfl, ?_, ⟨_, rfl⟩, hW, hsame.mono (by decide) (by decide)⟩
    show Q_own_same_2_1 Z b nz cf kb h0 n0 _ s₁.heap _
    rw [e0]
    exact ⟨(by rw [if_neg (fun q => hc3 q)]), N0, rfl⟩
theorem own_ef_own_same_1_2 (m : MethodId) (x0 : Addr) : entryFrame m #[(.ref x0), (.int 1), (.int 2)] 3 = mkF m 0 #[.val (.ref x0), .val (.int 1), .val (.int 2)] [] := by first | (simp [entryFrame, mkF, argsToLocals, Value.category]; done) | rfl
def Q_own_same_1_2 (Z : State) (b : Addr) (nz : Nat) (cf : Nat → Int32) (kb : ClassId) (h0 : Heap) (n0 : Nat) (v : Option Value) (h : Heap) (L : List Loc) : Prop := v = some (.int (if (cf 0) = (cf 1) ∧ (cf 1) = (cf 2) then (1 : Int32) else (0 : Int32))) ∧ Fr n0 L ∧ h = h0
theorem own_same_1_2 (l : Launch) (Z : State) (a0 : Array Value) (hw : ∀ d ∈ tables_1, d.before a0 Z = true) (ws : List Jvm.Cond) (b : Addr) (nz : Nat) (cf : Nat → Int32) (kb : ClassId) (h0 : Heap) (n0 : Nat) (Z0 : n0 ≤ h0.size) (V_b : Arv Z h0 b kb .char (Int32.ofNat nz) (own_l nz cf) (.int 0)) (hnz : nz < 6) (hle : 3 ≤ nz) :
    own_Met l Z mn39 method_4_code 3 (some .boolean) ws rm0 #[(.ref b), (.int 1), (.int 2)] h0 (Q_own_same_1_2 Z b nz cf kb h0 n0) := by
  refine own_start (plainFor_of_name own_pn8) fun p e s m below meth c s₁ Bd hx hby hml hZ hown hnm X0 e0 => ?_
  have H := @own_hw Z a0 hw
  have D := @hb _ _ hby
  have hown : s.vm.findClass "backstitch/NeedleOfPinLaw" = some m.cls := hown
  have N0 := Fr.nil n0
  have K0 := Keep.refl h0 []
  rw [own_ef_own_same_1_2 m b]
  refine gb s₁ m 7 #[vr b, vi 1, vi 2] [(.int 0), (.ref b)] (fun u k => XS.iloadN X0.here hx rfl (D d30_0) rfl (XT.iconstV X0.here hx rfl (1 : Int32) (D d30_1) (by decide) (XS.icmpNo X0.here hx rfl (D d30_2) rfl (XT.ii_lt_f (by decide)) (XS.aloadN X0.here hx rfl (D d30_5) rfl rfl (XT.iconstV X0.here hx rfl (0 : Int32) (D d30_6) (by decide) k))))) ?_
  obtain ⟨cl1, Ar1, aq1, aS1, aM1, aH1, aG1⟩ := id V_b
  refine gb s₁ m 10 #[vr b, vi 1, vi 2] [(.int 1), (.ref b), (.int (cf 0))] (fun u k => X0.caload hx (j := (0 : Int32)) (v := (.int (cf 0))) (by rw [e0]; exact Ar1.1) (State.isArrayOf_alike hZ.alike Ar1.2.1) Ar1.2.2 (inb_of aS1 (own_ib (i := 0) (by omega) (by omega))) (Has.at aH1 (inb_of aS1 (own_ib (i := 0) (by omega) (by omega))) (own_l_at (j := 0) _ (by omega))) (g := (mkF m 7 #[vr b, vi 1, vi 2] [(.int 0), (.ref b)])) rfl rfl (D d30_7) _ (XS.aloadN X0.here hx rfl (D d30_8) rfl rfl (XS.iloadN X0.here hx rfl (D d30_9) rfl k))) ?_
  obtain ⟨cl2, Ar2, aq2, aS2, aM2, aH2, aG2⟩ := id V_b
  refine gb s₁ m 11 #[vr b, vi 1, vi 2] [(.int (cf 1)), (.int (cf 0))] (fun u k => X0.caload hx (j := (1 : Int32)) (v := (.int (cf 1))) (by rw [e0]; exact Ar2.1) (State.isArrayOf_alike hZ.alike Ar2.2.1) Ar2.2.2 (inb_of aS2 (own_ib (i := 1) (by omega) (by omega))) (Has.at aH2 (inb_of aS2 (own_ib (i := 1) (by omega) (by omega))) (own_l_at (j := 1) _ (by omega))) (g := (mkF m 10 #[vr b, vi 1, vi 2] [(.int 1), (.ref b), (.int (cf 0))])) rfl rfl (D d30_10) _ k) ?_
  by_cases hc3 : (cf 0) = (cf 1)
  · refine gb s₁ m 21 #[vr b, vi 1, vi 2] [(.int 1), (.ref b)] (fun u k => XS.icmpNo X0.here hx rfl (D d30_11) rfl (XT.ii_ne_f hc3) (XS.iloadN X0.here hx rfl (D d30_14) rfl (XT.iconstV X0.here hx rfl (2 : Int32) (D d30_15) (by decide) (XS.icmpNo X0.here hx rfl (D d30_16) rfl (XT.ii_lt_f (by decide)) (XS.aloadN X0.here hx rfl (D d30_19) rfl rfl (XT.iconstV X0.here hx rfl (1 : Int32) (D d30_20) (by decide) k)))))) ?_
    obtain ⟨cl4, Ar4, aq4, aS4, aM4, aH4, aG4⟩ := id V_b
    refine gb s₁ m 26 #[vr b, vi 1, vi 2] [(.int ((1 : Int32) + (1 : Int32))), (.ref b), (.int (cf 1))] (fun u k => X0.caload hx (j := (1 : Int32)) (v := (.int (cf 1))) (by rw [e0]; exact Ar4.1) (State.isArrayOf_alike hZ.alike Ar4.2.1) Ar4.2.2 (inb_of aS4 (own_ib (i := 1) (by omega) (by omega))) (Has.at aH4 (inb_of aS4 (own_ib (i := 1) (by omega) (by omega))) (own_l_at (j := 1) _ (by omega))) (g := (mkF m 21 #[vr b, vi 1, vi 2] [(.int 1), (.ref b)])) rfl rfl (D d30_21) _ (XS.aloadN X0.here hx rfl (D d30_22) rfl rfl (XS.iloadN X0.here hx rfl (D d30_23) rfl (XT.iconstV X0.here hx rfl (1 : Int32) (D d30_24) (by decide) (XS.iadd X0.here hx rfl (D d30_25) rfl k))))) ?_
    have rw5 : ((1 : Int32) + (1 : Int32)) = (2 : Int32) := by decide
    rw [rw5]
    obtain ⟨cl6, Ar6, aq6, aS6, aM6, aH6, aG6⟩ := id V_b
    refine gb s₁ m 27 #[vr b, vi 1, vi 2] [(.int (cf 2)), (.int (cf 1))] (fun u k => X0.caload hx (j := (2 : Int32)) (v := (.int (cf 2))) (by rw [e0]; exact Ar6.1) (State.isArrayOf_alike hZ.alike Ar6.2.1) Ar6.2.2 (inb_of aS6 (own_ib (i := 2) (by omega) (by omega))) (Has.at aH6 (inb_of aS6 (own_ib (i := 2) (by omega) (by omega))) (own_l_at (j := 2) _ (by omega))) (g := (mkF m 26 #[vr b, vi 1, vi 2] [(.int 2), (.ref b), (.int (cf 1))])) rfl rfl (D d30_26) _ k) ?_
    by_cases hc7 : (cf 1) = (cf 2)
    · refine gb s₁ m 67 #[vr b, vi 1, vi 2] [(.int 1)] (fun u k => XS.icmpNo X0.here hx rfl (D d30_27) rfl (XT.ii_ne_f hc7) (XS.iloadN X0.here hx rfl (D d30_30) rfl (XT.iconstV X0.here hx rfl (3 : Int32) (D d30_31) (by decide) (XS.icmpYes X0.here hx rfl (pc0 := 32) (pc' := 46) rfl (D d30_32) rfl (XT.ii_lt_t (by decide)) (by decide) (by decide) (XS.iloadN X0.here hx rfl (D d30_46) rfl (XT.iconstV X0.here hx rfl (4 : Int32) (D d30_47) (by decide) (XS.icmpYes X0.here hx rfl (pc0 := 48) (pc' := 62) rfl (D d30_48) rfl (XT.ii_lt_t (by decide)) (by decide) (by decide) (XT.iconstV X0.here hx rfl (1 : Int32) (D d30_62) (by decide) (XS.goto X0.here hx rfl (pc0 := 63) (pc' := 67) rfl (D d30_63) (by decide) (by decide) k))))))))) ?_
      obtain ⟨fs, hr, hrun, hended, hW, hsame⟩ := X0.leave (v := some (.int 1)) (fun h => by rw [Bd.returns] at h; cases h)
      refine ⟨_, _, retN X0 hx (t := .boolean) Bd.returns (by simp) (D d30_67) hr, hrun, hended, _, _, rfl, ?_, ⟨_, rfl⟩, hW, hsame.mono (by decide) (by decide)⟩
      show Q_own_same_1_2 Z b nz cf kb h0 n0 _ s₁.heap _
      rw [e0]
      exact ⟨(by rw [if_pos ⟨hc3, hc7⟩]), N0, rfl⟩
    · refine gb s₁ m 67 #[vr b, vi 1, vi 2] [(.int 0)] (fun u k => XS.icmpYes X0.here hx rfl (pc0 := 27) (pc' := 66) rfl (D d30_27) rfl (XT.ii_ne_t hc7) (by decide) (by decide) (XT.iconstV X0.here hx rfl (0 : Int32) (D d30_66) (by decide) k)) ?_
      obtain ⟨fs, hr, hrun, hended, hW, hsame⟩ := X0.leave (v := some (.int 0)) (fun h => by rw [Bd.returns] at h; cases h)
      refine ⟨_, _, retN X0 hx (t := .boolean) Bd.returns (by simp) (D d30_67) hr, hrun, hended, _, _, rfl, ?_, ⟨_, rfl⟩, hW, hsame.mono (by decide) (by decide)⟩
      show Q_own_same_1_2 Z b nz cf kb h0 n0 _ s₁.heap _
      rw [e0]
      exact ⟨(by rw [if_neg (fun q => hc7 q.2)]), N0, rfl⟩
  · refine gb s₁ m 67 #[vr b, vi 1, vi 2] [(.int 0)] (fun u k => XS.icmpYes X0.here hx rfl (pc0 := 11) (pc' := 66) rfl (D d30_11) rfl (XT.ii_ne_t hc3) (by decide) (by decide) (XT.iconstV X0.here hx rfl (0 : Int32) (D d30_66) (by decide) k)) ?_
    obtain ⟨fs, hr, hrun, hended, hW, hsame⟩ := X0.leave (v := some (.int 0)) (fun h => by rw [Bd.returns] at h; cases h)
    refine ⟨_, _, retN X0 hx (t := .boolean) Bd.returns (by simp) (D d30_67) hr, hrun, hended, _, _, rfl, ?_, ⟨_, rfl⟩, hW, hsame.mono (by decide) (by decide)⟩
    show Q_own_same_1_2 Z b nz cf kb h0 n0 _ s₁.heap _
    rw [e0]
    exact ⟨(by rw [if_neg (fun q => hc3 q.1)]), N0, rfl⟩
theorem own_ef_own_bor_3 (m : MethodId) (x0 : Addr) : entryFrame m #[(.ref x0), (.int 3)] 2 = mkF m 0 #[.val (.ref x0), .val (.int 3)] [] := by first | (simp [entryFrame, mkF, argsToLocals, Value.category]; done) | rfl
def Q_own_bor_3 (Z : State) (b : Addr) (nz : Nat) (cf : Nat → Int32) (kb : ClassId) (h0 : Heap) (n0 : Nat) (v : Option Value) (h : Heap) (L : List Loc) : Prop := v = some (.int (own_bd3 (cf 0) (cf 1) (cf 2))) ∧ Fr n0 L ∧ h = h0
theorem own_bor_3 (l : Launch) (Z : State) (a0 : Array Value) (hw : ∀ d ∈ tables_1, d.before a0 Z = true) (ws : List Jvm.Cond) (b : Addr) (nz : Nat) (cf : Nat → Int32) (kb : ClassId) (h0 : Heap) (n0 : Nat) (Z0 : n0 ≤ h0.size) (V_b : Arv Z h0 b kb .char (Int32.ofNat nz) (own_l nz cf) (.int 0)) (hnz : nz < 6) (hle : 3 ≤ nz) :
    own_Met l Z mn38 method_5_code 2 (some .int) ws rm22 #[(.ref b), (.int 3)] h0 (Q_own_bor_3 Z b nz cf kb h0 n0) := by
  refine own_start (plainFor_of_name own_pn8) fun p e s m below meth c s₁ Bd hx hby hml hZ hown hnm X0 e0 => ?_
  have H := @own_hw Z a0 hw
  have D := @hb _ _ hby
  have hown : s.vm.findClass "backstitch/NeedleOfPinLaw" = some m.cls := hown
  have N0 := Fr.nil n0
  have K0 := Keep.refl h0 []
  rw [own_ef_own_bor_3 m b]
  refine gb s₁ m 45 #[vr b, vi 3] [(.int ((3 : Int32) - (2 : Int32))), (.ref b)] (fun u k => XS.iloadN X0.here hx rfl (D d29_0) rfl (XT.iconstV X0.here hx rfl (5 : Int32) (D d29_1) (by decide) (XS.icmpYes X0.here hx rfl (pc0 := 2) (pc' := 18) rfl (D d29_2) rfl (XT.ii_lt_t (by decide)) (by decide) (by decide) (XS.iloadN X0.here hx rfl (D d29_18) rfl (XT.iconstV X0.here hx rfl (4 : Int32) (D d29_19) (by decide) (XS.icmpYes X0.here hx rfl (pc0 := 20) (pc' := 36) rfl (D d29_20) rfl (XT.ii_lt_t (by decide)) (by decide) (by decide) (XS.iloadN X0.here hx rfl (D d29_36) rfl (XT.iconstV X0.here hx rfl (3 : Int32) (D d29_37) (by decide) (XS.icmpNo X0.here hx rfl (D d29_38) rfl (XT.ii_lt_f (by decide)) (XS.aloadN X0.here hx rfl (D d29_41) rfl rfl (XS.iloadN X0.here hx rfl (D d29_42) rfl (XT.iconstV X0.here hx rfl (2 : Int32) (D d29_43) (by decide) (XS.isub X0.here hx rfl (D d29_44) rfl k))))))))))))) ?_
  have rw1 : ((3 : Int32) - (2 : Int32)) = (1 : Int32) := by decide
  rw [rw1]
  refine gb s₁ m 46 #[vr b, vi 3] [(.int 2), (.int 1), (.ref b)] (fun u k => XT.iconstV X0.here hx rfl (2 : Int32) (D d29_45) (by decide) k) ?_
  obtain ⟨_, _, ⟨T2, L2, k2, n2⟩, -, X2, ⟨Lc2, hQ2, l2, y2, z2⟩, st2⟩ := Jvm.LawKit.callS X0 hx (y := mn39) hown (mvT hZ (H 186 rfl)) (mvT hZ (H 187 rfl)) (mvT hZ (H 3 rfl)) (mvT hZ (H 188 rfl)) (by decide) (backOf (W := 0) (own_same_1_2 l Z a0 hw [] b nz cf kb h0 n0 Z0 V_b hnz hle) hZ (H 188 rfl) (H 3 rfl) (by decide) (by decide)) (g := (mkF m 46 #[vr b, vi 3] [(.int 2), (.int 1), (.ref b)])) rfl (by rw [hml]; rfl) (argsL := [(.ref b), (.int 1), (.int 2)]) (rest := []) (lenOf own_pd28 rfl) rfl (own_w0 rfl) (D d29_46) (fun _ _ => ⟨rfl, e0, (by decide : 0 + 0 ≤ _), (by decide : 0 + 0 ≤ _)⟩)
  dsimp only [Pt.U, Pt.locs, Pt.cells, Pt.slots] at X2 l2 y2 z2 st2 hQ2
  subst l2 y2 z2
  obtain ⟨rfl, N2, e2⟩ := hQ2
  have NA2 := Fr.app N0 N2
  refine gb T2 m 49 #[vr b, vi 3] [(.int (if (cf 0) = (cf 1) ∧ (cf 1) = (cf 2) then (1 : Int32) else (0 : Int32)))] st2 ?_
  clear st2
  by_cases hA2 : (cf 0) = (cf 1) ∧ (cf 1) = (cf 2)
  · have rw3 : (if (cf 0) = (cf 1) ∧ (cf 1) = (cf 2) then (1 : Int32) else (0 : Int32)) = (1 : Int32) := if_pos hA2
    rw [rw3]
    refine gb T2 m 53 #[vr b, vi 3] [(.int 2)] (fun u k => XS.ifNo X2.here hx rfl (D d29_49) rfl (XT.i0_eq_f (by decide)) (XT.iconstV X2.here hx rfl (2 : Int32) (D d29_52) (by decide) k)) ?_
    obtain ⟨fs, hr, hrun, hended, hW, hsame⟩ := X2.leave (v := some (.int 2)) (fun h => by rw [Bd.returns] at h; cases h)
    refine ⟨_, _, retI X2 hx Bd.returns (D d29_53) hr, hrun, hended, _, _, rfl, ?_, ⟨_, rfl⟩, hW, hsame.mono (by decide) (by decide)⟩
    show Q_own_bor_3 Z b nz cf kb h0 n0 _ T2.heap _
    rw [e2]
    exact ⟨(by unfold own_bd3; rw [if_pos hA2]), NA2, rfl⟩
  · have rw4 : (if (cf 0) = (cf 1) ∧ (cf 1) = (cf 2) then (1 : Int32) else (0 : Int32)) = (0 : Int32) := if_neg hA2
    rw [rw4]
    refine gb T2 m 63 #[vr b, vi 3] [(.int ((3 : Int32) - (1 : Int32))), (.ref b)] (fun u k => XS.ifYes X2.here hx rfl (pc0 := 49) (pc' := 54) rfl (D d29_49) rfl (XT.i0_eq_t (by decide)) (by decide) (by decide) (XS.iloadN X2.here hx rfl (D d29_54) rfl (XT.iconstV X2.here hx rfl (2 : Int32) (D d29_55) (by decide) (XS.icmpNo X2.here hx rfl (D d29_56) rfl (XT.ii_lt_f (by decide)) (XS.aloadN X2.here hx rfl (D d29_59) rfl rfl (XS.iloadN X2.here hx rfl (D d29_60) rfl (XT.iconstV X2.here hx rfl (1 : Int32) (D d29_61) (by decide) (XS.isub X2.here hx rfl (D d29_62) rfl k)))))))) ?_
    have rw5 : ((3 : Int32) - (1 : Int32)) = (2 : Int32) := by decide
    rw [rw5]
    refine gb T2 m 64 #[vr b, vi 3] [(.int 1), (.int 2), (.ref b)] (fun u k => XT.iconstV X2.here hx rfl (1 : Int32) (D d29_63) (by decide) k) ?_
    obtain ⟨_, _, ⟨T6, L6, k6, n6⟩, -, X6, ⟨Lc6, hQ6, l6, y6, z6⟩, st6⟩ := Jvm.LawKit.callS X2 hx (y := mn39) hown (mvT hZ (H 186 rfl)) (mvT hZ (H 187 rfl)) (mvT hZ (H 3 rfl)) (mvT hZ (H 188 rfl)) (by decide) (backOf (W := 0) (own_same_2_1 l Z a0 hw [] b nz cf kb h0 n0 Z0 V_b hnz hle) hZ (H 188 rfl) (H 3 rfl) (by decide) (by decide)) (g := (mkF m 64 #[vr b, vi 3] [(.int 1), (.int 2), (.ref b)])) rfl (by rw [hml]; rfl) (argsL := [(.ref b), (.int 2), (.int 1)]) (rest := []) (lenOf own_pd28 rfl) rfl (own_w0 rfl) (D d29_64) (fun _ _ => ⟨rfl, e2, (by decide : 0 + 0 ≤ _), (by decide : 0 + 0 ≤ _)⟩)
    dsimp only [Pt.U, Pt.locs, Pt.cells, Pt.slots] at X6 l6 y6 z6 st6 hQ6
    subst l6 y6 z6
    obtain ⟨rfl, N6, e6⟩ := hQ6
    have NA6 := Fr.app NA2 N6
    refine gb T6 m 67 #[vr b, vi 3] [(.int (if (cf 0) = (cf 2) then (1 : Int32) else (0 : Int32)))] st6 ?_
    clear st6
    by_cases hA1 : (cf 0) = (cf 2)
    · have rw7 : (if (cf 0) = (cf 2) then (1 : Int32) else (0 : Int32)) = (1 : Int32) := if_pos hA1
      rw [rw7]
      refine gb T6 m 71 #[vr b, vi 3] [(.int 1)] (fun u k => XS.ifNo X6.here hx rfl (D d29_67) rfl (XT.i0_eq_f (by decide)) (XT.iconstV X6.here hx rfl (1 : Int32) (D d29_70) (by decide) k)) ?_
      obtain ⟨fs, hr, hrun, hended, hW, hsame⟩ := X6.leave (v := some (.int 1)) (fun h => by rw [Bd.returns] at h; cases h)
      refine ⟨_, _, retI X6 hx Bd.returns (D d29_71) hr, hrun, hended, _, _, rfl, ?_, ⟨_, rfl⟩, hW, hsame.mono (by decide) (by decide)⟩
      show Q_own_bor_3 Z b nz cf kb h0 n0 _ T6.heap _
      rw [e6]
      exact ⟨(by unfold own_bd3; rw [if_neg hA2, if_pos hA1]), NA6, rfl⟩
    · have rw8 : (if (cf 0) = (cf 2) then (1 : Int32) else (0 : Int32)) = (0 : Int32) := if_neg hA1
      rw [rw8]
      refine gb T6 m 73 #[vr b, vi 3] [(.int 0)] (fun u k => XS.ifYes X6.here hx rfl (pc0 := 67) (pc' := 72) rfl (D d29_67) rfl (XT.i0_eq_t (by decide)) (by decide) (by decide) (XT.iconstV X6.here hx rfl (0 : Int32) (D d29_72) (by decide) k)) ?_
      obtain ⟨fs, hr, hrun, hended, hW, hsame⟩ := X6.leave (v := some (.int 0)) (fun h => by rw [Bd.returns] at h; cases h)
      refine ⟨_, _, retI X6 hx Bd.returns (D d29_73) hr, hrun, hended, _, _, rfl, ?_, ⟨_, rfl⟩, hW, hsame.mono (by decide) (by decide)⟩
      show Q_own_bor_3 Z b nz cf kb h0 n0 _ T6.heap _
      rw [e6]
      exact ⟨(by unfold own_bd3; rw [if_neg hA2, if_neg hA1]), NA6, rfl⟩
theorem own_ef_own_same_3_1 (m : MethodId) (x0 : Addr) : entryFrame m #[(.ref x0), (.int 3), (.int 1)] 3 = mkF m 0 #[.val (.ref x0), .val (.int 3), .val (.int 1)] [] := by first | (simp [entryFrame, mkF, argsToLocals, Value.category]; done) | rfl
def Q_own_same_3_1 (Z : State) (b : Addr) (nz : Nat) (cf : Nat → Int32) (kb : ClassId) (h0 : Heap) (n0 : Nat) (v : Option Value) (h : Heap) (L : List Loc) : Prop := v = some (.int (if (cf 0) = (cf 3) then (1 : Int32) else (0 : Int32))) ∧ Fr n0 L ∧ h = h0
theorem own_same_3_1 (l : Launch) (Z : State) (a0 : Array Value) (hw : ∀ d ∈ tables_1, d.before a0 Z = true) (ws : List Jvm.Cond) (b : Addr) (nz : Nat) (cf : Nat → Int32) (kb : ClassId) (h0 : Heap) (n0 : Nat) (Z0 : n0 ≤ h0.size) (V_b : Arv Z h0 b kb .char (Int32.ofNat nz) (own_l nz cf) (.int 0)) (hnz : nz < 6) (hle : 4 ≤ nz) :
    own_Met l Z mn39 method_4_code 3 (some .boolean) ws rm0 #[(.ref b), (.int 3), (.int 1)] h0 (Q_own_same_3_1 Z b nz cf kb h0 n0) := by
  refine own_start (plainFor_of_name own_pn8) fun p e s m below meth c s₁ Bd hx hby hml hZ hown hnm X0 e0 => ?_
  have H := @own_hw Z a0 hw
  have D := @hb _ _ hby
  have hown : s.vm.findClass "backstitch/NeedleOfPinLaw" = some m.cls := hown
  have N0 := Fr.nil n0
  have K0 := Keep.refl h0 []
  rw [own_ef_own_same_3_1 m b]
  refine gb s₁ m 7 #[vr b, vi 3, vi 1] [(.int 0), (.ref b)] (fun u k => XS.iloadN X0.here hx rfl (D d30_0) rfl (XT.iconstV X0.here hx rfl (1 : Int32) (D d30_1) (by decide) (XS.icmpNo X0.here hx rfl (D d30_2) rfl (XT.ii_lt_f (by decide)) (XS.aloadN X0.here hx rfl (D d30_5) rfl rfl (XT.iconstV X0.here hx rfl (0 : Int32) (D d30_6) (by decide) k))))) ?_
  obtain ⟨cl1, Ar1, aq1, aS1, aM1, aH1, aG1⟩ := id V_b
  refine gb s₁ m 10 #[vr b, vi 3, vi 1] [(.int 3), (.ref b), (.int (cf 0))] (fun u k => X0.caload hx (j := (0 : Int32)) (v := (.int (cf 0))) (by rw [e0]; exact Ar1.1) (State.isArrayOf_alike hZ.alike Ar1.2.1) Ar1.2.2 (inb_of aS1 (own_ib (i := 0) (by omega) (by omega))) (Has.at aH1 (inb_of aS1 (own_ib (i := 0) (by omega) (by omega))) (own_l_at (j := 0) _ (by omega))) (g := (mkF m 7 #[vr b, vi 3, vi 1] [(.int 0), (.ref b)])) rfl rfl (D d30_7) _ (XS.aloadN X0.here hx rfl (D d30_8) rfl rfl (XS.iloadN X0.here hx rfl (D d30_9) rfl k))) ?_
  obtain ⟨cl2, Ar2, aq2, aS2, aM2, aH2, aG2⟩ := id V_b
  refine gb s₁ m 11 #[vr b, vi 3, vi 1] [(.int (cf 3)), (.int (cf 0))] (fun u k => X0.caload hx (j := (3 : Int32)) (v := (.int (cf 3))) (by rw [e0]; exact Ar2.1) (State.isArrayOf_alike hZ.alike Ar2.2.1) Ar2.2.2 (inb_of aS2 (own_ib (i := 3) (by omega) (by omega))) (Has.at aH2 (inb_of aS2 (own_ib (i := 3) (by omega) (by omega))) (own_l_at (j := 3) _ (by omega))) (g := (mkF m 10 #[vr b, vi 3, vi 1] [(.int 3), (.ref b), (.int (cf 0))])) rfl rfl (D d30_10) _ k) ?_
  by_cases hc3 : (cf 0) = (cf 3)
  · refine gb s₁ m 67 #[vr b, vi 3, vi 1] [(.int 1)] (fun u k => XS.icmpNo X0.here hx rfl (D d30_11) rfl (XT.ii_ne_f hc3) (XS.iloadN X0.here hx rfl (D d30_14) rfl (XT.iconstV X0.here hx rfl (2 : Int32) (D d30_15) (by decide) (XS.icmpYes X0.here hx rfl (pc0 := 16) (pc' := 30) rfl (D d30_16) rfl (XT.ii_lt_t (by decide)) (by decide) (by decide) (XS.iloadN X0.here hx rfl (D d30_30) rfl (XT.iconstV X0.here hx rfl (3 : Int32) (D d30_31) (by decide) (XS.icmpYes X0.here hx rfl (pc0 := 32) (pc' := 46) rfl (D d30_32) rfl (XT.ii_lt_t (by decide)) (by decide) (by decide) (XS.iloadN X0.here hx rfl (D d30_46) rfl (XT.iconstV X0.here hx rfl (4 : Int32) (D d30_47) (by decide) (XS.icmpYes X0.here hx rfl (pc0 := 48) (pc' := 62) rfl (D d30_48) rfl (XT.ii_lt_t (by decide)) (by decide) (by decide) (XT.iconstV X0.here hx rfl (1 : Int32) (D d30_62) (by decide) (XS.goto X0.here hx rfl (pc0 := 63) (pc' := 67) rfl (D d30_63) (by decide) (by decide) k)))))))))))) ?_
    obtain ⟨fs, hr, hrun, hended, hW, hsame⟩ := X0.leave (v := some (.int 1)) (fun h => by rw [Bd.returns] at h; cases h)
    refine ⟨_, _, retN X0 hx (t := .boolean) Bd.returns (by simp) (D d30_67) hr, hrun, hended, _, _, rfl, ?_, ⟨_, rfl⟩, hW, hsame.mono (by decide) (by decide)⟩
    show Q_own_same_3_1 Z b nz cf kb h0 n0 _ s₁.heap _
    rw [e0]
    exact ⟨(by rw [if_pos hc3]), N0, rfl⟩
  · refine gb s₁ m 67 #[vr b, vi 3, vi 1] [(.int 0)] (fun u k => XS.icmpYes X0.here hx rfl (pc0 := 11) (pc' := 66) rfl (D d30_11) rfl (XT.ii_ne_t hc3) (by decide) (by decide) (XT.iconstV X0.here hx rfl (0 : Int32) (D d30_66) (by decide) k)) ?_
    obtain ⟨fs, hr, hrun, hended, hW, hsame⟩ := X0.leave (v := some (.int 0)) (fun h => by rw [Bd.returns] at h; cases h)
    refine ⟨_, _, retN X0 hx (t := .boolean) Bd.returns (by simp) (D d30_67) hr, hrun, hended, _, _, rfl, ?_, ⟨_, rfl⟩, hW, hsame.mono (by decide) (by decide)⟩
    show Q_own_same_3_1 Z b nz cf kb h0 n0 _ s₁.heap _
    rw [e0]
    exact ⟨(by rw [if_neg (fun q => hc3 q)]), N0, rfl⟩
theorem own_ef_own_same_2_2 (m : MethodId) (x0 : Addr) : entryFrame m #[(.ref x0), (.int 2), (.int 2)] 3 = mkF m 0 #[.val (.ref x0), .val (.int 2), .val (.int 2)] [] := by first | (simp [entryFrame, mkF, argsToLocals, Value.category]; done) | rfl
def Q_own_same_2_2 (Z : State) (b : Addr) (nz : Nat) (cf : Nat → Int32) (kb : ClassId) (h0 : Heap) (n0 : Nat) (v : Option Value) (h : Heap) (L : List Loc) : Prop := v = some (.int (if (cf 0) = (cf 2) ∧ (cf 1) = (cf 3) then (1 : Int32) else (0 : Int32))) ∧ Fr n0 L ∧ h = h0
theorem own_same_2_2 (l : Launch) (Z : State) (a0 : Array Value) (hw : ∀ d ∈ tables_1, d.before a0 Z = true) (ws : List Jvm.Cond) (b : Addr) (nz : Nat) (cf : Nat → Int32) (kb : ClassId) (h0 : Heap) (n0 : Nat) (Z0 : n0 ≤ h0.size) (V_b : Arv Z h0 b kb .char (Int32.ofNat nz) (own_l nz cf) (.int 0)) (hnz : nz < 6) (hle : 4 ≤ nz) :
    own_Met l Z mn39 method_4_code 3 (some .boolean) ws rm0 #[(.ref b), (.int 2), (.int 2)] h0 (Q_own_same_2_2 Z b nz cf kb h0 n0) := by
  refine own_start (plainFor_of_name own_pn8) fun p e s m below meth c s₁ Bd hx hby hml hZ hown hnm X0 e0 => ?_
  have H := @own_hw Z a0 hw
  have D := @hb _ _ hby
  have hown : s.vm.findClass "backstitch/NeedleOfPinLaw" = some m.cls := hown
  have N0 := Fr.nil n0
  have K0 := Keep.refl h0 []
  rw [own_ef_own_same_2_2 m b]
  refine gb s₁ m 7 #[vr b, vi 2, vi 2] [(.int 0), (.ref b)] (fun u k => XS.iloadN X0.here hx rfl (D d30_0) rfl (XT.iconstV X0.here hx rfl (1 : Int32) (D d30_1) (by decide) (XS.icmpNo X0.here hx rfl (D d30_2) rfl (XT.ii_lt_f (by decide)) (XS.aloadN X0.here hx rfl (D d30_5) rfl rfl (XT.iconstV X0.here hx rfl (0 : Int32) (D d30_6) (by decide) k))))) ?_
  obtain ⟨cl1, Ar1, aq1, aS1, aM1, aH1, aG1⟩ := id V_b
  refine gb s₁ m 10 #[vr b, vi 2, vi 2] [(.int 2), (.ref b), (.int (cf 0))] (fun u k => X0.caload hx (j := (0 : Int32)) (v := (.int (cf 0))) (by rw [e0]; exact Ar1.1) (State.isArrayOf_alike hZ.alike Ar1.2.1) Ar1.2.2 (inb_of aS1 (own_ib (i := 0) (by omega) (by omega))) (Has.at aH1 (inb_of aS1 (own_ib (i := 0) (by omega) (by omega))) (own_l_at (j := 0) _ (by omega))) (g := (mkF m 7 #[vr b, vi 2, vi 2] [(.int 0), (.ref b)])) rfl rfl (D d30_7) _ (XS.aloadN X0.here hx rfl (D d30_8) rfl rfl (XS.iloadN X0.here hx rfl (D d30_9) rfl k))) ?_
  obtain ⟨cl2, Ar2, aq2, aS2, aM2, aH2, aG2⟩ := id V_b
  refine gb s₁ m 11 #[vr b, vi 2, vi 2] [(.int (cf 2)), (.int (cf 0))] (fun u k => X0.caload hx (j := (2 : Int32)) (v := (.int (cf 2))) (by rw [e0]; exact Ar2.1) (State.isArrayOf_alike hZ.alike Ar2.2.1) Ar2.2.2 (inb_of aS2 (own_ib (i := 2) (by omega) (by omega))) (Has.at aH2 (inb_of aS2 (own_ib (i := 2) (by omega) (by omega))) (own_l_at (j := 2) _ (by omega))) (g := (mkF m 10 #[vr b, vi 2, vi 2] [(.int 2), (.ref b), (.int (cf 0))])) rfl rfl (D d30_10) _ k) ?_
  by_cases hc3 : (cf 0) = (cf 2)
  · refine gb s₁ m 21 #[vr b, vi 2, vi 2] [(.int 1), (.ref b)] (fun u k => XS.icmpNo X0.here hx rfl (D d30_11) rfl (XT.ii_ne_f hc3) (XS.iloadN X0.here hx rfl (D d30_14) rfl (XT.iconstV X0.here hx rfl (2 : Int32) (D d30_15) (by decide) (XS.icmpNo X0.here hx rfl (D d30_16) rfl (XT.ii_lt_f (by decide)) (XS.aloadN X0.here hx rfl (D d30_19) rfl rfl (XT.iconstV X0.here hx rfl (1 : Int32) (D d30_20) (by decide) k)))))) ?_
    obtain ⟨cl4, Ar4, aq4, aS4, aM4, aH4, aG4⟩ := id V_b
    refine gb s₁ m 26 #[vr b, vi 2, vi 2] [(.int ((2 : Int32) + (1 : Int32))), (.ref b), (.int (cf 1))] (fun u k => X0.caload hx (j := (1 : Int32)) (v := (.int (cf 1))) (by rw [e0]; exact Ar4.1) (State.isArrayOf_alike hZ.alike Ar4.2.1) Ar4.2.2 (inb_of aS4 (own_ib (i := 1) (by omega) (by omega))) (Has.at aH4 (inb_of aS4 (own_ib (i := 1) (by omega) (by omega))) (own_l_at (j := 1) _ (by omega))) (g := (mkF m 21 #[vr b, vi 2, vi 2] [(.int 1), (.ref b)])) rfl rfl (D d30_21) _ (XS.aloadN X0.here hx rfl (D d30_22) rfl rfl (XS.iloadN X0.here hx rfl (D d30_23) rfl (XT.iconstV X0.here hx rfl (1 : Int32) (D d30_24) (by decide) (XS.iadd X0.here hx rfl (D d30_25) rfl k))))) ?_
    have rw5 : ((2 : Int32) + (1 : Int32)) = (3 : Int32) := by decide
    rw [rw5]
    obtain ⟨cl6, Ar6, aq6, aS6, aM6, aH6, aG6⟩ := id V_b
    refine gb s₁ m 27 #[vr b, vi 2, vi 2] [(.int (cf 3)), (.int (cf 1))] (fun u k => X0.caload hx (j := (3 : Int32)) (v := (.int (cf 3))) (by rw [e0]; exact Ar6.1) (State.isArrayOf_alike hZ.alike Ar6.2.1) Ar6.2.2 (inb_of aS6 (own_ib (i := 3) (by omega) (by omega))) (Has.at aH6 (inb_of aS6 (own_ib (i := 3) (by omega) (by omega))) (own_l_at (j := 3) _ (by omega))) (g := (mkF m 26 #[vr b, vi 2, vi 2] [(.int 3), (.ref b), (.int (cf 1))])) rfl rfl (D d30_26) _ k) ?_
    by_cases hc7 : (cf 1) = (cf 3)
    · refine gb s₁ m 67 #[vr b, vi 2, vi 2] [(.int 1)] (fun u k => XS.icmpNo X0.here hx rfl (D d30_27) rfl (XT.ii_ne_f hc7) (XS.iloadN X0.here hx rfl (D d30_30) rfl (XT.iconstV X0.here hx rfl (3 : Int32) (D d30_31) (by decide) (XS.icmpYes X0.here hx rfl (pc0 := 32) (pc' := 46) rfl (D d30_32) rfl (XT.ii_lt_t (by decide)) (by decide) (by decide) (XS.iloadN X0.here hx rfl (D d30_46) rfl (XT.iconstV X0.here hx rfl (4 : Int32) (D d30_47) (by decide) (XS.icmpYes X0.here hx rfl (pc0 := 48) (pc' := 62) rfl (D d30_48) rfl (XT.ii_lt_t (by decide)) (by decide) (by decide) (XT.iconstV X0.here hx rfl (1 : Int32) (D d30_62) (by decide) (XS.goto X0.here hx rfl (pc0 := 63) (pc' := 67) rfl (D d30_63) (by decide) (by decide) k))))))))) ?_
      obtain ⟨fs, hr, hrun, hended, hW, hsame⟩ := X0.leave (v := some (.int 1)) (fun h => by rw [Bd.returns] at h; cases h)
      refine ⟨_, _, retN X0 hx (t := .boolean) Bd.returns (by simp) (D d30_67) hr, hrun, hended, _, _, rfl, ?_, ⟨_, rfl⟩, hW, hsame.mono (by decide) (by decide)⟩
      show Q_own_same_2_2 Z b nz cf kb h0 n0 _ s₁.heap _
      rw [e0]
      exact ⟨(by rw [if_pos ⟨hc3, hc7⟩]), N0, rfl⟩
    · refine gb s₁ m 67 #[vr b, vi 2, vi 2] [(.int 0)] (fun u k => XS.icmpYes X0.here hx rfl (pc0 := 27) (pc' := 66) rfl (D d30_27) rfl (XT.ii_ne_t hc7) (by decide) (by decide) (XT.iconstV X0.here hx rfl (0 : Int32) (D d30_66) (by decide) k)) ?_
      obtain ⟨fs, hr, hrun, hended, hW, hsame⟩ := X0.leave (v := some (.int 0)) (fun h => by rw [Bd.returns] at h; cases h)
      refine ⟨_, _, retN X0 hx (t := .boolean) Bd.returns (by simp) (D d30_67) hr, hrun, hended, _, _, rfl, ?_, ⟨_, rfl⟩, hW, hsame.mono (by decide) (by decide)⟩
      show Q_own_same_2_2 Z b nz cf kb h0 n0 _ s₁.heap _
      rw [e0]
      exact ⟨(by rw [if_neg (fun q => hc7 q.2)]), N0, rfl⟩
  · refine gb s₁ m 67 #[vr b, vi 2, vi 2] [(.int 0)] (fun u k => XS.icmpYes X0.here hx rfl (pc0 := 11) (pc' := 66) rfl (D d30_11) rfl (XT.ii_ne_t hc3) (by decide) (by decide) (XT.iconstV X0.here hx rfl (0 : Int32) (D d30_66) (by decide) k)) ?_
    obtain ⟨fs, hr, hrun, hended, hW, hsame⟩ := X0.leave (v := some (.int 0)) (fun h => by rw [Bd.returns] at h; cases h)
    refine ⟨_, _, retN X0 hx (t := .boolean) Bd.returns (by simp) (D d30_67) hr, hrun, hended, _, _, rfl, ?_, ⟨_, rfl⟩, hW, hsame.mono (by decide) (by decide)⟩
    show Q_own_same_2_2 Z b nz cf kb h0 n0 _ s₁.heap _
    rw [e0]
    exact ⟨(by rw [if_neg (fun q => hc3 q.1)]), N0, rfl⟩
theorem own_ef_own_same_1_3 (m : MethodId) (x0 : Addr) : entryFrame m #[(.ref x0), (.int 1), (.int 3)] 3 = mkF m 0 #[.val (.ref x0), .val (.int 1), .val (.int 3)] [] := by first | (simp [entryFrame, mkF, argsToLocals, Value.category]; done) | rfl
def Q_own_same_1_3 (Z : State) (b : Addr) (nz : Nat) (cf : Nat → Int32) (kb : ClassId) (h0 : Heap) (n0 : Nat) (v : Option Value) (h : Heap) (L : List Loc) : Prop := v = some (.int (if (cf 0) = (cf 1) ∧ (cf 1) = (cf 2) ∧ (cf 2) = (cf 3) then (1 : Int32) else (0 : Int32))) ∧ Fr n0 L ∧ h = h0
theorem own_same_1_3 (l : Launch) (Z : State) (a0 : Array Value) (hw : ∀ d ∈ tables_1, d.before a0 Z = true) (ws : List Jvm.Cond) (b : Addr) (nz : Nat) (cf : Nat → Int32) (kb : ClassId) (h0 : Heap) (n0 : Nat) (Z0 : n0 ≤ h0.size) (V_b : Arv Z h0 b kb .char (Int32.ofNat nz) (own_l nz cf) (.int 0)) (hnz : nz < 6) (hle : 4 ≤ nz) :
    own_Met l Z mn39 method_4_code 3 (some .boolean) ws rm0 #[(.ref b), (.int 1), (.int 3)] h0 (Q_own_same_1_3 Z b nz cf kb h0 n0) := by
  refine own_start (plainFor_of_name own_pn8) fun p e s m below meth c s₁ Bd hx hby hml hZ hown hnm X0 e0 => ?_
  have H := @own_hw Z a0 hw
  have D := @hb _ _ hby
  have hown : s.vm.findClass "backstitch/NeedleOfPinLaw" = some m.cls := hown
  have N0 := Fr.nil n0
  have K0 := Keep.refl h0 []
  rw [own_ef_own_same_1_3 m b]
  refine gb s₁ m 7 #[vr b, vi 1, vi 3] [(.int 0), (.ref b)] (fun u k => XS.iloadN X0.here hx rfl (D d30_0) rfl (XT.iconstV X0.here hx rfl (1 : Int32) (D d30_1) (by decide) (XS.icmpNo X0.here hx rfl (D d30_2) rfl (XT.ii_lt_f (by decide)) (XS.aloadN X0.here hx rfl (D d30_5) rfl rfl (XT.iconstV X0.here hx rfl (0 : Int32) (D d30_6) (by decide) k))))) ?_
  obtain ⟨cl1, Ar1, aq1, aS1, aM1, aH1, aG1⟩ := id V_b
  refine gb s₁ m 10 #[vr b, vi 1, vi 3] [(.int 1), (.ref b), (.int (cf 0))] (fun u k => X0.caload hx (j := (0 : Int32)) (v := (.int (cf 0))) (by rw [e0]; exact Ar1.1) (State.isArrayOf_alike hZ.alike Ar1.2.1) Ar1.2.2 (inb_of aS1 (own_ib (i := 0) (by omega) (by omega))) (Has.at aH1 (inb_of aS1 (own_ib (i := 0) (by omega) (by omega))) (own_l_at (j := 0) _ (by omega))) (g := (mkF m 7 #[vr b, vi 1, vi 3] [(.int 0), (.ref b)])) rfl rfl (D d30_7) _ (XS.aloadN X0.here hx rfl (D d30_8) rfl rfl (XS.iloadN X0.here hx rfl (D d30_9) rfl k))) ?_
  obtain ⟨cl2, Ar2, aq2, aS2, aM2, aH2, aG2⟩ := id V_b
  refine gb s₁ m 11 #[vr b, vi 1, vi 3] [(.int (cf 1)), (.int (cf 0))] (fun u k => X0.caload hx (j := (1 : Int32)) (v := (.int (cf 1))) (by rw [e0]; exact Ar2.1) (State.isArrayOf_alike hZ.alike Ar2.2.1) Ar2.2.2 (inb_of aS2 (own_ib (i := 1) (by omega) (by omega))) (Has.at aH2 (inb_of aS2 (own_ib (i := 1) (by omega) (by omega))) (own_l_at (j := 1) _ (by omega))) (g := (mkF m 10 #[vr b, vi 1, vi 3] [(.int 1), (.ref b), (.int (cf 0))])) rfl rfl (D d30_10) _ k) ?_
  by_cases hc3 : (cf 0) = (cf 1)
  · refine gb s₁ m 21 #[vr b, vi 1, vi 3] [(.int 1), (.ref b)] (fun u k => XS.icmpNo X0.here hx rfl (D d30_11) rfl (XT.ii_ne_f hc3) (XS.iloadN X0.here hx rfl (D d30_14) rfl (XT.iconstV X0.here hx rfl (2 : Int32) (D d30_15) (by decide) (XS.icmpNo X0.here hx rfl (D d30_16) rfl (XT.ii_lt_f (by decide)) (XS.aloadN X0.here hx rfl (D d30_19) rfl rfl (XT.iconstV X0.here hx rfl (1 : Int32) (D d30_20) (by decide) k)))))) ?_
    obtain ⟨cl4, Ar4, aq4, aS4, aM4, aH4, aG4⟩ := id V_b
    refine gb s₁ m 26 #[vr b, vi 1, vi 3] [(.int ((1 : Int32) + (1 : Int32))), (.ref b), (.int (cf 1))] (fun u k => X0.caload hx (j := (1 : Int32)) (v := (.int (cf 1))) (by rw [e0]; exact Ar4.1) (State.isArrayOf_alike hZ.alike Ar4.2.1) Ar4.2.2 (inb_of aS4 (own_ib (i := 1) (by omega) (by omega))) (Has.at aH4 (inb_of aS4 (own_ib (i := 1) (by omega) (by omega))) (own_l_at (j := 1) _ (by omega))) (g := (mkF m 21 #[vr b, vi 1, vi 3] [(.int 1), (.ref b)])) rfl rfl (D d30_21) _ (XS.aloadN X0.here hx rfl (D d30_22) rfl rfl (XS.iloadN X0.here hx rfl (D d30_23) rfl (XT.iconstV X0.here hx rfl (1 : Int32) (D d30_24) (by decide) (XS.iadd X0.here hx rfl (D d30_25) rfl k))))) ?_
    have rw5 : ((1 : Int32) + (1 : Int32)) = (2 : Int32) := by decide
    rw [rw5]
    obtain ⟨cl6, Ar6, aq6, aS6, aM6, aH6, aG6⟩ := id V_b
    refine gb s₁ m 27 #[vr b, vi 1, vi 3] [(.int (cf 2)), (.int (cf 1))] (fun u k => X0.caload hx (j := (2 : Int32)) (v := (.int (cf 2))) (by rw [e0]; exact Ar6.1) (State.isArrayOf_alike hZ.alike Ar6.2.1) Ar6.2.2 (inb_of aS6 (own_ib (i := 2) (by omega) (by omega))) (Has.at aH6 (inb_of aS6 (own_ib (i := 2) (by omega) (by omega))) (own_l_at (j := 2) _ (by omega))) (g := (mkF m 26 #[vr b, vi 1, vi 3] [(.int 2), (.ref b), (.int (cf 1))])) rfl rfl (D d30_26) _ k) ?_
    by_cases hc7 : (cf 1) = (cf 2)
    · refine gb s₁ m 37 #[vr b, vi 1, vi 3] [(.int 2), (.ref b)] (fun u k => XS.icmpNo X0.here hx rfl (D d30_27) rfl (XT.ii_ne_f hc7) (XS.iloadN X0.here hx rfl (D d30_30) rfl (XT.iconstV X0.here hx rfl (3 : Int32) (D d30_31) (by decide) (XS.icmpNo X0.here hx rfl (D d30_32) rfl (XT.ii_lt_f (by decide)) (XS.aloadN X0.here hx rfl (D d30_35) rfl rfl (XT.iconstV X0.here hx rfl (2 : Int32) (D d30_36) (by decide) k)))))) ?_
      obtain ⟨cl8, Ar8, aq8, aS8, aM8, aH8, aG8⟩ := id V_b
      refine gb s₁ m 42 #[vr b, vi 1, vi 3] [(.int ((1 : Int32) + (2 : Int32))), (.ref b), (.int (cf 2))] (fun u k => X0.caload hx (j := (2 : Int32)) (v := (.int (cf 2))) (by rw [e0]; exact Ar8.1) (State.isArrayOf_alike hZ.alike Ar8.2.1) Ar8.2.2 (inb_of aS8 (own_ib (i := 2) (by omega) (by omega))) (Has.at aH8 (inb_of aS8 (own_ib (i := 2) (by omega) (by omega))) (own_l_at (j := 2) _ (by omega))) (g := (mkF m 37 #[vr b, vi 1, vi 3] [(.int 2), (.ref b)])) rfl rfl (D d30_37) _ (XS.aloadN X0.here hx rfl (D d30_38) rfl rfl (XS.iloadN X0.here hx rfl (D d30_39) rfl (XT.iconstV X0.here hx rfl (2 : Int32) (D d30_40) (by decide) (XS.iadd X0.here hx rfl (D d30_41) rfl k))))) ?_
      have rw9 : ((1 : Int32) + (2 : Int32)) = (3 : Int32) := by decide
      rw [rw9]
      obtain ⟨cl10, Ar10, aq10, aS10, aM10, aH10, aG10⟩ := id V_b
      refine gb s₁ m 43 #[vr b, vi 1, vi 3] [(.int (cf 3)), (.int (cf 2))] (fun u k => X0.caload hx (j := (3 : Int32)) (v := (.int (cf 3))) (by rw [e0]; exact Ar10.1) (State.isArrayOf_alike hZ.alike Ar10.2.1) Ar10.2.2 (inb_of aS10 (own_ib (i := 3) (by omega) (by omega))) (Has.at aH10 (inb_of aS10 (own_ib (i := 3) (by omega) (by omega))) (own_l_at (j := 3) _ (by omega))) (g := (mkF m 42 #[vr b, vi 1, vi 3] [(.int 3), (.ref b), (.int (cf 2))])) rfl rfl (D d30_42) _ k) ?_
      by_cases hc11 : (cf 2) = (cf 3)
      · refine gb s₁ m 67 #[vr b, vi 1, vi 3] [(.int 1)] (fun u k => XS.icmpNo X0.here hx rfl (D d30_43) rfl (XT.ii_ne_f hc11) (XS.iloadN X0.here hx rfl (D d30_46) rfl (XT.iconstV X0.here hx rfl (4 : Int32) (D d30_47) (by decide) (XS.icmpYes X0.here hx rfl (pc0 := 48) (pc' := 62) rfl (D d30_48) rfl (XT.ii_lt_t (by decide)) (by decide) (by decide) (XT.iconstV X0.here hx rfl (1 : Int32) (D d30_62) (by decide) (XS.goto X0.here hx rfl (pc0 := 63) (pc' := 67) rfl (D d30_63) (by decide) (by decide) k)))))) ?_
        obtain ⟨fs, hr, hrun, hended, hW, hsame⟩ := X0.leave (v := some (.int 1)) (fun h => by rw [Bd.returns] at h; cases h)
        refine ⟨_, _, retN X0 hx (t := .boolean) Bd.returns (by simp) (D d30_67) hr, hrun, hended, _, _, rfl, ?_, ⟨_, rfl⟩, hW, hsame.mono (by decide) (by decide)⟩
        show Q_own_same_1_3 Z b nz cf kb h0 n0 _ s₁.heap _
        rw [e0]
        exact ⟨(by rw [if_pos ⟨hc3, hc7, hc11⟩]), N0, rfl⟩
      · refine gb s₁ m 67 #[vr b, vi 1, vi 3] [(.int 0)] (fun u k => XS.icmpYes X0.here hx rfl (pc0 := 43) (pc' := 66) rfl (D d30_43) rfl (XT.ii_ne_t hc11) (by decide) (by decide) (XT.iconstV X0.here hx rfl (0 : Int32) (D d30_66) (by decide) k)) ?_
        obtain ⟨fs, hr, hrun, hended, hW, hsame⟩ := X0.leave (v := some (.int 0)) (fun h => by rw [Bd.returns] at h; cases h)
        refine ⟨_, _, retN X0 hx (t := .boolean) Bd.returns (by simp) (D d30_67) hr, hrun, hended, _, _, rfl, ?_, ⟨_, rfl⟩, hW, hsame.mono (by decide) (by decide)⟩
        show Q_own_same_1_3 Z b nz cf kb h0 n0 _ s₁.heap _
        rw [e0]
        exact ⟨(by rw [if_neg (fun q => hc11 q.2.2)]), N0, rfl⟩
    · refine gb s₁ m 67 #[vr b, vi 1, vi 3] [(.int 0)] (fun u k => XS.icmpYes X0.here hx rfl (pc0 := 27) (pc' := 66) rfl (D d30_27) rfl (XT.ii_ne_t hc7) (by decide) (by decide) (XT.iconstV X0.here hx rfl (0 : Int32) (D d30_66) (by decide) k)) ?_
      obtain ⟨fs, hr, hrun, hended, hW, hsame⟩ := X0.leave (v := some (.int 0)) (fun h => by rw [Bd.returns] at h; cases h)
      refine ⟨_, _, retN X0 hx (t := .boolean) Bd.returns (by simp) (D d30_67) hr, hrun, hended, _, _, rfl, ?_, ⟨_, rfl⟩, hW, hsame.mono (by decide) (by decide)⟩
      show Q_own_same_1_3 Z b nz cf kb h0 n0 _ s₁.heap _
      rw [e0]
      exact ⟨(by rw [if_neg (fun q => hc7 q.2.1)]), N0, rfl⟩
  · refine gb s₁ m 67 #[vr b, vi 1, vi 3] [(.int 0)] (fun u k => XS.icmpYes X0.here hx rfl (pc0 := 11) (pc' := 66) rfl (D d30_11) rfl (XT.ii_ne_t hc3) (by decide) (by decide) (XT.iconstV X0.here hx rfl (0 : Int32) (D d30_66) (by decide) k)) ?_
    obtain ⟨fs, hr, hrun, hended, hW, hsame⟩ := X0.leave (v := some (.int 0)) (fun h => by rw [Bd.returns] at h; cases h)
    refine ⟨_, _, retN X0 hx (t := .boolean) Bd.returns (by simp) (D d30_67) hr, hrun, hended, _, _, rfl, ?_, ⟨_, rfl⟩, hW, hsame.mono (by decide) (by decide)⟩
    show Q_own_same_1_3 Z b nz cf kb h0 n0 _ s₁.heap _
    rw [e0]
    exact ⟨(by rw [if_neg (fun q => hc3 q.1)]), N0, rfl⟩
theorem own_ef_own_bor_4 (m : MethodId) (x0 : Addr) : entryFrame m #[(.ref x0), (.int 4)] 2 = mkF m 0 #[.val (.ref x0), .val (.int 4)] [] := by first | (simp [entryFrame, mkF, argsToLocals, Value.category]; done) | rfl
def Q_own_bor_4 (Z : State) (b : Addr) (nz : Nat) (cf : Nat → Int32) (kb : ClassId) (h0 : Heap) (n0 : Nat) (v : Option Value) (h : Heap) (L : List Loc) : Prop := v = some (.int (own_bd4 (cf 0) (cf 1) (cf 2) (cf 3))) ∧ Fr n0 L ∧ h = h0
theorem own_bor_4 (l : Launch) (Z : State) (a0 : Array Value) (hw : ∀ d ∈ tables_1, d.before a0 Z = true) (ws : List Jvm.Cond) (b : Addr) (nz : Nat) (cf : Nat → Int32) (kb : ClassId) (h0 : Heap) (n0 : Nat) (Z0 : n0 ≤ h0.size) (V_b : Arv Z h0 b kb .char (Int32.ofNat nz) (own_l nz cf) (.int 0)) (hnz : nz < 6) (hle : 4 ≤ nz) :
    own_Met l Z mn38 method_5_code 2 (some .int) ws rm22 #[(.ref b), (.int 4)] h0 (Q_own_bor_4 Z b nz cf kb h0 n0) := by
  refine own_start (plainFor_of_name own_pn8) fun p e s m below meth c s₁ Bd hx hby hml hZ hown hnm X0 e0 => ?_
  have H := @own_hw Z a0 hw
  have D := @hb _ _ hby
  have hown : s.vm.findClass "backstitch/NeedleOfPinLaw" = some m.cls := hown
  have N0 := Fr.nil n0
  have K0 := Keep.refl h0 []
  rw [own_ef_own_bor_4 m b]
  refine gb s₁ m 27 #[vr b, vi 4] [(.int ((4 : Int32) - (3 : Int32))), (.ref b)] (fun u k => XS.iloadN X0.here hx rfl (D d29_0) rfl (XT.iconstV X0.here hx rfl (5 : Int32) (D d29_1) (by decide) (XS.icmpYes X0.here hx rfl (pc0 := 2) (pc' := 18) rfl (D d29_2) rfl (XT.ii_lt_t (by decide)) (by decide) (by decide) (XS.iloadN X0.here hx rfl (D d29_18) rfl (XT.iconstV X0.here hx rfl (4 : Int32) (D d29_19) (by decide) (XS.icmpNo X0.here hx rfl (D d29_20) rfl (XT.ii_lt_f (by decide)) (XS.aloadN X0.here hx rfl (D d29_23) rfl rfl (XS.iloadN X0.here hx rfl (D d29_24) rfl (XT.iconstV X0.here hx rfl (3 : Int32) (D d29_25) (by decide) (XS.isub X0.here hx rfl (D d29_26) rfl k)))))))))) ?_
  have rw1 : ((4 : Int32) - (3 : Int32)) = (1 : Int32) := by decide
  rw [rw1]
  refine gb s₁ m 28 #[vr b, vi 4] [(.int 3), (.int 1), (.ref b)] (fun u k => XT.iconstV X0.here hx rfl (3 : Int32) (D d29_27) (by decide) k) ?_
  obtain ⟨_, _, ⟨T2, L2, k2, n2⟩, -, X2, ⟨Lc2, hQ2, l2, y2, z2⟩, st2⟩ := Jvm.LawKit.callS X0 hx (y := mn39) hown (mvT hZ (H 186 rfl)) (mvT hZ (H 187 rfl)) (mvT hZ (H 3 rfl)) (mvT hZ (H 188 rfl)) (by decide) (backOf (W := 0) (own_same_1_3 l Z a0 hw [] b nz cf kb h0 n0 Z0 V_b hnz hle) hZ (H 188 rfl) (H 3 rfl) (by decide) (by decide)) (g := (mkF m 28 #[vr b, vi 4] [(.int 3), (.int 1), (.ref b)])) rfl (by rw [hml]; rfl) (argsL := [(.ref b), (.int 1), (.int 3)]) (rest := []) (lenOf own_pd28 rfl) rfl (own_w0 rfl) (D d29_28) (fun _ _ => ⟨rfl, e0, (by decide : 0 + 0 ≤ _), (by decide : 0 + 0 ≤ _)⟩)
  dsimp only [Pt.U, Pt.locs, Pt.cells, Pt.slots] at X2 l2 y2 z2 st2 hQ2
  subst l2 y2 z2
  obtain ⟨rfl, N2, e2⟩ := hQ2
  have NA2 := Fr.app N0 N2
  refine gb T2 m 31 #[vr b, vi 4] [(.int (if (cf 0) = (cf 1) ∧ (cf 1) = (cf 2) ∧ (cf 2) = (cf 3) then (1 : Int32) else (0 : Int32)))] st2 ?_
  clear st2
  by_cases hA3 : (cf 0) = (cf 1) ∧ (cf 1) = (cf 2) ∧ (cf 2) = (cf 3)
  · have rw3 : (if (cf 0) = (cf 1) ∧ (cf 1) = (cf 2) ∧ (cf 2) = (cf 3) then (1 : Int32) else (0 : Int32)) = (1 : Int32) := if_pos hA3
    rw [rw3]
    refine gb T2 m 35 #[vr b, vi 4] [(.int 3)] (fun u k => XS.ifNo X2.here hx rfl (D d29_31) rfl (XT.i0_eq_f (by decide)) (XT.iconstV X2.here hx rfl (3 : Int32) (D d29_34) (by decide) k)) ?_
    obtain ⟨fs, hr, hrun, hended, hW, hsame⟩ := X2.leave (v := some (.int 3)) (fun h => by rw [Bd.returns] at h; cases h)
    refine ⟨_, _, retI X2 hx Bd.returns (D d29_35) hr, hrun, hended, _, _, rfl, ?_, ⟨_, rfl⟩, hW, hsame.mono (by decide) (by decide)⟩
    show Q_own_bor_4 Z b nz cf kb h0 n0 _ T2.heap _
    rw [e2]
    exact ⟨(by unfold own_bd4; rw [if_pos hA3]), NA2, rfl⟩
  · have rw4 : (if (cf 0) = (cf 1) ∧ (cf 1) = (cf 2) ∧ (cf 2) = (cf 3) then (1 : Int32) else (0 : Int32)) = (0 : Int32) := if_neg hA3
    rw [rw4]
    refine gb T2 m 45 #[vr b, vi 4] [(.int ((4 : Int32) - (2 : Int32))), (.ref b)] (fun u k => XS.ifYes X2.here hx rfl (pc0 := 31) (pc' := 36) rfl (D d29_31) rfl (XT.i0_eq_t (by decide)) (by decide) (by decide) (XS.iloadN X2.here hx rfl (D d29_36) rfl (XT.iconstV X2.here hx rfl (3 : Int32) (D d29_37) (by decide) (XS.icmpNo X2.here hx rfl (D d29_38) rfl (XT.ii_lt_f (by decide)) (XS.aloadN X2.here hx rfl (D d29_41) rfl rfl (XS.iloadN X2.here hx rfl (D d29_42) rfl (XT.iconstV X2.here hx rfl (2 : Int32) (D d29_43) (by decide) (XS.isub X2.here hx rfl (D d29_44) rfl k)))))))) ?_
    have rw5 : ((4 : Int32) - (2 : Int32)) = (2 : Int32) := by decide
    rw [rw5]
    refine gb T2 m 46 #[vr b, vi 4] [(.int 2), (.int 2), (.ref b)] (fun u k => XT.iconstV X2.here hx rfl (2 : Int32) (D d29_45) (by decide) k) ?_
    obtain ⟨_, _, ⟨T6, L6, k6, n6⟩, -, X6, ⟨Lc6, hQ6, l6, y6, z6⟩, st6⟩ := Jvm.LawKit.callS X2 hx (y := mn39) hown (mvT hZ (H 186 rfl)) (mvT hZ (H 187 rfl)) (mvT hZ (H 3 rfl)) (mvT hZ (H 188 rfl)) (by decide) (backOf (W := 0) (own_same_2_2 l Z a0 hw [] b nz cf kb h0 n0 Z0 V_b hnz hle) hZ (H 188 rfl) (H 3 rfl) (by decide) (by decide)) (g := (mkF m 46 #[vr b, vi 4] [(.int 2), (.int 2), (.ref b)])) rfl (by rw [hml]; rfl) (argsL := [(.ref b), (.int 2), (.int 2)]) (rest := []) (lenOf own_pd28 rfl) rfl (own_w0 rfl) (D d29_46) (fun _ _ => ⟨rfl, e2, (by decide : 0 + 0 ≤ _), (by decide : 0 + 0 ≤ _)⟩)
    dsimp only [Pt.U, Pt.locs, Pt.cells, Pt.slots] at X6 l6 y6 z6 st6 hQ6
    subst l6 y6 z6
    obtain ⟨rfl, N6, e6⟩ := hQ6
    have NA6 := Fr.app NA2 N6
    refine gb T6 m 49 #[vr b, vi 4] [(.int (if (cf 0) = (cf 2) ∧ (cf 1) = (cf 3) then (1 : Int32) else (0 : Int32)))] st6 ?_
    clear st6
    by_cases hA2 : (cf 0) = (cf 2) ∧ (cf 1) = (cf 3)
    · have rw7 : (if (cf 0) = (cf 2) ∧ (cf 1) = (cf 3) then (1 : Int32) else (0 : Int32)) = (1 : Int32) := if_pos hA2
      rw [rw7]
      refine gb T6 m 53 #[vr b, vi 4] [(.int 2)] (fun u k => XS.ifNo X6.here hx rfl (D d29_49) rfl (XT.i0_eq_f (by decide)) (XT.iconstV X6.here hx rfl (2 : Int32) (D d29_52) (by decide) k)) ?_
      obtain ⟨fs, hr, hrun, hended, hW, hsame⟩ := X6.leave (v := some (.int 2)) (fun h => by rw [Bd.returns] at h; cases h)
      refine ⟨_, _, retI X6 hx Bd.returns (D d29_53) hr, hrun, hended, _, _, rfl, ?_, ⟨_, rfl⟩, hW, hsame.mono (by decide) (by decide)⟩
      show Q_own_bor_4 Z b nz cf kb h0 n0 _ T6.heap _
      rw [e6]
      exact ⟨(by unfold own_bd4; rw [if_neg hA3, if_pos hA2]), NA6, rfl⟩
    · have rw8 : (if (cf 0) = (cf 2) ∧ (cf 1) = (cf 3) then (1 : Int32) else (0 : Int32)) = (0 : Int32) := if_neg hA2
      rw [rw8]
      refine gb T6 m 63 #[vr b, vi 4] [(.int ((4 : Int32) - (1 : Int32))), (.ref b)] (fun u k => XS.ifYes X6.here hx rfl (pc0 := 49) (pc' := 54) rfl (D d29_49) rfl (XT.i0_eq_t (by decide)) (by decide) (by decide) (XS.iloadN X6.here hx rfl (D d29_54) rfl (XT.iconstV X6.here hx rfl (2 : Int32) (D d29_55) (by decide) (XS.icmpNo X6.here hx rfl (D d29_56) rfl (XT.ii_lt_f (by decide)) (XS.aloadN X6.here hx rfl (D d29_59) rfl rfl (XS.iloadN X6.here hx rfl (D d29_60) rfl (XT.iconstV X6.here hx rfl (1 : Int32) (D d29_61) (by decide) (XS.isub X6.here hx rfl (D d29_62) rfl k)))))))) ?_
      have rw9 : ((4 : Int32) - (1 : Int32)) = (3 : Int32) := by decide
      rw [rw9]
      refine gb T6 m 64 #[vr b, vi 4] [(.int 1), (.int 3), (.ref b)] (fun u k => XT.iconstV X6.here hx rfl (1 : Int32) (D d29_63) (by decide) k) ?_
      obtain ⟨_, _, ⟨T10, L10, k10, n10⟩, -, X10, ⟨Lc10, hQ10, l10, y10, z10⟩, st10⟩ := Jvm.LawKit.callS X6 hx (y := mn39) hown (mvT hZ (H 186 rfl)) (mvT hZ (H 187 rfl)) (mvT hZ (H 3 rfl)) (mvT hZ (H 188 rfl)) (by decide) (backOf (W := 0) (own_same_3_1 l Z a0 hw [] b nz cf kb h0 n0 Z0 V_b hnz hle) hZ (H 188 rfl) (H 3 rfl) (by decide) (by decide)) (g := (mkF m 64 #[vr b, vi 4] [(.int 1), (.int 3), (.ref b)])) rfl (by rw [hml]; rfl) (argsL := [(.ref b), (.int 3), (.int 1)]) (rest := []) (lenOf own_pd28 rfl) rfl (own_w0 rfl) (D d29_64) (fun _ _ => ⟨rfl, e6, (by decide : 0 + 0 ≤ _), (by decide : 0 + 0 ≤ _)⟩)
      dsimp only [Pt.U, Pt.locs, Pt.cells, Pt.slots] at X10 l10 y10 z10 st10 hQ10
      subst l10 y10 z10
      obtain ⟨rfl, N10, e10⟩ := hQ10
      have NA10 := Fr.app NA6 N10
      refine gb T10 m 67 #[vr b, vi 4] [(.int (if (cf 0) = (cf 3) then (1 : Int32) else (0 : Int32)))] st10 ?_
      clear st10
      by_cases hA1 : (cf 0) = (cf 3)
      · have rw11 : (if (cf 0) = (cf 3) then (1 : Int32) else (0 : Int32)) = (1 : Int32) := if_pos hA1
        rw [rw11]
        refine gb T10 m 71 #[vr b, vi 4] [(.int 1)] (fun u k => XS.ifNo X10.here hx rfl (D d29_67) rfl (XT.i0_eq_f (by decide)) (XT.iconstV X10.here hx rfl (1 : Int32) (D d29_70) (by decide) k)) ?_
        obtain ⟨fs, hr, hrun, hended, hW, hsame⟩ := X10.leave (v := some (.int 1)) (fun h => by rw [Bd.returns] at h; cases h)
        refine ⟨_, _, retI X10 hx Bd.returns (D d29_71) hr, hrun, hended, _, _, rfl, ?_, ⟨_, rfl⟩, hW, hsame.mono (by decide) (by decide)⟩
        show Q_own_bor_4 Z b nz cf kb h0 n0 _ T10.heap _
        rw [e10]
        exact ⟨(by unfold own_bd4; rw [if_neg hA3, if_neg hA2, if_pos hA1]), NA10, rfl⟩
      · have rw12 : (if (cf 0) = (cf 3) then (1 : Int32) else (0 : Int32)) = (0 : Int32) := if_neg hA1
        rw [rw12]
        refine gb T10 m 73 #[vr b, vi 4] [(.int 0)] (fun u k => XS.ifYes X10.here hx rfl (pc0 := 67) (pc' := 72) rfl (D d29_67) rfl (XT.i0_eq_t (by decide)) (by decide) (by decide) (XT.iconstV X10.here hx rfl (0 : Int32) (D d29_72) (by decide) k)) ?_
        obtain ⟨fs, hr, hrun, hended, hW, hsame⟩ := X10.leave (v := some (.int 0)) (fun h => by rw [Bd.returns] at h; cases h)
        refine ⟨_, _, retI X10 hx Bd.returns (D d29_73) hr, hrun, hended, _, _, rfl, ?_, ⟨_, rfl⟩, hW, hsame.mono (by decide) (by decide)⟩
        show Q_own_bor_4 Z b nz cf kb h0 n0 _ T10.heap _
        rw [e10]
        exact ⟨(by unfold own_bd4; rw [if_neg hA3, if_neg hA2, if_neg hA1]), NA10, rfl⟩
theorem own_ef_own_same_4_1 (m : MethodId) (x0 : Addr) : entryFrame m #[(.ref x0), (.int 4), (.int 1)] 3 = mkF m 0 #[.val (.ref x0), .val (.int 4), .val (.int 1)] [] := by first | (simp [entryFrame, mkF, argsToLocals, Value.category]; done) | rfl
def Q_own_same_4_1 (Z : State) (b : Addr) (nz : Nat) (cf : Nat → Int32) (kb : ClassId) (h0 : Heap) (n0 : Nat) (v : Option Value) (h : Heap) (L : List Loc) : Prop := v = some (.int (if (cf 0) = (cf 4) then (1 : Int32) else (0 : Int32))) ∧ Fr n0 L ∧ h = h0
theorem own_same_4_1 (l : Launch) (Z : State) (a0 : Array Value) (hw : ∀ d ∈ tables_1, d.before a0 Z = true) (ws : List Jvm.Cond) (b : Addr) (nz : Nat) (cf : Nat → Int32) (kb : ClassId) (h0 : Heap) (n0 : Nat) (Z0 : n0 ≤ h0.size) (V_b : Arv Z h0 b kb .char (Int32.ofNat nz) (own_l nz cf) (.int 0)) (hnz : nz < 6) (hle : 5 ≤ nz) :
    own_Met l Z mn39 method_4_code 3 (some .boolean) ws rm0 #[(.ref b), (.int 4), (.int 1)] h0 (Q_own_same_4_1 Z b nz cf kb h0 n0) := by
  refine own_start (plainFor_of_name own_pn8) fun p e s m below meth c s₁ Bd hx hby hml hZ hown hnm X0 e0 => ?_
  have H := @own_hw Z a0 hw
  have D := @hb _ _ hby
  have hown : s.vm.findClass "backstitch/NeedleOfPinLaw" = some m.cls := hown
  have N0 := Fr.nil n0
  have K0 := Keep.refl h0 []
  rw [own_ef_own_same_4_1 m b]
  refine gb s₁ m 7 #[vr b, vi 4, vi 1] [(.int 0), (.ref b)] (fun u k => XS.iloadN X0.here hx rfl (D d30_0) rfl (XT.iconstV X0.here hx rfl (1 : Int32) (D d30_1) (by decide) (XS.icmpNo X0.here hx rfl (D d30_2) rfl (XT.ii_lt_f (by decide)) (XS.aloadN X0.here hx rfl (D d30_5) rfl rfl (XT.iconstV X0.here hx rfl (0 : Int32) (D d30_6) (by decide) k))))) ?_
  obtain ⟨cl1, Ar1, aq1, aS1, aM1, aH1, aG1⟩ := id V_b
  refine gb s₁ m 10 #[vr b, vi 4, vi 1] [(.int 4), (.ref b), (.int (cf 0))] (fun u k => X0.caload hx (j := (0 : Int32)) (v := (.int (cf 0))) (by rw [e0]; exact Ar1.1) (State.isArrayOf_alike hZ.alike Ar1.2.1) Ar1.2.2 (inb_of aS1 (own_ib (i := 0) (by omega) (by omega))) (Has.at aH1 (inb_of aS1 (own_ib (i := 0) (by omega) (by omega))) (own_l_at (j := 0) _ (by omega))) (g := (mkF m 7 #[vr b, vi 4, vi 1] [(.int 0), (.ref b)])) rfl rfl (D d30_7) _ (XS.aloadN X0.here hx rfl (D d30_8) rfl rfl (XS.iloadN X0.here hx rfl (D d30_9) rfl k))) ?_
  obtain ⟨cl2, Ar2, aq2, aS2, aM2, aH2, aG2⟩ := id V_b
  refine gb s₁ m 11 #[vr b, vi 4, vi 1] [(.int (cf 4)), (.int (cf 0))] (fun u k => X0.caload hx (j := (4 : Int32)) (v := (.int (cf 4))) (by rw [e0]; exact Ar2.1) (State.isArrayOf_alike hZ.alike Ar2.2.1) Ar2.2.2 (inb_of aS2 (own_ib (i := 4) (by omega) (by omega))) (Has.at aH2 (inb_of aS2 (own_ib (i := 4) (by omega) (by omega))) (own_l_at (j := 4) _ (by omega))) (g := (mkF m 10 #[vr b, vi 4, vi 1] [(.int 4), (.ref b), (.int (cf 0))])) rfl rfl (D d30_10) _ k) ?_
  by_cases hc3 : (cf 0) = (cf 4)
  · refine gb s₁ m 67 #[vr b, vi 4, vi 1] [(.int 1)] (fun u k => XS.icmpNo X0.here hx rfl (D d30_11) rfl (XT.ii_ne_f hc3) (XS.iloadN X0.here hx rfl (D d30_14) rfl (XT.iconstV X0.here hx rfl (2 : Int32) (D d30_15) (by decide) (XS.icmpYes X0.here hx rfl (pc0 := 16) (pc' := 30) rfl (D d30_16) rfl (XT.ii_lt_t (by decide)) (by decide) (by decide) (XS.iloadN X0.here hx rfl (D d30_30) rfl (XT.iconstV X0.here hx rfl (3 : Int32) (D d30_31) (by decide) (XS.icmpYes X0.here hx rfl (pc0 := 32) (pc' := 46) rfl (D d30_32) rfl (XT.ii_lt_t (by decide)) (by decide) (by decide) (XS.iloadN X0.here hx rfl (D d30_46) rfl (XT.iconstV X0.here hx rfl (4 : Int32) (D d30_47) (by decide) (XS.icmpYes X0.here hx rfl (pc0 := 48) (pc' := 62) rfl (D d30_48) rfl (XT.ii_lt_t (by decide)) (by decide) (by decide) (XT.iconstV X0.here hx rfl (1 : Int32) (D d30_62) (by decide) (XS.goto X0.here hx rfl (pc0 := 63) (pc' := 67) rfl (D d30_63) (by decide) (by decide) k)))))))))))) ?_
    obtain ⟨fs, hr, hrun, hended, hW, hsame⟩ := X0.leave (v := some (.int 1)) (fun h => by rw [Bd.returns] at h; cases h)
    refine ⟨_, _, retN X0 hx (t := .boolean) Bd.returns (by simp) (D d30_67) hr, hrun, hended, _, _, rfl, ?_, ⟨_, rfl⟩, hW, hsame.mono (by decide) (by decide)⟩
    show Q_own_same_4_1 Z b nz cf kb h0 n0 _ s₁.heap _
    rw [e0]
    exact ⟨(by rw [if_pos hc3]), N0, rfl⟩
  · refine gb s₁ m 67 #[vr b, vi 4, vi 1] [(.int 0)] (fun u k => XS.icmpYes X0.here hx rfl (pc0 := 11) (pc' := 66) rfl (D d30_11) rfl (XT.ii_ne_t hc3) (by decide) (by decide) (XT.iconstV X0.here hx rfl (0 : Int32) (D d30_66) (by decide) k)) ?_
    obtain ⟨fs, hr, hrun, hended, hW, hsame⟩ := X0.leave (v := some (.int 0)) (fun h => by rw [Bd.returns] at h; cases h)
    refine ⟨_, _, retN X0 hx (t := .boolean) Bd.returns (by simp) (D d30_67) hr, hrun, hended, _, _, rfl, ?_, ⟨_, rfl⟩, hW, hsame.mono (by decide) (by decide)⟩
    show Q_own_same_4_1 Z b nz cf kb h0 n0 _ s₁.heap _
    rw [e0]
    exact ⟨(by rw [if_neg (fun q => hc3 q)]), N0, rfl⟩
theorem own_ef_own_same_3_2 (m : MethodId) (x0 : Addr) : entryFrame m #[(.ref x0), (.int 3), (.int 2)] 3 = mkF m 0 #[.val (.ref x0), .val (.int 3), .val (.int 2)] [] := by first | (simp [entryFrame, mkF, argsToLocals, Value.category]; done) | rfl
def Q_own_same_3_2 (Z : State) (b : Addr) (nz : Nat) (cf : Nat → Int32) (kb : ClassId) (h0 : Heap) (n0 : Nat) (v : Option Value) (h : Heap) (L : List Loc) : Prop := v = some (.int (if (cf 0) = (cf 3) ∧ (cf 1) = (cf 4) then (1 : Int32) else (0 : Int32))) ∧ Fr n0 L ∧ h = h0
theorem own_same_3_2 (l : Launch) (Z : State) (a0 : Array Value) (hw : ∀ d ∈ tables_1, d.before a0 Z = true) (ws : List Jvm.Cond) (b : Addr) (nz : Nat) (cf : Nat → Int32) (kb : ClassId) (h0 : Heap) (n0 : Nat) (Z0 : n0 ≤ h0.size) (V_b : Arv Z h0 b kb .char (Int32.ofNat nz) (own_l nz cf) (.int 0)) (hnz : nz < 6) (hle : 5 ≤ nz) :
    own_Met l Z mn39 method_4_code 3 (some .boolean) ws rm0 #[(.ref b), (.int 3), (.int 2)] h0 (Q_own_same_3_2 Z b nz cf kb h0 n0) := by
  refine own_start (plainFor_of_name own_pn8) fun p e s m below meth c s₁ Bd hx hby hml hZ hown hnm X0 e0 => ?_
  have H := @own_hw Z a0 hw
  have D := @hb _ _ hby
  have hown : s.vm.findClass "backstitch/NeedleOfPinLaw" = some m.cls := hown
  have N0 := Fr.nil n0
  have K0 := Keep.refl h0 []
  rw [own_ef_own_same_3_2 m b]
  refine gb s₁ m 7 #[vr b, vi 3, vi 2] [(.int 0), (.ref b)] (fun u k => XS.iloadN X0.here hx rfl (D d30_0) rfl (XT.iconstV X0.here hx rfl (1 : Int32) (D d30_1) (by decide) (XS.icmpNo X0.here hx rfl (D d30_2) rfl (XT.ii_lt_f (by decide)) (XS.aloadN X0.here hx rfl (D d30_5) rfl rfl (XT.iconstV X0.here hx rfl (0 : Int32) (D d30_6) (by decide) k))))) ?_
  obtain ⟨cl1, Ar1, aq1, aS1, aM1, aH1, aG1⟩ := id V_b
  refine gb s₁ m 10 #[vr b, vi 3, vi 2] [(.int 3), (.ref b), (.int (cf 0))] (fun u k => X0.caload hx (j := (0 : Int32)) (v := (.int (cf 0))) (by rw [e0]; exact Ar1.1) (State.isArrayOf_alike hZ.alike Ar1.2.1) Ar1.2.2 (inb_of aS1 (own_ib (i := 0) (by omega) (by omega))) (Has.at aH1 (inb_of aS1 (own_ib (i := 0) (by omega) (by omega))) (own_l_at (j := 0) _ (by omega))) (g := (mkF m 7 #[vr b, vi 3, vi 2] [(.int 0), (.ref b)])) rfl rfl (D d30_7) _ (XS.aloadN X0.here hx rfl (D d30_8) rfl rfl (XS.iloadN X0.here hx rfl (D d30_9) rfl k))) ?_
  obtain ⟨cl2, Ar2, aq2, aS2, aM2, aH2, aG2⟩ := id V_b
  refine gb s₁ m 11 #[vr b, vi 3, vi 2] [(.int (cf 3)), (.int (cf 0))] (fun u k => X0.caload hx (j := (3 : Int32)) (v := (.int (cf 3))) (by rw [e0]; exact Ar2.1) (State.isArrayOf_alike hZ.alike Ar2.2.1) Ar2.2.2 (inb_of aS2 (own_ib (i := 3) (by omega) (by omega))) (Has.at aH2 (inb_of aS2 (own_ib (i := 3) (by omega) (by omega))) (own_l_at (j := 3) _ (by omega))) (g := (mkF m 10 #[vr b, vi 3, vi 2] [(.int 3), (.ref b), (.int (cf 0))])) rfl rfl (D d30_10) _ k) ?_
  by_cases hc3 : (cf 0) = (cf 3)
  · refine gb s₁ m 21 #[vr b, vi 3, vi 2] [(.int 1), (.ref b)] (fun u k => XS.icmpNo X0.here hx rfl (D d30_11) rfl (XT.ii_ne_f hc3) (XS.iloadN X0.here hx rfl (D d30_14) rfl (XT.iconstV X0.here hx rfl (2 : Int32) (D d30_15) (by decide) (XS.icmpNo X0.here hx rfl (D d30_16) rfl (XT.ii_lt_f (by decide)) (XS.aloadN X0.here hx rfl (D d30_19) rfl rfl (XT.iconstV X0.here hx rfl (1 : Int32) (D d30_20) (by decide) k)))))) ?_
    obtain ⟨cl4, Ar4, aq4, aS4, aM4, aH4, aG4⟩ := id V_b
    refine gb s₁ m 26 #[vr b, vi 3, vi 2] [(.int ((3 : Int32) + (1 : Int32))), (.ref b), (.int (cf 1))] (fun u k => X0.caload hx (j := (1 : Int32)) (v := (.int (cf 1))) (by rw [e0]; exact Ar4.1) (State.isArrayOf_alike hZ.alike Ar4.2.1) Ar4.2.2 (inb_of aS4 (own_ib (i := 1) (by omega) (by omega))) (Has.at aH4 (inb_of aS4 (own_ib (i := 1) (by omega) (by omega))) (own_l_at (j := 1) _ (by omega))) (g := (mkF m 21 #[vr b, vi 3, vi 2] [(.int 1), (.ref b)])) rfl rfl (D d30_21) _ (XS.aloadN X0.here hx rfl (D d30_22) rfl rfl (XS.iloadN X0.here hx rfl (D d30_23) rfl (XT.iconstV X0.here hx rfl (1 : Int32) (D d30_24) (by decide) (XS.iadd X0.here hx rfl (D d30_25) rfl k))))) ?_
    have rw5 : ((3 : Int32) + (1 : Int32)) = (4 : Int32) := by decide
    rw [rw5]
    obtain ⟨cl6, Ar6, aq6, aS6, aM6, aH6, aG6⟩ := id V_b
    refine gb s₁ m 27 #[vr b, vi 3, vi 2] [(.int (cf 4)), (.int (cf 1))] (fun u k => X0.caload hx (j := (4 : Int32)) (v := (.int (cf 4))) (by rw [e0]; exact Ar6.1) (State.isArrayOf_alike hZ.alike Ar6.2.1) Ar6.2.2 (inb_of aS6 (own_ib (i := 4) (by omega) (by omega))) (Has.at aH6 (inb_of aS6 (own_ib (i := 4) (by omega) (by omega))) (own_l_at (j := 4) _ (by omega))) (g := (mkF m 26 #[vr b, vi 3, vi 2] [(.int 4), (.ref b), (.int (cf 1))])) rfl rfl (D d30_26) _ k) ?_
    by_cases hc7 : (cf 1) = (cf 4)
    · refine gb s₁ m 67 #[vr b, vi 3, vi 2] [(.int 1)] (fun u k => XS.icmpNo X0.here hx rfl (D d30_27) rfl (XT.ii_ne_f hc7) (XS.iloadN X0.here hx rfl (D d30_30) rfl (XT.iconstV X0.here hx rfl (3 : Int32) (D d30_31) (by decide) (XS.icmpYes X0.here hx rfl (pc0 := 32) (pc' := 46) rfl (D d30_32) rfl (XT.ii_lt_t (by decide)) (by decide) (by decide) (XS.iloadN X0.here hx rfl (D d30_46) rfl (XT.iconstV X0.here hx rfl (4 : Int32) (D d30_47) (by decide) (XS.icmpYes X0.here hx rfl (pc0 := 48) (pc' := 62) rfl (D d30_48) rfl (XT.ii_lt_t (by decide)) (by decide) (by decide) (XT.iconstV X0.here hx rfl (1 : Int32) (D d30_62) (by decide) (XS.goto X0.here hx rfl (pc0 := 63) (pc' := 67) rfl (D d30_63) (by decide) (by decide) k))))))))) ?_
      obtain ⟨fs, hr, hrun, hended, hW, hsame⟩ := X0.leave (v := some (.int 1)) (fun h => by rw [Bd.returns] at h; cases h)
      refine ⟨_, _, retN X0 hx (t := .boolean) Bd.returns (by simp) (D d30_67) hr, hrun, hended, _, _, rfl, ?_, ⟨_, rfl⟩, hW, hsame.mono (by decide) (by decide)⟩
      show Q_own_same_3_2 Z b nz cf kb h0 n0 _ s₁.heap _
      rw [e0]
      exact ⟨(by rw [if_pos ⟨hc3, hc7⟩]), N0, rfl⟩
    · refine gb s₁ m 67 #[vr b, vi 3, vi 2] [(.int 0)] (fun u k => XS.icmpYes X0.here hx rfl (pc0 := 27) (pc' := 66) rfl (D d30_27) rfl (XT.ii_ne_t hc7) (by decide) (by decide) (XT.iconstV X0.here hx rfl (0 : Int32) (D d30_66) (by decide) k)) ?_
      obtain ⟨fs, hr, hrun, hended, hW, hsame⟩ := X0.leave (v := some (.int 0)) (fun h => by rw [Bd.returns] at h; cases h)
      refine ⟨_, _, retN X0 hx (t := .boolean) Bd.returns (by simp) (D d30_67) hr, hrun, hended, _, _, rfl, ?_, ⟨_, rfl⟩, hW, hsame.mono (by decide) (by decide)⟩
      show Q_own_same_3_2 Z b nz cf kb h0 n0 _ s₁.heap _
      rw [e0]
      exact ⟨(by rw [if_neg (fun q => hc7 q.2)]), N0, rfl⟩
  · refine gb s₁ m 67 #[vr b, vi 3, vi 2] [(.int 0)] (fun u k => XS.icmpYes X0.here hx rfl (pc0 := 11) (pc' := 66) rfl (D d30_11) rfl (XT.ii_ne_t hc3) (by decide) (by decide) (XT.iconstV X0.here hx rfl (0 : Int32) (D d30_66) (by decide) k)) ?_
    obtain ⟨fs, hr, hrun, hended, hW, hsame⟩ := X0.leave (v := some (.int 0)) (fun h => by rw [Bd.returns] at h; cases h)
    refine ⟨_, _, retN X0 hx (t := .boolean) Bd.returns (by simp) (D d30_67) hr, hrun, hended, _, _, rfl, ?_, ⟨_, rfl⟩, hW, hsame.mono (by decide) (by decide)⟩
    show Q_own_same_3_2 Z b nz cf kb h0 n0 _ s₁.heap _
    rw [e0]
    exact ⟨(by rw [if_neg (fun q => hc3 q.1)]), N0, rfl⟩
theorem own_ef_own_same_2_3 (m : MethodId) (x0 : Addr) : entryFrame m #[(.ref x0), (.int 2), (.int 3)] 3 = mkF m 0 #[.val (.ref x0), .val (.int 2), .val (.int 3)] [] := by first | (simp [entryFrame, mkF, argsToLocals, Value.category]; done) | rfl
def Q_own_same_2_3 (Z : State) (b : Addr) (nz : Nat) (cf : Nat → Int32) (kb : ClassId) (h0 : Heap) (n0 : Nat) (v : Option Value) (h : Heap) (L : List Loc) : Prop := v = some (.int (if (cf 0) = (cf 2) ∧ (cf 1) = (cf 3) ∧ (cf 2) = (cf 4) then (1 : Int32) else (0 : Int32))) ∧ Fr n0 L ∧ h = h0
theorem own_same_2_3 (l : Launch) (Z : State) (a0 : Array Value) (hw : ∀ d ∈ tables_1, d.before a0 Z = true) (ws : List Jvm.Cond) (b : Addr) (nz : Nat) (cf : Nat → Int32) (kb : ClassId) (h0 : Heap) (n0 : Nat) (Z0 : n0 ≤ h0.size) (V_b : Arv Z h0 b kb .char (Int32.ofNat nz) (own_l nz cf) (.int 0)) (hnz : nz < 6) (hle : 5 ≤ nz) :
    own_Met l Z mn39 method_4_code 3 (some .boolean) ws rm0 #[(.ref b), (.int 2), (.int 3)] h0 (Q_own_same_2_3 Z b nz cf kb h0 n0) := by
  refine own_start (plainFor_of_name own_pn8) fun p e s m below meth c s₁ Bd hx hby hml hZ hown hnm X0 e0 => ?_
  have H := @own_hw Z a0 hw
  have D := @hb _ _ hby
  have hown : s.vm.findClass "backstitch/NeedleOfPinLaw" = some m.cls := hown
  have N0 := Fr.nil n0
  have K0 := Keep.refl h0 []
  rw [own_ef_own_same_2_3 m b]
  refine gb s₁ m 7 #[vr b, vi 2, vi 3] [(.int 0), (.ref b)] (fun u k => XS.iloadN X0.here hx rfl (D d30_0) rfl (XT.iconstV X0.here hx rfl (1 : Int32) (D d30_1) (by decide) (XS.icmpNo X0.here hx rfl (D d30_2) rfl (XT.ii_lt_f (by decide)) (XS.aloadN X0.here hx rfl (D d30_5) rfl rfl (XT.iconstV X0.here hx rfl (0 : Int32) (D d30_6) (by decide) k))))) ?_
  obtain ⟨cl1, Ar1, aq1, aS1, aM1, aH1, aG1⟩ := id V_b
  refine gb s₁ m 10 #[vr b, vi 2, vi 3] [(.int 2), (.ref b), (.int (cf 0))] (fun u k => X0.caload hx (j := (0 : Int32)) (v := (.int (cf 0))) (by rw [e0]; exact Ar1.1) (State.isArrayOf_alike hZ.alike Ar1.2.1) Ar1.2.2 (inb_of aS1 (own_ib (i := 0) (by omega) (by omega))) (Has.at aH1 (inb_of aS1 (own_ib (i := 0) (by omega) (by omega))) (own_l_at (j := 0) _ (by omega))) (g := (mkF m 7 #[vr b, vi 2, vi 3] [(.int 0), (.ref b)])) rfl rfl (D d30_7) _ (XS.aloadN X0.here hx rfl (D d30_8) rfl rfl (XS.iloadN X0.here hx rfl (D d30_9) rfl k))) ?_
  obtain ⟨cl2, Ar2, aq2, aS2, aM2, aH2, aG2⟩ := id V_b
  refine gb s₁ m 11 #[vr b, vi 2, vi 3] [(.int (cf 2)), (.int (cf 0))] (fun u k => X0.caload hx (j := (2 : Int32)) (v := (.int (cf 2))) (by rw [e0]; exact Ar2.1) (State.isArrayOf_alike hZ.alike Ar2.2.1) Ar2.2.2 (inb_of aS2 (own_ib (i := 2) (by omega) (by omega))) (Has.at aH2 (inb_of aS2 (own_ib (i := 2) (by omega) (by omega))) (own_l_at (j := 2) _ (by omega))) (g := (mkF m 10 #[vr b, vi 2, vi 3] [(.int 2), (.ref b), (.int (cf 0))])) rfl rfl (D d30_10) _ k) ?_
  by_cases hc3 : (cf 0) = (cf 2)
  · refine gb s₁ m 21 #[vr b, vi 2, vi 3] [(.int 1), (.ref b)] (fun u k => XS.icmpNo X0.here hx rfl (D d30_11) rfl (XT.ii_ne_f hc3) (XS.iloadN X0.here hx rfl (D d30_14) rfl (XT.iconstV X0.here hx rfl (2 : Int32) (D d30_15) (by decide) (XS.icmpNo X0.here hx rfl (D d30_16) rfl (XT.ii_lt_f (by decide)) (XS.aloadN X0.here hx rfl (D d30_19) rfl rfl (XT.iconstV X0.here hx rfl (1 : Int32) (D d30_20) (by decide) k)))))) ?_
    obtain ⟨cl4, Ar4, aq4, aS4, aM4, aH4, aG4⟩ := id V_b
    refine gb s₁ m 26 #[vr b, vi 2, vi 3] [(.int ((2 : Int32) + (1 : Int32))), (.ref b), (.int (cf 1))] (fun u k => X0.caload hx (j := (1 : Int32)) (v := (.int (cf 1))) (by rw [e0]; exact Ar4.1) (State.isArrayOf_alike hZ.alike Ar4.2.1) Ar4.2.2 (inb_of aS4 (own_ib (i := 1) (by omega) (by omega))) (Has.at aH4 (inb_of aS4 (own_ib (i := 1) (by omega) (by omega))) (own_l_at (j := 1) _ (by omega))) (g := (mkF m 21 #[vr b, vi 2, vi 3] [(.int 1), (.ref b)])) rfl rfl (D d30_21) _ (XS.aloadN X0.here hx rfl (D d30_22) rfl rfl (XS.iloadN X0.here hx rfl (D d30_23) rfl (XT.iconstV X0.here hx rfl (1 : Int32) (D d30_24) (by decide) (XS.iadd X0.here hx rfl (D d30_25) rfl k))))) ?_
    have rw5 : ((2 : Int32) + (1 : Int32)) = (3 : Int32) := by decide
    rw [rw5]
    obtain ⟨cl6, Ar6, aq6, aS6, aM6, aH6, aG6⟩ := id V_b
    refine gb s₁ m 27 #[vr b, vi 2, vi 3] [(.int (cf 3)), (.int (cf 1))] (fun u k => X0.caload hx (j := (3 : Int32)) (v := (.int (cf 3))) (by rw [e0]; exact Ar6.1) (State.isArrayOf_alike hZ.alike Ar6.2.1) Ar6.2.2 (inb_of aS6 (own_ib (i := 3) (by omega) (by omega))) (Has.at aH6 (inb_of aS6 (own_ib (i := 3) (by omega) (by omega))) (own_l_at (j := 3) _ (by omega))) (g := (mkF m 26 #[vr b, vi 2, vi 3] [(.int 3), (.ref b), (.int (cf 1))])) rfl rfl (D d30_26) _ k) ?_
    by_cases hc7 : (cf 1) = (cf 3)
    · refine gb s₁ m 37 #[vr b, vi 2, vi 3] [(.int 2), (.ref b)] (fun u k => XS.icmpNo X0.here hx rfl (D d30_27) rfl (XT.ii_ne_f hc7) (XS.iloadN X0.here hx rfl (D d30_30) rfl (XT.iconstV X0.here hx rfl (3 : Int32) (D d30_31) (by decide) (XS.icmpNo X0.here hx rfl (D d30_32) rfl (XT.ii_lt_f (by decide)) (XS.aloadN X0.here hx rfl (D d30_35) rfl rfl (XT.iconstV X0.here hx rfl (2 : Int32) (D d30_36) (by decide) k)))))) ?_
      obtain ⟨cl8, Ar8, aq8, aS8, aM8, aH8, aG8⟩ := id V_b
      refine gb s₁ m 42 #[vr b, vi 2, vi 3] [(.int ((2 : Int32) + (2 : Int32))), (.ref b), (.int (cf 2))] (fun u k => X0.caload hx (j := (2 : Int32)) (v := (.int (cf 2))) (by rw [e0]; exact Ar8.1) (State.isArrayOf_alike hZ.alike Ar8.2.1) Ar8.2.2 (inb_of aS8 (own_ib (i := 2) (by omega) (by omega))) (Has.at aH8 (inb_of aS8 (own_ib (i := 2) (by omega) (by omega))) (own_l_at (j := 2) _ (by omega))) (g := (mkF m 37 #[vr b, vi 2, vi 3] [(.int 2), (.ref b)])) rfl rfl (D d30_37) _ (XS.aloadN X0.here hx rfl (D d30_38) rfl rfl (XS.iloadN X0.here hx rfl (D d30_39) rfl (XT.iconstV X0.here hx rfl (2 : Int32) (D d30_40) (by decide) (XS.iadd X0.here hx rfl (D d30_41) rfl k))))) ?_
      have rw9 : ((2 : Int32) + (2 : Int32)) = (4 : Int32) := by decide
      rw [rw9]
      obtain ⟨cl10, Ar10, aq10, aS10, aM10, aH10, aG10⟩ := id V_b
      refine gb s₁ m 43 #[vr b, vi 2, vi 3] [(.int (cf 4)), (.int (cf 2))] (fun u k => X0.caload hx (j := (4 : Int32)) (v := (.int (cf 4))) (by rw [e0]; exact Ar10.1) (State.isArrayOf_alike hZ.alike Ar10.2.1) Ar10.2.2 (inb_of aS10 (own_ib (i := 4) (by omega) (by omega))) (Has.at aH10 (inb_of aS10 (own_ib (i := 4) (by omega) (by omega))) (own_l_at (j := 4) _ (by omega))) (g := (mkF m 42 #[vr b, vi 2, vi 3] [(.int 4), (.ref b), (.int (cf 2))])) rfl rfl (D d30_42) _ k) ?_
      by_cases hc11 : (cf 2) = (cf 4)
      · refine gb s₁ m 67 #[vr b, vi 2, vi 3] [(.int 1)] (fun u k => XS.icmpNo X0.here hx rfl (D d30_43) rfl (XT.ii_ne_f hc11) (XS.iloadN X0.here hx rfl (D d30_46) rfl (XT.iconstV X0.here hx rfl (4 : Int32) (D d30_47) (by decide) (XS.icmpYes X0.here hx rfl (pc0 := 48) (pc' := 62) rfl (D d30_48) rfl (XT.ii_lt_t (by decide)) (by decide) (by decide) (XT.iconstV X0.here hx rfl (1 : Int32) (D d30_62) (by decide) (XS.goto X0.here hx rfl (pc0 := 63) (pc' := 67) rfl (D d30_63) (by decide) (by decide) k)))))) ?_
        obtain ⟨fs, hr, hrun, hended, hW, hsame⟩ := X0.leave (v := some (.int 1)) (fun h => by rw [Bd.returns] at h; cases h)
        refine ⟨_, _, retN X0 hx (t := .boolean) Bd.returns (by simp) (D d30_67) hr, hrun, hended, _, _, rfl, ?_, ⟨_, rfl⟩, hW, hsame.mono (by decide) (by decide)⟩
        show Q_own_same_2_3 Z b nz cf kb h0 n0 _ s₁.heap _
        rw [e0]
        exact ⟨(by rw [if_pos ⟨hc3, hc7, hc11⟩]), N0, rfl⟩
      · refine gb s₁ m 67 #[vr b, vi 2, vi 3] [(.int 0)] (fun u k => XS.icmpYes X0.here hx rfl (pc0 := 43) (pc' := 66) rfl (D d30_43) rfl (XT.ii_ne_t hc11) (by decide) (by decide) (XT.iconstV X0.here hx rfl (0 : Int32) (D d30_66) (by decide) k)) ?_
        obtain ⟨fs, hr, hrun, hended, hW, hsame⟩ := X0.leave (v := some (.int 0)) (fun h => by rw [Bd.returns] at h; cases h)
        refine ⟨_, _, retN X0 hx (t := .boolean) Bd.returns (by simp) (D d30_67) hr, hrun, hended, _, _, rfl, ?_, ⟨_, rfl⟩, hW, hsame.mono (by decide) (by decide)⟩
        show Q_own_same_2_3 Z b nz cf kb h0 n0 _ s₁.heap _
        rw [e0]
        exact ⟨(by rw [if_neg (fun q => hc11 q.2.2)]), N0, rfl⟩
    · refine gb s₁ m 67 #[vr b, vi 2, vi 3] [(.int 0)] (fun u k => XS.icmpYes X0.here hx rfl (pc0 := 27) (pc' := 66) rfl (D d30_27) rfl (XT.ii_ne_t hc7) (by decide) (by decide) (XT.iconstV X0.here hx rfl (0 : Int32) (D d30_66) (by decide) k)) ?_
      obtain ⟨fs, hr, hrun, hended, hW, hsame⟩ := X0.leave (v := some (.int 0)) (fun h => by rw [Bd.returns] at h; cases h)
      refine ⟨_, _, retN X0 hx (t := .boolean) Bd.returns (by simp) (D d30_67) hr, hrun, hended, _, _, rfl, ?_, ⟨_, rfl⟩, hW, hsame.mono (by decide) (by decide)⟩
      show Q_own_same_2_3 Z b nz cf kb h0 n0 _ s₁.heap _
      rw [e0]
      exact ⟨(by rw [if_neg (fun q => hc7 q.2.1)]), N0, rfl⟩
  · refine gb s₁ m 67 #[vr b, vi 2, vi 3] [(.int 0)] (fun u k => XS.icmpYes X0.here hx rfl (pc0 := 11) (pc' := 66) rfl (D d30_11) rfl (XT.ii_ne_t hc3) (by decide) (by decide) (XT.iconstV X0.here hx rfl (0 : Int32) (D d30_66) (by decide) k)) ?_
    obtain ⟨fs, hr, hrun, hended, hW, hsame⟩ := X0.leave (v := some (.int 0)) (fun h => by rw [Bd.returns] at h; cases h)
    refine ⟨_, _, retN X0 hx (t := .boolean) Bd.returns (by simp) (D d30_67) hr, hrun, hended, _, _, rfl, ?_, ⟨_, rfl⟩, hW, hsame.mono (by decide) (by decide)⟩
    show Q_own_same_2_3 Z b nz cf kb h0 n0 _ s₁.heap _
    rw [e0]
    exact ⟨(by rw [if_neg (fun q => hc3 q.1)]), N0, rfl⟩
theorem own_ef_own_same_1_4 (m : MethodId) (x0 : Addr) : entryFrame m #[(.ref x0), (.int 1), (.int 4)] 3 = mkF m 0 #[.val (.ref x0), .val (.int 1), .val (.int 4)] [] := by first | (simp [entryFrame, mkF, argsToLocals, Value.category]; done) | rfl
def Q_own_same_1_4 (Z : State) (b : Addr) (nz : Nat) (cf : Nat → Int32) (kb : ClassId) (h0 : Heap) (n0 : Nat) (v : Option Value) (h : Heap) (L : List Loc) : Prop := v = some (.int (if (cf 0) = (cf 1) ∧ (cf 1) = (cf 2) ∧ (cf 2) = (cf 3) ∧ (cf 3) = (cf 4) then (1 : Int32) else (0 : Int32))) ∧ Fr n0 L ∧ h = h0
theorem own_same_1_4 (l : Launch) (Z : State) (a0 : Array Value) (hw : ∀ d ∈ tables_1, d.before a0 Z = true) (ws : List Jvm.Cond) (b : Addr) (nz : Nat) (cf : Nat → Int32) (kb : ClassId) (h0 : Heap) (n0 : Nat) (Z0 : n0 ≤ h0.size) (V_b : Arv Z h0 b kb .char (Int32.ofNat nz) (own_l nz cf) (.int 0)) (hnz : nz < 6) (hle : 5 ≤ nz) :
    own_Met l Z mn39 method_4_code 3 (some .boolean) ws rm0 #[(.ref b), (.int 1), (.int 4)] h0 (Q_own_same_1_4 Z b nz cf kb h0 n0) := by
  refine own_start (plainFor_of_name own_pn8) fun p e s m below meth c s₁ Bd hx hby hml hZ hown hnm X0 e0 => ?_
  have H := @own_hw Z a0 hw
  have D := @hb _ _ hby
  have hown : s.vm.findClass "backstitch/NeedleOfPinLaw" = some m.cls := hown
  have N0 := Fr.nil n0
  have K0 := Keep.refl h0 []
  rw [own_ef_own_same_1_4 m b]
  refine gb s₁ m 7 #[vr b, vi 1, vi 4] [(.int 0), (.ref b)] (fun u k => XS.iloadN X0.here hx rfl (D d30_0) rfl (XT.iconstV X0.here hx rfl (1 : Int32) (D d30_1) (by decide) (XS.icmpNo X0.here hx rfl (D d30_2) rfl (XT.ii_lt_f (by decide)) (XS.aloadN X0.here hx rfl (D d30_5) rfl rfl (XT.iconstV X0.here hx rfl (0 : Int32) (D d30_6) (by decide) k))))) ?_
  obtain ⟨cl1, Ar1, aq1, aS1, aM1, aH1, aG1⟩ := id V_b
  refine gb s₁ m 10 #[vr b, vi 1, vi 4] [(.int 1), (.ref b), (.int (cf 0))] (fun u k => X0.caload hx (j := (0 : Int32)) (v := (.int (cf 0))) (by rw [e0]; exact Ar1.1) (State.isArrayOf_alike hZ.alike Ar1.2.1) Ar1.2.2 (inb_of aS1 (own_ib (i := 0) (by omega) (by omega))) (Has.at aH1 (inb_of aS1 (own_ib (i := 0) (by omega) (by omega))) (own_l_at (j := 0) _ (by omega))) (g := (mkF m 7 #[vr b, vi 1, vi 4] [(.int 0), (.ref b)])) rfl rfl (D d30_7) _ (XS.aloadN X0.here hx rfl (D d30_8) rfl rfl (XS.iloadN X0.here hx rfl (D d30_9) rfl k))) ?_
  obtain ⟨cl2, Ar2, aq2, aS2, aM2, aH2, aG2⟩ := id V_b
  refine gb s₁ m 11 #[vr b, vi 1, vi 4] [(.int (cf 1)), (.int (cf 0))] (fun u k => X0.caload hx (j := (1 : Int32)) (v := (.int (cf 1))) (by rw [e0]; exact Ar2.1) (State.isArrayOf_alike hZ.alike Ar2.2.1) Ar2.2.2 (inb_of aS2 (own_ib (i := 1) (by omega) (by omega))) (Has.at aH2 (inb_of aS2 (own_ib (i := 1) (by omega) (by omega))) (own_l_at (j := 1) _ (by omega))) (g := (mkF m 10 #[vr b, vi 1, vi 4] [(.int 1), (.ref b), (.int (cf 0))])) rfl rfl (D d30_10) _ k) ?_
  by_cases hc3 : (cf 0) = (cf 1)
  · refine gb s₁ m 21 #[vr b, vi 1, vi 4] [(.int 1), (.ref b)] (fun u k => XS.icmpNo X0.here hx rfl (D d30_11) rfl (XT.ii_ne_f hc3) (XS.iloadN X0.here hx rfl (D d30_14) rfl (XT.iconstV X0.here hx rfl (2 : Int32) (D d30_15) (by decide) (XS.icmpNo X0.here hx rfl (D d30_16) rfl (XT.ii_lt_f (by decide)) (XS.aloadN X0.here hx rfl (D d30_19) rfl rfl (XT.iconstV X0.here hx rfl (1 : Int32) (D d30_20) (by decide) k)))))) ?_
    obtain ⟨cl4, Ar4, aq4, aS4, aM4, aH4, aG4⟩ := id V_b
    refine gb s₁ m 26 #[vr b, vi 1, vi 4] [(.int ((1 : Int32) + (1 : Int32))), (.ref b), (.int (cf 1))] (fun u k => X0.caload hx (j := (1 : Int32)) (v := (.int (cf 1))) (by rw [e0]; exact Ar4.1) (State.isArrayOf_alike hZ.alike Ar4.2.1) Ar4.2.2 (inb_of aS4 (own_ib (i := 1) (by omega) (by omega))) (Has.at aH4 (inb_of aS4 (own_ib (i := 1) (by omega) (by omega))) (own_l_at (j := 1) _ (by omega))) (g := (mkF m 21 #[vr b, vi 1, vi 4] [(.int 1), (.ref b)])) rfl rfl (D d30_21) _ (XS.aloadN X0.here hx rfl (D d30_22) rfl rfl (XS.iloadN X0.here hx rfl (D d30_23) rfl (XT.iconstV X0.here hx rfl (1 : Int32) (D d30_24) (by decide) (XS.iadd X0.here hx rfl (D d30_25) rfl k))))) ?_
    have rw5 : ((1 : Int32) + (1 : Int32)) = (2 : Int32) := by decide
    rw [rw5]
    obtain ⟨cl6, Ar6, aq6, aS6, aM6, aH6, aG6⟩ := id V_b
    refine gb s₁ m 27 #[vr b, vi 1, vi 4] [(.int (cf 2)), (.int (cf 1))] (fun u k => X0.caload hx (j := (2 : Int32)) (v := (.int (cf 2))) (by rw [e0]; exact Ar6.1) (State.isArrayOf_alike hZ.alike Ar6.2.1) Ar6.2.2 (inb_of aS6 (own_ib (i := 2) (by omega) (by omega))) (Has.at aH6 (inb_of aS6 (own_ib (i := 2) (by omega) (by omega))) (own_l_at (j := 2) _ (by omega))) (g := (mkF m 26 #[vr b, vi 1, vi 4] [(.int 2), (.ref b), (.int (cf 1))])) rfl rfl (D d30_26) _ k) ?_
    by_cases hc7 : (cf 1) = (cf 2)
    · refine gb s₁ m 37 #[vr b, vi 1, vi 4] [(.int 2), (.ref b)] (fun u k => XS.icmpNo X0.here hx rfl (D d30_27) rfl (XT.ii_ne_f hc7) (XS.iloadN X0.here hx rfl (D d30_30) rfl (XT.iconstV X0.here hx rfl (3 : Int32) (D d30_31) (by decide) (XS.icmpNo X0.here hx rfl (D d30_32) rfl (XT.ii_lt_f (by decide)) (XS.aloadN X0.here hx rfl (D d30_35) rfl rfl (XT.iconstV X0.here hx rfl (2 : Int32) (D d30_36) (by decide) k)))))) ?_
      obtain ⟨cl8, Ar8, aq8, aS8, aM8, aH8, aG8⟩ := id V_b
      refine gb s₁ m 42 #[vr b, vi 1, vi 4] [(.int ((1 : Int32) + (2 : Int32))), (.ref b), (.int (cf 2))] (fun u k => X0.caload hx (j := (2 : Int32)) (v := (.int (cf 2))) (by rw [e0]; exact Ar8.1) (State.isArrayOf_alike hZ.alike Ar8.2.1) Ar8.2.2 (inb_of aS8 (own_ib (i := 2) (by omega) (by omega))) (Has.at aH8 (inb_of aS8 (own_ib (i := 2) (by omega) (by omega))) (own_l_at (j := 2) _ (by omega))) (g := (mkF m 37 #[vr b, vi 1, vi 4] [(.int 2), (.ref b)])) rfl rfl (D d30_37) _ (XS.aloadN X0.here hx rfl (D d30_38) rfl rfl (XS.iloadN X0.here hx rfl (D d30_39) rfl (XT.iconstV X0.here hx rfl (2 : Int32) (D d30_40) (by decide) (XS.iadd X0.here hx rfl (D d30_41) rfl k))))) ?_
      have rw9 : ((1 : Int32) + (2 : Int32)) = (3 : Int32) := by decide
      rw [rw9]
      obtain ⟨cl10, Ar10, aq10, aS10, aM10, aH10, aG10⟩ := id V_b
      refine gb s₁ m 43 #[vr b, vi 1, vi 4] [(.int (cf 3)), (.int (cf 2))] (fun u k => X0.caload hx (j := (3 : Int32)) (v := (.int (cf 3))) (by rw [e0]; exact Ar10.1) (State.isArrayOf_alike hZ.alike Ar10.2.1) Ar10.2.2 (inb_of aS10 (own_ib (i := 3) (by omega) (by omega))) (Has.at aH10 (inb_of aS10 (own_ib (i := 3) (by omega) (by omega))) (own_l_at (j := 3) _ (by omega))) (g := (mkF m 42 #[vr b, vi 1, vi 4] [(.int 3), (.ref b), (.int (cf 2))])) rfl rfl (D d30_42) _ k) ?_
      by_cases hc11 : (cf 2) = (cf 3)
      · refine gb s₁ m 53 #[vr b, vi 1, vi 4] [(.int 3), (.ref b)] (fun u k => XS.icmpNo X0.here hx rfl (D d30_43) rfl (XT.ii_ne_f hc11) (XS.iloadN X0.here hx rfl (D d30_46) rfl (XT.iconstV X0.here hx rfl (4 : Int32) (D d30_47) (by decide) (XS.icmpNo X0.here hx rfl (D d30_48) rfl (XT.ii_lt_f (by decide)) (XS.aloadN X0.here hx rfl (D d30_51) rfl rfl (XT.iconstV X0.here hx rfl (3 : Int32) (D d30_52) (by decide) k)))))) ?_
        obtain ⟨cl12, Ar12, aq12, aS12, aM12, aH12, aG12⟩ := id V_b
        refine gb s₁ m 58 #[vr b, vi 1, vi 4] [(.int ((1 : Int32) + (3 : Int32))), (.ref b), (.int (cf 3))] (fun u k => X0.caload hx (j := (3 : Int32)) (v := (.int (cf 3))) (by rw [e0]; exact Ar12.1) (State.isArrayOf_alike hZ.alike Ar12.2.1) Ar12.2.2 (inb_of aS12 (own_ib (i := 3) (by omega) (by omega))) (Has.at aH12 (inb_of aS12 (own_ib (i := 3) (by omega) (by omega))) (own_l_at (j := 3) _ (by omega))) (g := (mkF m 53 #[vr b, vi 1, vi 4] [(.int 3), (.ref b)])) rfl rfl (D d30_53) _ (XS.aloadN X0.here hx rfl (D d30_54) rfl rfl (XS.iloadN X0.here hx rfl (D d30_55) rfl (XT.iconstV X0.here hx rfl (3 : Int32) (D d30_56) (by decide) (XS.iadd X0.here hx rfl (D d30_57) rfl k))))) ?_
        have rw13 : ((1 : Int32) + (3 : Int32)) = (4 : Int32) := by decide
        rw [rw13]
        obtain ⟨cl14, Ar14, aq14, aS14, aM14, aH14, aG14⟩ := id V_b
        refine gb s₁ m 59 #[vr b, vi 1, vi 4] [(.int (cf 4)), (.int (cf 3))] (fun u k => X0.caload hx (j := (4 : Int32)) (v := (.int (cf 4))) (by rw [e0]; exact Ar14.1) (State.isArrayOf_alike hZ.alike Ar14.2.1) Ar14.2.2 (inb_of aS14 (own_ib (i := 4) (by omega) (by omega))) (Has.at aH14 (inb_of aS14 (own_ib (i := 4) (by omega) (by omega))) (own_l_at (j := 4) _ (by omega))) (g := (mkF m 58 #[vr b, vi 1, vi 4] [(.int 4), (.ref b), (.int (cf 3))])) rfl rfl (D d30_58) _ k) ?_
        by_cases hc15 : (cf 3) = (cf 4)
        · refine gb s₁ m 67 #[vr b, vi 1, vi 4] [(.int 1)] (fun u k => XS.icmpNo X0.here hx rfl (D d30_59) rfl (XT.ii_ne_f hc15) (XT.iconstV X0.here hx rfl (1 : Int32) (D d30_62) (by decide) (XS.goto X0.here hx rfl (pc0 := 63) (pc' := 67) rfl (D d30_63) (by decide) (by decide) k))) ?_
          obtain ⟨fs, hr, hrun, hended, hW, hsame⟩ := X0.leave (v := some (.int 1)) (fun h => by rw [Bd.returns] at h; cases h)
          refine ⟨_, _, retN X0 hx (t := .boolean) Bd.returns (by simp) (D d30_67) hr, hrun, hended, _, _, rfl, ?_, ⟨_, rfl⟩, hW, hsame.mono (by decide) (by decide)⟩
          show Q_own_same_1_4 Z b nz cf kb h0 n0 _ s₁.heap _
          rw [e0]
          exact ⟨(by rw [if_pos ⟨hc3, hc7, hc11, hc15⟩]), N0, rfl⟩
        · refine gb s₁ m 67 #[vr b, vi 1, vi 4] [(.int 0)] (fun u k => XS.icmpYes X0.here hx rfl (pc0 := 59) (pc' := 66) rfl (D d30_59) rfl (XT.ii_ne_t hc15) (by decide) (by decide) (XT.iconstV X0.here hx rfl (0 : Int32) (D d30_66) (by decide) k)) ?_
          obtain ⟨fs, hr, hrun, hended, hW, hsame⟩ := X0.leave (v := some (.int 0)) (fun h => by rw [Bd.returns] at h; cases h)
          refine ⟨_, _, retN X0 hx (t := .boolean) Bd.returns (by simp) (D d30_67) hr, hrun, hended, _, _, rfl, ?_, ⟨_, rfl⟩, hW, hsame.mono (by decide) (by decide)⟩
          show Q_own_same_1_4 Z b nz cf kb h0 n0 _ s₁.heap _
          rw [e0]
          exact ⟨(by rw [if_neg (fun q => hc15 q.2.2.2)]), N0, rfl⟩
      · refine gb s₁ m 67 #[vr b, vi 1, vi 4] [(.int 0)] (fun u k => XS.icmpYes X0.here hx rfl (pc0 := 43) (pc' := 66) rfl (D d30_43) rfl (XT.ii_ne_t hc11) (by decide) (by decide) (XT.iconstV X0.here hx rfl (0 : Int32) (D d30_66) (by decide) k)) ?_
        obtain ⟨fs, hr, hrun, hended, hW, hsame⟩ := X0.leave (v := some (.int 0)) (fun h => by rw [Bd.returns] at h; cases h)
        refine ⟨_, _, retN X0 hx (t := .boolean) Bd.returns (by simp) (D d30_67) hr, hrun, hended, _, _, rfl, ?_, ⟨_, rfl⟩, hW, hsame.mono (by decide) (by decide)⟩
        show Q_own_same_1_4 Z b nz cf kb h0 n0 _ s₁.heap _
        rw [e0]
        exact ⟨(by rw [if_neg (fun q => hc11 q.2.2.1)]), N0, rfl⟩
    · refine gb s₁ m 67 #[vr b, vi 1, vi 4] [(.int 0)] (fun u k => XS.icmpYes X0.here hx rfl (pc0 := 27) (pc' := 66) rfl (D d30_27) rfl (XT.ii_ne_t hc7) (by decide) (by decide) (XT.iconstV X0.here hx rfl (0 : Int32) (D d30_66) (by decide) k)) ?_
      obtain ⟨fs, hr, hrun, hended, hW, hsame⟩ := X0.leave (v := some (.int 0)) (fun h => by rw [Bd.returns] at h; cases h)
      refine ⟨_, _, retN X0 hx (t := .boolean) Bd.returns (by simp) (D d30_67) hr, hrun, hended, _, _, rfl, ?_, ⟨_, rfl⟩, hW, hsame.mono (by decide) (by decide)⟩
      show Q_own_same_1_4 Z b nz cf kb h0 n0 _ s₁.heap _
      rw [e0]
      exact ⟨(by rw [if_neg (fun q => hc7 q.2.1)]), N0, rfl⟩
  · refine gb s₁ m 67 #[vr b, vi 1, vi 4] [(.int 0)] (fun u k => XS.icmpYes X0.here hx rfl (pc0 := 11) (pc' := 66) rfl (D d30_11) rfl (XT.ii_ne_t hc3) (by decide) (by decide) (XT.iconstV X0.here hx rfl (0 : Int32) (D d30_66) (by decide) k)) ?_
    obtain ⟨fs, hr, hrun, hended, hW, hsame⟩ := X0.leave (v := some (.int 0)) (fun h => by rw [Bd.returns] at h; cases h)
    refine ⟨_, _, retN X0 hx (t := .boolean) Bd.returns (by simp) (D d30_67) hr, hrun, hended, _, _, rfl, ?_, ⟨_, rfl⟩, hW, hsame.mono (by decide) (by decide)⟩
    show Q_own_same_1_4 Z b nz cf kb h0 n0 _ s₁.heap _
    rw [e0]
    exact ⟨(by rw [if_neg (fun q => hc3 q.1)]), N0, rfl⟩
theorem own_ef_own_bor_5 (m : MethodId) (x0 : Addr) : entryFrame m #[(.ref x0), (.int 5)] 2 = mkF m 0 #[.val (.ref x0), .val (.int 5)] [] := by first | (simp [entryFrame, mkF, argsToLocals, Value.category]; done) | rfl
def Q_own_bor_5 (Z : State) (b : Addr) (nz : Nat) (cf : Nat → Int32) (kb : ClassId) (h0 : Heap) (n0 : Nat) (v : Option Value) (h : Heap) (L : List Loc) : Prop := v = some (.int (own_bd5 (cf 0) (cf 1) (cf 2) (cf 3) (cf 4))) ∧ Fr n0 L ∧ h = h0
theorem own_bor_5 (l : Launch) (Z : State) (a0 : Array Value) (hw : ∀ d ∈ tables_1, d.before a0 Z = true) (ws : List Jvm.Cond) (b : Addr) (nz : Nat) (cf : Nat → Int32) (kb : ClassId) (h0 : Heap) (n0 : Nat) (Z0 : n0 ≤ h0.size) (V_b : Arv Z h0 b kb .char (Int32.ofNat nz) (own_l nz cf) (.int 0)) (hnz : nz < 6) (hle : 5 ≤ nz) :
    own_Met l Z mn38 method_5_code 2 (some .int) ws rm22 #[(.ref b), (.int 5)] h0 (Q_own_bor_5 Z b nz cf kb h0 n0) := by
  refine own_start (plainFor_of_name own_pn8) fun p e s m below meth c s₁ Bd hx hby hml hZ hown hnm X0 e0 => ?_
  have H := @own_hw Z a0 hw
  have D := @hb _ _ hby
  have hown : s.vm.findClass "backstitch/NeedleOfPinLaw" = some m.cls := hown
  have N0 := Fr.nil n0
  have K0 := Keep.refl h0 []
  rw [own_ef_own_bor_5 m b]
  refine gb s₁ m 9 #[vr b, vi 5] [(.int ((5 : Int32) - (4 : Int32))), (.ref b)] (fun u k => XS.iloadN X0.here hx rfl (D d29_0) rfl (XT.iconstV X0.here hx rfl (5 : Int32) (D d29_1) (by decide) (XS.icmpNo X0.here hx rfl (D d29_2) rfl (XT.ii_lt_f (by decide)) (XS.aloadN X0.here hx rfl (D d29_5) rfl rfl (XS.iloadN X0.here hx rfl (D d29_6) rfl (XT.iconstV X0.here hx rfl (4 : Int32) (D d29_7) (by decide) (XS.isub X0.here hx rfl (D d29_8) rfl k))))))) ?_
  have rw1 : ((5 : Int32) - (4 : Int32)) = (1 : Int32) := by decide
  rw [rw1]
  refine gb s₁ m 10 #[vr b, vi 5] [(.int 4), (.int 1), (.ref b)] (fun u k => XT.iconstV X0.here hx rfl (4 : Int32) (D d29_9) (by decide) k) ?_
  obtain ⟨_, _, ⟨T2, L2, k2, n2⟩, -, X2, ⟨Lc2, hQ2, l2, y2, z2⟩, st2⟩ := Jvm.LawKit.callS X0 hx (y := mn39) hown (mvT hZ (H 186 rfl)) (mvT hZ (H 187 rfl)) (mvT hZ (H 3 rfl)) (mvT hZ (H 188 rfl)) (by decide) (backOf (W := 0) (own_same_1_4 l Z a0 hw [] b nz cf kb h0 n0 Z0 V_b hnz hle) hZ (H 188 rfl) (H 3 rfl) (by decide) (by decide)) (g := (mkF m 10 #[vr b, vi 5] [(.int 4), (.int 1), (.ref b)])) rfl (by rw [hml]; rfl) (argsL := [(.ref b), (.int 1), (.int 4)]) (rest := []) (lenOf own_pd28 rfl) rfl (own_w0 rfl) (D d29_10) (fun _ _ => ⟨rfl, e0, (by decide : 0 + 0 ≤ _), (by decide : 0 + 0 ≤ _)⟩)
  dsimp only [Pt.U, Pt.locs, Pt.cells, Pt.slots] at X2 l2 y2 z2 st2 hQ2
  subst l2 y2 z2
  obtain ⟨rfl, N2, e2⟩ := hQ2
  have NA2 := Fr.app N0 N2
  refine gb T2 m 13 #[vr b, vi 5] [(.int (if (cf 0) = (cf 1) ∧ (cf 1) = (cf 2) ∧ (cf 2) = (cf 3) ∧ (cf 3) = (cf 4) then (1 : Int32) else (0 : Int32)))] st2 ?_
  clear st2
  by_cases hA4 : (cf 0) = (cf 1) ∧ (cf 1) = (cf 2) ∧ (cf 2) = (cf 3) ∧ (cf 3) = (cf 4)
  · have rw3 : (if (cf 0) = (cf 1) ∧ (cf 1) = (cf 2) ∧ (cf 2) = (cf 3) ∧ (cf 3) = (cf 4) then (1 : Int32) else (0 : Int32)) = (1 : Int32) := if_pos hA4
    rw [rw3]
    refine gb T2 m 17 #[vr b, vi 5] [(.int 4)] (fun u k => XS.ifNo X2.here hx rfl (D d29_13) rfl (XT.i0_eq_f (by decide)) (XT.iconstV X2.here hx rfl (4 : Int32) (D d29_16) (by decide) k)) ?_
    obtain ⟨fs, hr, hrun, hended, hW, hsame⟩ := X2.leave (v := some (.int 4)) (fun h => by rw [Bd.returns] at h; cases h)
    refine ⟨_, _, retI X2 hx Bd.returns (D d29_17) hr, hrun, hended, _, _, rfl, ?_, ⟨_, rfl⟩, hW, hsame.mono (by decide) (by decide)⟩
    show Q_own_bor_5 Z b nz cf kb h0 n0 _ T2.heap _
    rw [e2]
    exact ⟨(by unfold own_bd5; rw [if_pos hA4]), NA2, rfl⟩
  · have rw4 : (if (cf 0) = (cf 1) ∧ (cf 1) = (cf 2) ∧ (cf 2) = (cf 3) ∧ (cf 3) = (cf 4) then (1 : Int32) else (0 : Int32)) = (0 : Int32) := if_neg hA4
    rw [rw4]
    refine gb T2 m 27 #[vr b, vi 5] [(.int ((5 : Int32) - (3 : Int32))), (.ref b)] (fun u k => XS.ifYes X2.here hx rfl (pc0 := 13) (pc' := 18) rfl (D d29_13) rfl (XT.i0_eq_t (by decide)) (by decide) (by decide) (XS.iloadN X2.here hx rfl (D d29_18) rfl (XT.iconstV X2.here hx rfl (4 : Int32) (D d29_19) (by decide) (XS.icmpNo X2.here hx rfl (D d29_20) rfl (XT.ii_lt_f (by decide)) (XS.aloadN X2.here hx rfl (D d29_23) rfl rfl (XS.iloadN X2.here hx rfl (D d29_24) rfl (XT.iconstV X2.here hx rfl (3 : Int32) (D d29_25) (by decide) (XS.isub X2.here hx rfl (D d29_26) rfl k)))))))) ?_
    have rw5 : ((5 : Int32) - (3 : Int32)) = (2 : Int32) := by decide
    rw [rw5]
    refine gb T2 m 28 #[vr b, vi 5] [(.int 3), (.int 2), (.ref b)] (fun u k => XT.iconstV X2.here hx rfl (3 : Int32) (D d29_27) (by decide) k) ?_
    obtain ⟨_, _, ⟨T6, L6, k6, n6⟩, -, X6, ⟨Lc6, hQ6, l6, y6, z6⟩, st6⟩ := Jvm.LawKit.callS X2 hx (y := mn39) hown (mvT hZ (H 186 rfl)) (mvT hZ (H 187 rfl)) (mvT hZ (H 3 rfl)) (mvT hZ (H 188 rfl)) (by decide) (backOf (W := 0) (own_same_2_3 l Z a0 hw [] b nz cf kb h0 n0 Z0 V_b hnz hle) hZ (H 188 rfl) (H 3 rfl) (by decide) (by decide)) (g := (mkF m 28 #[vr b, vi 5] [(.int 3), (.int 2), (.ref b)])) rfl (by rw [hml]; rfl) (argsL := [(.ref b), (.int 2), (.int 3)]) (rest := []) (lenOf own_pd28 rfl) rfl (own_w0 rfl) (D d29_28) (fun _ _ => ⟨rfl, e2, (by decide : 0 + 0 ≤ _), (by decide : 0 + 0 ≤ _)⟩)
    dsimp only [Pt.U, Pt.locs, Pt.cells, Pt.slots] at X6 l6 y6 z6 st6 hQ6
    subst l6 y6 z6
    obtain ⟨rfl, N6, e6⟩ := hQ6
    have NA6 := Fr.app NA2 N6
    refine gb T6 m 31 #[vr b, vi 5] [(.int (if (cf 0) = (cf 2) ∧ (cf 1) = (cf 3) ∧ (cf 2) = (cf 4) then (1 : Int32) else (0 : Int32)))] st6 ?_
    clear st6
    by_cases hA3 : (cf 0) = (cf 2) ∧ (cf 1) = (cf 3) ∧ (cf 2) = (cf 4)
    · have rw7 : (if (cf 0) = (cf 2) ∧ (cf 1) = (cf 3) ∧ (cf 2) = (cf 4) then (1 : Int32) else (0 : Int32)) = (1 : Int32) := if_pos hA3
      rw [rw7]
      refine gb T6 m 35 #[vr b, vi 5] [(.int 3)] (fun u k => XS.ifNo X6.here hx rfl (D d29_31) rfl (XT.i0_eq_f (by decide)) (XT.iconstV X6.here hx rfl (3 : Int32) (D d29_34) (by decide) k)) ?_
      obtain ⟨fs, hr, hrun, hended, hW, hsame⟩ := X6.leave (v := some (.int 3)) (fun h => by rw [Bd.returns] at h; cases h)
      refine ⟨_, _, retI X6 hx Bd.returns (D d29_35) hr, hrun, hended, _, _, rfl, ?_, ⟨_, rfl⟩, hW, hsame.mono (by decide) (by decide)⟩
      show Q_own_bor_5 Z b nz cf kb h0 n0 _ T6.heap _
      rw [e6]
      exact ⟨(by unfold own_bd5; rw [if_neg hA4, if_pos hA3]), NA6, rfl⟩
    · have rw8 : (if (cf 0) = (cf 2) ∧ (cf 1) = (cf 3) ∧ (cf 2) = (cf 4) then (1 : Int32) else (0 : Int32)) = (0 : Int32) := if_neg hA3
      rw [rw8]
      refine gb T6 m 45 #[vr b, vi 5] [(.int ((5 : Int32) - (2 : Int32))), (.ref b)] (fun u k => XS.ifYes X6.here hx rfl (pc0 := 31) (pc' := 36) rfl (D d29_31) rfl (XT.i0_eq_t (by decide)) (by decide) (by decide) (XS.iloadN X6.here hx rfl (D d29_36) rfl (XT.iconstV X6.here hx rfl (3 : Int32) (D d29_37) (by decide) (XS.icmpNo X6.here hx rfl (D d29_38) rfl (XT.ii_lt_f (by decide)) (XS.aloadN X6.here hx rfl (D d29_41) rfl rfl (XS.iloadN X6.here hx rfl (D d29_42) rfl (XT.iconstV X6.here hx rfl (2 : Int32) (D d29_43) (by decide) (XS.isub X6.here hx rfl (D d29_44) rfl k)))))))) ?_
      have rw9 : ((5 : Int32) - (2 : Int32)) = (3 : Int32) := by decide
      rw [rw9]
      refine gb T6 m 46 #[vr b, vi 5] [(.int 2), (.int 3), (.ref b)] (fun u k => XT.iconstV X6.here hx rfl (2 : Int32) (D d29_45) (by decide) k) ?_
      obtain ⟨_, _, ⟨T10, L10, k10, n10⟩, -, X10, ⟨Lc10, hQ10, l10, y10, z10⟩, st10⟩ := Jvm.LawKit.callS X6 hx (y := mn39) hown (mvT hZ (H 186 rfl)) (mvT hZ (H 187 rfl)) (mvT hZ (H 3 rfl)) (mvT hZ (H 188 rfl)) (by decide) (backOf (W := 0) (own_same_3_2 l Z a0 hw [] b nz cf kb h0 n0 Z0 V_b hnz hle) hZ (H 188 rfl) (H 3 rfl) (by decide) (by decide)) (g := (mkF m 46 #[vr b, vi 5] [(.int 2), (.int 3), (.ref b)])) rfl (by rw [hml]; rfl) (argsL := [(.ref b), (.int 3), (.int 2)]) (rest := []) (lenOf own_pd28 rfl) rfl (own_w0 rfl) (D d29_46) (fun _ _ => ⟨rfl, e6, (by decide : 0 + 0 ≤ _), (by decide : 0 + 0 ≤ _)⟩)
      dsimp only [Pt.U, Pt.locs, Pt.cells, Pt.slots] at X10 l10 y10 z10 st10 hQ10
      subst l10 y10 z10
      obtain ⟨rfl, N10, e10⟩ := hQ10
      have NA10 := Fr.app NA6 N10
      refine gb T10 m 49 #[vr b, vi 5] [(.int (if (cf 0) = (cf 3) ∧ (cf 1) = (cf 4) then (1 : Int32) else (0 : Int32)))] st10 ?_
      clear st10
      by_cases hA2 : (cf 0) = (cf 3) ∧ (cf 1) = (cf 4)
      · have rw11 : (if (cf 0) = (cf 3) ∧ (cf 1) = (cf 4) then (1 : Int32) else (0 : Int32)) = (1 : Int32) := if_pos hA2
        rw [rw11]
        refine gb T10 m 53 #[vr b, vi 5] [(.int 2)] (fun u k => XS.ifNo X10.here hx rfl (D d29_49) rfl (XT.i0_eq_f (by decide)) (XT.iconstV X10.here hx rfl (2 : Int32) (D d29_52) (by decide) k)) ?_
        obtain ⟨fs, hr, hrun, hended, hW, hsame⟩ := X10.leave (v := some (.int 2)) (fun h => by rw [Bd.returns] at h; cases h)
        refine ⟨_, _, retI X10 hx Bd.returns (D d29_53) hr, hrun, hended, _, _, rfl, ?_, ⟨_, rfl⟩, hW, hsame.mono (by decide) (by decide)⟩
        show Q_own_bor_5 Z b nz cf kb h0 n0 _ T10.heap _
        rw [e10]
        exact ⟨(by unfold own_bd5; rw [if_neg hA4, if_neg hA3, if_pos hA2]), NA10, rfl⟩
      · have rw12 : (if (cf 0) = (cf 3) ∧ (cf 1) = (cf 4) then (1 : Int32) else (0 : Int32)) = (0 : Int32) := if_neg hA2
        rw [rw12]
        refine gb T10 m 63 #[vr b, vi 5] [(.int ((5 : Int32) - (1 : Int32))), (.ref b)] (fun u k => XS.ifYes X10.here hx rfl (pc0 := 49) (pc' := 54) rfl (D d29_49) rfl (XT.i0_eq_t (by decide)) (by decide) (by decide) (XS.iloadN X10.here hx rfl (D d29_54) rfl (XT.iconstV X10.here hx rfl (2 : Int32) (D d29_55) (by decide) (XS.icmpNo X10.here hx rfl (D d29_56) rfl (XT.ii_lt_f (by decide)) (XS.aloadN X10.here hx rfl (D d29_59) rfl rfl (XS.iloadN X10.here hx rfl (D d29_60) rfl (XT.iconstV X10.here hx rfl (1 : Int32) (D d29_61) (by decide) (XS.isub X10.here hx rfl (D d29_62) rfl k)))))))) ?_
        have rw13 : ((5 : Int32) - (1 : Int32)) = (4 : Int32) := by decide
        rw [rw13]
        refine gb T10 m 64 #[vr b, vi 5] [(.int 1), (.int 4), (.ref b)] (fun u k => XT.iconstV X10.here hx rfl (1 : Int32) (D d29_63) (by decide) k) ?_
        obtain ⟨_, _, ⟨T14, L14, k14, n14⟩, -, X14, ⟨Lc14, hQ14, l14, y14, z14⟩, st14⟩ := Jvm.LawKit.callS X10 hx (y := mn39) hown (mvT hZ (H 186 rfl)) (mvT hZ (H 187 rfl)) (mvT hZ (H 3 rfl)) (mvT hZ (H 188 rfl)) (by decide) (backOf (W := 0) (own_same_4_1 l Z a0 hw [] b nz cf kb h0 n0 Z0 V_b hnz hle) hZ (H 188 rfl) (H 3 rfl) (by decide) (by decide)) (g := (mkF m 64 #[vr b, vi 5] [(.int 1), (.int 4), (.ref b)])) rfl (by rw [hml]; rfl) (argsL := [(.ref b), (.int 4), (.int 1)]) (rest := []) (lenOf own_pd28 rfl) rfl (own_w0 rfl) (D d29_64) (fun _ _ => ⟨rfl, e10, (by decide : 0 + 0 ≤ _), (by decide : 0 + 0 ≤ _)⟩)
        dsimp only [Pt.U, Pt.locs, Pt.cells, Pt.slots] at X14 l14 y14 z14 st14 hQ14
        subst l14 y14 z14
        obtain ⟨rfl, N14, e14⟩ := hQ14
        have NA14 := Fr.app NA10 N14
        refine gb T14 m 67 #[vr b, vi 5] [(.int (if (cf 0) = (cf 4) then (1 : Int32) else (0 : Int32)))] st14 ?_
        clear st14
        by_cases hA1 : (cf 0) = (cf 4)
        · have rw15 : (if (cf 0) = (cf 4) then (1 : Int32) else (0 : Int32)) = (1 : Int32) := if_pos hA1
          rw [rw15]
          refine gb T14 m 71 #[vr b, vi 5] [(.int 1)] (fun u k => XS.ifNo X14.here hx rfl (D d29_67) rfl (XT.i0_eq_f (by decide)) (XT.iconstV X14.here hx rfl (1 : Int32) (D d29_70) (by decide) k)) ?_
          obtain ⟨fs, hr, hrun, hended, hW, hsame⟩ := X14.leave (v := some (.int 1)) (fun h => by rw [Bd.returns] at h; cases h)
          refine ⟨_, _, retI X14 hx Bd.returns (D d29_71) hr, hrun, hended, _, _, rfl, ?_, ⟨_, rfl⟩, hW, hsame.mono (by decide) (by decide)⟩
          show Q_own_bor_5 Z b nz cf kb h0 n0 _ T14.heap _
          rw [e14]
          exact ⟨(by unfold own_bd5; rw [if_neg hA4, if_neg hA3, if_neg hA2, if_pos hA1]), NA14, rfl⟩
        · have rw16 : (if (cf 0) = (cf 4) then (1 : Int32) else (0 : Int32)) = (0 : Int32) := if_neg hA1
          rw [rw16]
          refine gb T14 m 73 #[vr b, vi 5] [(.int 0)] (fun u k => XS.ifYes X14.here hx rfl (pc0 := 67) (pc' := 72) rfl (D d29_67) rfl (XT.i0_eq_t (by decide)) (by decide) (by decide) (XT.iconstV X14.here hx rfl (0 : Int32) (D d29_72) (by decide) k)) ?_
          obtain ⟨fs, hr, hrun, hended, hW, hsame⟩ := X14.leave (v := some (.int 0)) (fun h => by rw [Bd.returns] at h; cases h)
          refine ⟨_, _, retI X14 hx Bd.returns (D d29_73) hr, hrun, hended, _, _, rfl, ?_, ⟨_, rfl⟩, hW, hsame.mono (by decide) (by decide)⟩
          show Q_own_bor_5 Z b nz cf kb h0 n0 _ T14.heap _
          rw [e14]
          exact ⟨(by unfold own_bd5; rw [if_neg hA4, if_neg hA3, if_neg hA2, if_neg hA1]), NA14, rfl⟩
theorem d27_0 : dc cd27 0 (.aload_n 0) 1 := by decide +kernel
theorem d27_1 : dc cd27 1 (.getfield 7) 3 := by decide +kernel
theorem d27_4 : dc cd27 4 .arraylength 1 := by decide +kernel
theorem d27_5 : dc cd27 5 .ireturn 1 := by decide +kernel
theorem own_ef_own_ndlen (m : MethodId) (x0 : Addr) : entryFrame m #[(.ref x0)] 1 = mkF m 0 #[.val (.ref x0)] [] := by first | (simp [entryFrame, mkF, argsToLocals, Value.category]; done) | rfl
def Q_own_ndlen (Z : State) (a : Addr) (b : Addr) (nz : Nat) (cf : Nat → Int32) (kq : ClassId) (h0 : Heap) (n0 : Nat) (v : Option Value) (h : Heap) (L : List Loc) : Prop := v = some (.int (Int32.ofNat nz)) ∧ Fr n0 L ∧ h = h0
theorem own_ndlen (l : Launch) (Z : State) (a0 : Array Value) (hw : ∀ d ∈ tables_1, d.before a0 Z = true) (ws : List Jvm.Cond) (a : Addr) (b : Addr) (nz : Nat) (cf : Nat → Int32) (kq : ClassId) (h0 : Heap) (n0 : Nat) (Z0 : n0 ≤ h0.size) (F_a_units : Fld Z h0 a "backstitch/Needle" "units" "[C" (.ref b)) (V_b : Arv Z h0 b kq .char (Int32.ofNat nz) (own_l nz cf) (.int 0)) :
    own_Met l Z mn40 prog_8_method_23_code 1 (some .int) ws rm0 #[(.ref a)] h0 (Q_own_ndlen Z a b nz cf kq h0 n0) := by
  refine own_start (plainFor_of_name own_pn4) fun p e s m below meth c s₁ Bd hx hby hml hZ hown hnm X0 e0 => ?_
  have H := @own_hw Z a0 hw
  have D := @hb _ _ hby
  have hown : s.vm.findClass "backstitch/Needle" = some m.cls := hown
  have N0 := Fr.nil n0
  have K0 := Keep.refl h0 []
  rw [own_ef_own_ndlen m a]
  refine gb s₁ m 1 #[vr a] [(.ref a)] (fun u k => XS.aloadN X0.here hx rfl (D d27_0) rfl rfl k) ?_
  obtain ⟨T1, X1, e1, st1⟩ := getF X0 hx hZ hown (host := "") (Or.inl (H 75 rfl)) Via.refl e0 F_a_units (g := (mkF m 1 #[vr a] [(.ref a)])) rfl rfl (D d27_1)
  refine gb T1 m 4 #[vr a] [(.ref b)] st1 ?_
  clear st1
  obtain ⟨cl2, Ar2, aq2, aS2, aM2, aH2, aG2⟩ := id V_b
  refine gb T1 m 5 #[vr a] [(.int cl2.slots.size.toInt32)] (fun u k => X1.arraylength hx (by rw [e1]; exact Ar2.1) (State.isArrayOf_alike hZ.alike Ar2.2.1) (g := (mkF m 4 #[vr a] [(.ref b)])) rfl rfl (D d27_4) _ k) ?_
  rw [len_of aS2 aM2]
  obtain ⟨fs, hr, hrun, hended, hW, hsame⟩ := X1.leave (v := some (.int (Int32.ofNat nz))) (fun h => by rw [Bd.returns] at h; cases h)
  refine ⟨_, _, retI X1 hx Bd.returns (D d27_5) hr, hrun, hended, _, _, rfl, ?_, ⟨_, rfl⟩, hW, hsame.mono (by decide) (by decide)⟩
  show Q_own_ndlen Z a b nz cf kq h0 n0 _ T1.heap _
  rw [e1]
  exact ⟨rfl, N0, rfl⟩
theorem d28_0 : dc cd28 0 (.aload_n 0) 1 := by decide +kernel
theorem d28_1 : dc cd28 1 (.getfield 60) 3 := by decide +kernel
theorem d28_4 : dc cd28 4 (.invokevirtual 167) 3 := by decide +kernel
theorem d28_7 : dc cd28 7 (.checkcast 168) 3 := by decide +kernel
theorem d28_10 : dc cd28 10 .areturn 1 := by decide +kernel
theorem own_ef_own_bors (m : MethodId) (x0 : Addr) : entryFrame m #[(.ref x0)] 1 = mkF m 0 #[.val (.ref x0)] [] := by first | (simp [entryFrame, mkF, argsToLocals, Value.category]; done) | rfl
def Q_own_bors (Z : State) (a : Addr) (r : Addr) (nz : Nat) (cf : Nat → Int32) (kr : ClassId) (h0 : Heap) (n0 : Nat) (v : Option Value) (h : Heap) (L : List Loc) : Prop := ∃ q : Addr, ∃ kz : ClassId, v = some (.ref q) ∧ Fr n0 L ∧ Keep h0 h [] ∧ n0 ≤ q ∧ h0.size ≤ q ∧ Arv Z h q kz .int (Int32.ofNat nz) (own_l nz (own_bf cf (nz - 1))) (.int 0)
theorem own_bors (l : Launch) (Z : State) (a0 : Array Value) (hw : ∀ d ∈ tables_1, d.before a0 Z = true) (ws : List Jvm.Cond) (a : Addr) (r : Addr) (nz : Nat) (cf : Nat → Int32) (kr : ClassId) (h0 : Heap) (n0 : Nat) (Z0 : n0 ≤ h0.size) (F_a_borders : Fld Z h0 a "backstitch/Needle" "borders" "[I" (.ref r)) (E_r : Exa Z h0 r "[I") (V_r : Arv Z h0 r kr .int (Int32.ofNat nz) (own_l nz (own_bf cf (nz - 1))) (.int 0)) (hnz : nz < 6) :
    own_Met l Z mn41 prog_8_method_17_code 1 (some (.array .int)) ws rm23 #[(.ref a)] h0 (Q_own_bors Z a r nz cf kr h0 n0) := by
  refine own_start (plainFor_of_name own_pn4) fun p e s m below meth c s₁ Bd hx hby hml hZ hown hnm X0 e0 => ?_
  have H := @own_hw Z a0 hw
  have D := @hb _ _ hby
  have hown : s.vm.findClass "backstitch/Needle" = some m.cls := hown
  have N0 := Fr.nil n0
  have K0 := Keep.refl h0 []
  rw [own_ef_own_bors m a]
  refine gb s₁ m 1 #[vr a] [(.ref a)] (fun u k => XS.aloadN X0.here hx rfl (D d28_0) rfl rfl k) ?_
  obtain ⟨T1, X1, e1, st1⟩ := getF X0 hx hZ hown (host := "") (Or.inl (H 136 rfl)) Via.refl e0 F_a_borders (g := (mkF m 1 #[vr a] [(.ref a)])) rfl rfl (D d28_1)
  refine gb T1 m 4 #[vr a] [(.ref r)] st1 ?_
  clear st1
  obtain ⟨T2, h2, X2, e2, E2, A2, B2, st2⟩ := cloneH X1 hx hZ hown (H 174 rfl) (H 175 rfl) (H 179 rfl) (H 177 rfl) (H 178 rfl) (H 180 rfl) e1 V_r.arh E_r (g := (mkF m 4 #[vr a] [(.ref r)])) rfl (by rw [hml]; rfl) rfl (D d28_4) (by decide) (W := 0) (cap := 5) (own_w0 rfl) (by decide) (by rw [(own_j nz (by omega)).2.1]; omega) (by decide) (by decide)
  obtain ⟨b2, g2⟩ : ∃ z, z = h0.size := ⟨_, rfl⟩
  rw [← g2] at A2 B2 st2
  have ne_a_b2 : a ≠ b2 := Nat.ne_of_lt (Nat.lt_of_lt_of_le F_a_borders.lt (Nat.le_of_eq g2.symm))
  have ne_r_b2 : r ≠ b2 := Nat.ne_of_lt (Nat.lt_of_lt_of_le E_r.lt (Nat.le_of_eq g2.symm))
  have gb2 : n0 ≤ b2 := Nat.le_trans Z0 (Nat.le_of_eq g2.symm)
  have sz2 : h0.size ≤ b2 := Nat.le_trans K0.1 (Nat.le_of_eq g2.symm)
  have Z2 : n0 ≤ h2.size := Nat.le_trans Z0 E2.1
  have K2 := K0.ext E2
  have V2 : Arv Z h2 b2 kr .int (Int32.ofNat nz) (own_l nz (own_bf cf (nz - 1))) (.int 0) := A2
  refine gb T2 m 7 #[vr a] [(.ref b2)] st2 ?_
  clear st2
  obtain ⟨T3, X3, e3, st3⟩ := castY X2 hx hZ hown (H 181 rfl) e2 (Ins.self B2) (g := (mkF m 7 #[vr a] [(.ref b2)])) rfl rfl (D d28_7)
  refine gb T3 m 10 #[vr a] [(.ref b2)] st3 ?_
  clear st3
  obtain ⟨fs, hr, hrun, hended, hW, hsame⟩ := X3.leave (v := some (.ref b2)) (fun h => by rw [Bd.returns] at h; cases h)
  refine ⟨_, _, retOut X3 hx (t := (.array .int)) (i := .areturn) Bd.returns rfl (Or.inr (Or.inr (Or.inr (Or.inr ⟨rfl, rfl, rfl⟩)))) (D d28_10) hr, hrun, hended, _, _, rfl, ?_, ⟨_, rfl⟩, hW, hsame.mono (by decide) (by decide)⟩
  show Q_own_bors Z a r nz cf kr h0 n0 _ T3.heap _
  rw [e3]
  exact ⟨b2, kr, rfl, N0, K2, gb2, sz2, V2⟩
theorem d32_0 : dc cd32 0 (.aload_n 0) 1 := by decide +kernel
theorem d32_1 : dc cd32 1 (.getfield 60) 3 := by decide +kernel
theorem d32_4 : dc cd32 4 (.aload_n 0) 1 := by decide +kernel
theorem d32_5 : dc cd32 5 (.getfield 7) 3 := by decide +kernel
theorem d32_8 : dc cd32 8 .arraylength 1 := by decide +kernel
theorem d32_9 : dc cd32 9 (.iconst 1) 1 := by decide +kernel
theorem d32_10 : dc cd32 10 .isub 1 := by decide +kernel
theorem d32_11 : dc cd32 11 .iaload 1 := by decide +kernel
theorem d32_12 : dc cd32 12 .ireturn 1 := by decide +kernel
theorem own_ef_own_lb (m : MethodId) (x0 : Addr) : entryFrame m #[(.ref x0)] 1 = mkF m 0 #[.val (.ref x0)] [] := by first | (simp [entryFrame, mkF, argsToLocals, Value.category]; done) | rfl
def Q_own_lb (Z : State) (a : Addr) (b : Addr) (r : Addr) (nz : Nat) (cf : Nat → Int32) (kq : ClassId) (kr : ClassId) (h0 : Heap) (n0 : Nat) (v : Option Value) (h : Heap) (L : List Loc) : Prop := v = some (.int (own_bf cf (nz - 1) (nz - 1))) ∧ Fr n0 L ∧ h = h0
theorem own_lb (l : Launch) (Z : State) (a0 : Array Value) (hw : ∀ d ∈ tables_1, d.before a0 Z = true) (ws : List Jvm.Cond) (a : Addr) (b : Addr) (r : Addr) (nz : Nat) (cf : Nat → Int32) (kq : ClassId) (kr : ClassId) (h0 : Heap) (n0 : Nat) (Z0 : n0 ≤ h0.size) (E_a : Exa Z h0 a "backstitch/Needle") (F_a_units : Fld Z h0 a "backstitch/Needle" "units" "[C" (.ref b)) (F_a_borders : Fld Z h0 a "backstitch/Needle" "borders" "[I" (.ref r)) (V_b : Arv Z h0 b kq .char (Int32.ofNat nz) (own_l nz cf) (.int 0)) (V_r : Arv Z h0 r kr .int (Int32.ofNat nz) (own_l nz (own_bf cf (nz - 1))) (.int 0)) (hnz : nz < 6) (hn1 : 0 < nz) :
    own_Met l Z mn42 prog_8_method_24_code 1 (some .int) ws rm0 #[(.ref a)] h0 (Q_own_lb Z a b r nz cf kq kr h0 n0) := by
  refine own_start (plainFor_of_name own_pn4) fun p e s m below meth c s₁ Bd hx hby hml hZ hown hnm X0 e0 => ?_
  have H := @own_hw Z a0 hw
  have D := @hb _ _ hby
  have hown : s.vm.findClass "backstitch/Needle" = some m.cls := hown
  have N0 := Fr.nil n0
  have K0 := Keep.refl h0 []
  rw [own_ef_own_lb m a]
  refine gb s₁ m 1 #[vr a] [(.ref a)] (fun u k => XS.aloadN X0.here hx rfl (D d32_0) rfl rfl k) ?_
  obtain ⟨T1, X1, e1, st1⟩ := getF X0 hx hZ hown (host := "") (Or.inl (H 136 rfl)) Via.refl e0 F_a_borders (g := (mkF m 1 #[vr a] [(.ref a)])) rfl rfl (D d32_1)
  refine gb T1 m 4 #[vr a] [(.ref r)] st1 ?_
  clear st1
  refine gb T1 m 5 #[vr a] [(.ref a), (.ref r)] (fun u k => XS.aloadN X1.here hx rfl (D d32_4) rfl rfl k) ?_
  obtain ⟨T2, X2, e2, st2⟩ := getF X1 hx hZ hown (host := "") (Or.inl (H 75 rfl)) Via.refl e1 F_a_units (g := (mkF m 5 #[vr a] [(.ref a), (.ref r)])) rfl rfl (D d32_5)
  refine gb T2 m 8 #[vr a] [(.ref b), (.ref r)] st2 ?_
  clear st2
  obtain ⟨cl3, Ar3, aq3, aS3, aM3, aH3, aG3⟩ := id V_b
  refine gb T2 m 9 #[vr a] [(.int cl3.slots.size.toInt32), (.ref r)] (fun u k => X2.arraylength hx (by rw [e2]; exact Ar3.1) (State.isArrayOf_alike hZ.alike Ar3.2.1) (g := (mkF m 8 #[vr a] [(.ref b), (.ref r)])) rfl rfl (D d32_8) _ k) ?_
  rw [len_of aS3 aM3]
  refine gb T2 m 11 #[vr a] [(.int ((Int32.ofNat nz) - (1 : Int32))), (.ref r)] (fun u k => XT.iconstV X2.here hx rfl (1 : Int32) (D d32_9) (by decide) (XS.isub X2.here hx rfl (D d32_10) rfl k)) ?_
  have rw4 : ((Int32.ofNat nz) - (1 : Int32)) = (Int32.ofNat (nz - 1)) := own_pred hn1 (by omega)
  rw [rw4]
  obtain ⟨cl5, Ar5, aq5, aS5, aM5, aH5, aG5⟩ := id V_r
  refine gb T2 m 12 #[vr a] [(.int (own_bf cf (nz - 1) (nz - 1)))] (fun u k => X2.iaload hx (j := (Int32.ofNat (nz - 1))) (v := (.int (own_bf cf (nz - 1) (nz - 1)))) (by rw [e2]; exact Ar5.1) (State.isArrayOf_alike hZ.alike Ar5.2.1) Ar5.2.2 (inb_of aS5 (own_ib (by omega) (by omega))) (Has.at aH5 (inb_of aS5 (own_ib (by omega) (by omega))) (own_ld _ (by omega) (by omega))) (g := (mkF m 11 #[vr a] [(.int (Int32.ofNat (nz - 1))), (.ref r)])) rfl rfl (D d32_11) _ k) ?_
  obtain ⟨fs, hr, hrun, hended, hW, hsame⟩ := X2.leave (v := some (.int (own_bf cf (nz - 1) (nz - 1)))) (fun h => by rw [Bd.returns] at h; cases h)
  refine ⟨_, _, retI X2 hx Bd.returns (D d32_12) hr, hrun, hended, _, _, rfl, ?_, ⟨_, rfl⟩, hW, hsame.mono (by decide) (by decide)⟩
  show Q_own_lb Z a b r nz cf kq kr h0 n0 _ T2.heap _
  rw [e2]
  exact ⟨rfl, N0, rfl⟩
theorem d31_0 : dc cd31 0 (.aload_n 0) 1 := by decide +kernel
theorem d31_1 : dc cd31 1 (.getfield 7) 3 := by decide +kernel
theorem d31_4 : dc cd31 4 .arraylength 1 := by decide +kernel
theorem d31_5 : dc cd31 5 (.ifCond .ne 7) 3 := by decide +kernel
theorem d31_8 : dc cd31 8 (.iconst 0) 1 := by decide +kernel
theorem d31_9 : dc cd31 9 (.goto 13) 3 := by decide +kernel
theorem d31_12 : dc cd31 12 (.aload_n 0) 1 := by decide +kernel
theorem d31_13 : dc cd31 13 (.getfield 7) 3 := by decide +kernel
theorem d31_16 : dc cd31 16 .arraylength 1 := by decide +kernel
theorem d31_17 : dc cd31 17 (.aload_n 0) 1 := by decide +kernel
theorem d31_18 : dc cd31 18 (.invokevirtual 172) 3 := by decide +kernel
theorem d31_21 : dc cd31 21 .isub 1 := by decide +kernel
theorem d31_22 : dc cd31 22 .ireturn 1 := by decide +kernel
theorem own_ef_own_per (m : MethodId) (x0 : Addr) : entryFrame m #[(.ref x0)] 1 = mkF m 0 #[.val (.ref x0)] [] := by first | (simp [entryFrame, mkF, argsToLocals, Value.category]; done) | rfl
def Q_own_per (Z : State) (a : Addr) (b : Addr) (r : Addr) (nz : Nat) (cf : Nat → Int32) (kq : ClassId) (kr : ClassId) (h0 : Heap) (n0 : Nat) (v : Option Value) (h : Heap) (L : List Loc) : Prop := v = some (.int (own_pd nz cf)) ∧ Fr n0 L ∧ h = h0
theorem own_per (l : Launch) (Z : State) (a0 : Array Value) (hw : ∀ d ∈ tables_1, d.before a0 Z = true) (ws : List Jvm.Cond) (a : Addr) (b : Addr) (r : Addr) (nz : Nat) (cf : Nat → Int32) (kq : ClassId) (kr : ClassId) (h0 : Heap) (n0 : Nat) (Z0 : n0 ≤ h0.size) (E_a : Exa Z h0 a "backstitch/Needle") (F_a_units : Fld Z h0 a "backstitch/Needle" "units" "[C" (.ref b)) (F_a_borders : Fld Z h0 a "backstitch/Needle" "borders" "[I" (.ref r)) (V_b : Arv Z h0 b kq .char (Int32.ofNat nz) (own_l nz cf) (.int 0)) (V_r : Arv Z h0 r kr .int (Int32.ofNat nz) (own_l nz (own_bf cf (nz - 1))) (.int 0)) (hnz : nz < 6) :
    own_Met l Z mn43 prog_8_method_18_code 1 (some .int) ws rm24 #[(.ref a)] h0 (Q_own_per Z a b r nz cf kq kr h0 n0) := by
  refine own_start (plainFor_of_name own_pn4) fun p e s m below meth c s₁ Bd hx hby hml hZ hown hnm X0 e0 => ?_
  have H := @own_hw Z a0 hw
  have D := @hb _ _ hby
  have hown : s.vm.findClass "backstitch/Needle" = some m.cls := hown
  have N0 := Fr.nil n0
  have K0 := Keep.refl h0 []
  rw [own_ef_own_per m a]
  refine gb s₁ m 1 #[vr a] [(.ref a)] (fun u k => XS.aloadN X0.here hx rfl (D d31_0) rfl rfl k) ?_
  obtain ⟨T1, X1, e1, st1⟩ := getF X0 hx hZ hown (host := "") (Or.inl (H 75 rfl)) Via.refl e0 F_a_units (g := (mkF m 1 #[vr a] [(.ref a)])) rfl rfl (D d31_1)
  refine gb T1 m 4 #[vr a] [(.ref b)] st1 ?_
  clear st1
  obtain ⟨cl2, Ar2, aq2, aS2, aM2, aH2, aG2⟩ := id V_b
  refine gb T1 m 5 #[vr a] [(.int cl2.slots.size.toInt32)] (fun u k => X1.arraylength hx (by rw [e1]; exact Ar2.1) (State.isArrayOf_alike hZ.alike Ar2.2.1) (g := (mkF m 4 #[vr a] [(.ref b)])) rfl rfl (D d31_4) _ k) ?_
  rw [len_of aS2 aM2]
  by_cases hz : (Int32.ofNat nz) = (0 : Int32)
  · refine gb T1 m 22 #[vr a] [(.int 0)] (fun u k => XS.ifNo X1.here hx rfl (D d31_5) rfl (XT.i0_ne_f hz) (XT.iconstV X1.here hx rfl (0 : Int32) (D d31_8) (by decide) (XS.goto X1.here hx rfl (pc0 := 9) (pc' := 22) rfl (D d31_9) (by decide) (by decide) k))) ?_
    obtain ⟨fs, hr, hrun, hended, hW, hsame⟩ := X1.leave (v := some (.int 0)) (fun h => by rw [Bd.returns] at h; cases h)
    refine ⟨_, _, retI X1 hx Bd.returns (D d31_22) hr, hrun, hended, _, _, rfl, ?_, ⟨_, rfl⟩, hW, hsame.mono (by decide) (by decide)⟩
    show Q_own_per Z a b r nz cf kq kr h0 n0 _ T1.heap _
    rw [e1]
    exact ⟨(congrArg (fun z => some (Value.int z)) (own_pd_z (own_is0 hz (by omega)))), N0, rfl⟩
  · refine gb T1 m 12 #[vr a] [] (fun u k => XS.ifYes X1.here hx rfl (pc0 := 5) (pc' := 12) rfl (D d31_5) rfl (XT.i0_ne_t hz) (by decide) (by decide) k) ?_
    have hn1 := own_pos hz
    refine gb T1 m 13 #[vr a] [(.ref a)] (fun u k => XS.aloadN X1.here hx rfl (D d31_12) rfl rfl k) ?_
    obtain ⟨T4, X4, e4, st4⟩ := getF X1 hx hZ hown (host := "") (Or.inl (H 75 rfl)) Via.refl e1 F_a_units (g := (mkF m 13 #[vr a] [(.ref a)])) rfl rfl (D d31_13)
    refine gb T4 m 16 #[vr a] [(.ref b)] st4 ?_
    clear st4
    obtain ⟨cl5, Ar5, aq5, aS5, aM5, aH5, aG5⟩ := id V_b
    refine gb T4 m 17 #[vr a] [(.int cl5.slots.size.toInt32)] (fun u k => X4.arraylength hx (by rw [e4]; exact Ar5.1) (State.isArrayOf_alike hZ.alike Ar5.2.1) (g := (mkF m 16 #[vr a] [(.ref b)])) rfl rfl (D d31_16) _ k) ?_
    rw [len_of aS5 aM5]
    refine gb T4 m 18 #[vr a] [(.ref a), (.int (Int32.ofNat nz))] (fun u k => XS.aloadN X4.here hx rfl (D d31_17) rfl rfl k) ?_
    obtain ⟨cq7, kq7, qa7, qb7, qc7⟩ := isOf hZ e4 E_a
    obtain ⟨_, _, ⟨T6, L6, k6, n6⟩, -, X6, ⟨Lc6, hQ6, l6, y6, z6⟩, st6⟩ := X4.virtualBack hx (y := mn42) (z := mn42) hown (mvT hZ (H 194 rfl)) (mvT hZ (H 195 rfl)) (notFace_of_selects (args := #[]) (mvT hZ (H 197 rfl))) (mvT hZ (H 197 rfl)) (mvT hZ (H 196 rfl)) (by decide) (backOf (W := 1) (own_lb l Z a0 hw [] a b r nz cf kq kr h0 n0 Z0 E_a F_a_units F_a_borders V_b V_r hnz hn1) hZ (H 198 rfl) (H 41 rfl) (by decide) (by decide)) qa7 qc7 (g := (mkF m 18 #[vr a] [(.ref a), (.int (Int32.ofNat nz))])) rfl (by rw [hml]; rfl) (Steps.refl _) (argsL := []) (rest := [(.int (Int32.ofNat nz))]) (lenOf own_pd21 rfl) rfl (own_w0 rfl) (D d31_18) (fun _ _ => ⟨rfl, e4, (by decide : 0 + 0 ≤ _), (by decide : 0 + 0 ≤ _)⟩)
    dsimp only [Pt.U, Pt.locs, Pt.cells, Pt.slots] at X6 l6 y6 z6 st6 hQ6
    subst l6 y6 z6
    obtain ⟨rfl, N6, e6⟩ := hQ6
    have NA6 := Fr.app N0 N6
    refine gb T6 m 21 #[vr a] [(.int (own_bf cf (nz - 1) (nz - 1))), (.int (Int32.ofNat nz))] (fun u k => st6.trans k) ?_
    clear st6
    refine gb T6 m 22 #[vr a] [(.int ((Int32.ofNat nz) - (own_bf cf (nz - 1) (nz - 1))))] (fun u k => XS.isub X6.here hx rfl (D d31_21) rfl k) ?_
    obtain ⟨fs, hr, hrun, hended, hW, hsame⟩ := X6.leave (v := some (.int ((Int32.ofNat nz) - (own_bf cf (nz - 1) (nz - 1))))) (fun h => by rw [Bd.returns] at h; cases h)
    refine ⟨_, _, retI X6 hx Bd.returns (D d31_22) hr, hrun, hended, _, _, rfl, ?_, ⟨_, rfl⟩, hW, hsame.mono (by decide) (by decide)⟩
    show Q_own_per Z a b r nz cf kq kr h0 n0 _ T6.heap _
    rw [e6]
    exact ⟨(congrArg (fun z => some (Value.int z)) (own_pd_s hn1)), NA6, rfl⟩
theorem d26_0 : dc cd26 0 (.iload_n 1) 1 := by decide +kernel
theorem d26_1 : dc cd26 1 (.aload_n 0) 1 := by decide +kernel
theorem d26_2 : dc cd26 2 (.getfield 13) 3 := by decide +kernel
theorem d26_5 : dc cd26 5 (.if_icmp .eq 25) 3 := by decide +kernel
theorem d26_30 : dc cd26 30 .return_ 1 := by decide +kernel
theorem own_ef_own_rk (m : MethodId) (x0 : Addr) : entryFrame m #[(.ref x0), (.int 0)] 2 = mkF m 0 #[.val (.ref x0), .val (.int 0)] [] := by first | (simp [entryFrame, mkF, argsToLocals, Value.category]; done) | rfl
def Q_own_rk (Z : State) (a : Addr) (h0 : Heap) (n0 : Nat) (v : Option Value) (h : Heap) (L : List Loc) : Prop := v = none ∧ Fr n0 L ∧ h = h0
theorem own_rk (l : Launch) (Z : State) (a0 : Array Value) (hw : ∀ d ∈ tables_1, d.before a0 Z = true) (ws : List Jvm.Cond) (a : Addr) (h0 : Heap) (n0 : Nat) (Z0 : n0 ≤ h0.size) (F_a_ofBytes : Fld Z h0 a "backstitch/Needle" "ofBytes" "Z" (.int 0)) :
    own_Met l Z mn44 prog_8_method_22_code 2 none ws rm0 #[(.ref a), (.int 0)] h0 (Q_own_rk Z a h0 n0) := by
  refine own_start (plainFor_of_name own_pn4) fun p e s m below meth c s₁ Bd hx hby hml hZ hown hnm X0 e0 => ?_
  have H := @own_hw Z a0 hw
  have D := @hb _ _ hby
  have hown : s.vm.findClass "backstitch/Needle" = some m.cls := hown
  have N0 := Fr.nil n0
  have K0 := Keep.refl h0 []
  rw [own_ef_own_rk m a]
  refine gb s₁ m 2 #[vr a, vi 0] [(.ref a), (.int 0)] (fun u k => XS.iloadN X0.here hx rfl (D d26_0) rfl (XS.aloadN X0.here hx rfl (D d26_1) rfl rfl k)) ?_
  obtain ⟨T1, X1, e1, st1⟩ := getF X0 hx hZ hown (host := "") (Or.inl (H 77 rfl)) Via.refl e0 F_a_ofBytes (g := (mkF m 2 #[vr a, vi 0] [(.ref a), (.int 0)])) rfl rfl (D d26_2)
  refine gb T1 m 5 #[vr a, vi 0] [(.int 0), (.int 0)] st1 ?_
  clear st1
  refine gb T1 m 30 #[vr a, vi 0] [] (fun u k => XS.icmpYes X1.here hx rfl (pc0 := 5) (pc' := 30) rfl (D d26_5) rfl (XT.ii_eq_t (by decide)) (by decide) (by decide) k) ?_
  obtain ⟨fs, hr, hrun, hended, hW, hsame⟩ := X1.leave (v := none) (fun _ => rfl)
  refine ⟨_, _, X1.returnOut hx Bd.returns (D d26_30) hr, hrun, hended, _, _, rfl, ?_, ⟨_, rfl⟩, hW, hsame.mono (by decide) (by decide)⟩
  show Q_own_rk Z a h0 n0 _ T1.heap _
  rw [e1]
  exact ⟨rfl, N0, rfl⟩
theorem own_pd29 : parseMethodDescriptor "(I)C" = some ⟨[.int], some .char⟩ := by decide +kernel
theorem own_pd30 : parseMethodDescriptor "([C)V" = some ⟨[(.array .char)], none⟩ := by decide +kernel
theorem own_pd31 : parseMethodDescriptor "(Ljava/lang/CharSequence;)Lbackstitch/Needle;" = some ⟨[(.object "java/lang/CharSequence")], some (.object "backstitch/Needle")⟩ := by decide +kernel
theorem own_pd32 : parseMethodDescriptor "(Z)V" = some ⟨[.boolean], none⟩ := by decide +kernel
theorem own_pd33 : parseMethodDescriptor "()[I" = some ⟨[], some (.array .int)⟩ := by decide +kernel
theorem own_pd34 : parseMethodDescriptor "([CI)I" = some ⟨[(.array .char), .int], some .int⟩ := by decide +kernel
theorem own_pd35 : parseMethodDescriptor "(ICCCCC)[C" = some ⟨[.int, .char, .char, .char, .char, .char], some (.array .char)⟩ := by decide +kernel
theorem own_ef_own_law0 (m : MethodId) (x0 : Int32) (x1 : Int32) (x2 : Int32) (x3 : Int32) (x4 : Int32) (x5 : Int32) : entryFrame m #[(.int x0), (.int x1), (.int x2), (.int x3), (.int x4), (.int x5)] maxLocals = mkF m 0 #[.val (.int x0), .val (.int x1), .val (.int x2), .val (.int x3), .val (.int x4), .val (.int x5), .unset, .unset, .unset, .unset, .unset, .unset] [] := by first | (simp [entryFrame, mkF, argsToLocals, Value.category, maxLocals]; done) | rfl
def Q_own_law0 (Z : State) (p0 : Int32) (p1 : Int32) (p2 : Int32) (p3 : Int32) (p4 : Int32) (p5 : Int32) (gC : Int32) (fm : Value) (rA : Addr) (kA : ClassId) (ra : List Value) (h0 : Heap) (n0 : Nat) (v : Option Value) (h : Heap) (L : List Loc) : Prop := v = some (.int 1) ∧ Fr n0 L ∧ Keep h0 h []
theorem own_law0 (l : Launch) (Z : State) (a0 : Array Value) (hw : ∀ d ∈ tables_1, d.before a0 Z = true) (ws : List Jvm.Cond) (p0 : Int32) (p1 : Int32) (p2 : Int32) (p3 : Int32) (p4 : Int32) (p5 : Int32) (gC : Int32) (fm : Value) (rA : Addr) (kA : ClassId) (ra : List Value) (h0 : Heap) (n0 : Nat) (Z0 : n0 ≤ h0.size) (Old0 : Old Z n0 h0) (SCS : Sta Z Z.heap "java/lang/String" "COMPACT_STRINGS" "Z" (.int gC)) (P5 : ¬ gC = 0) (SFM : Sta Z Z.heap "jdk/internal/util/Preconditions" "SIOOBE_FORMATTER" "Ljava/util/function/BiFunction;" fm) (r_fm : fm.isRef = true) (Sa : Sta Z Z.heap "java/lang/StringUTF16" "$assertionsDisabled" "Z" (.int 1)) (SHI : Sta Z Z.heap "java/lang/StringUTF16" "HI_BYTE_SHIFT" "I" (.int 0)) (SLO : Sta Z Z.heap "java/lang/StringUTF16" "LO_BYTE_SHIFT" "I" (.int 8)) (SRA : Sta Z Z.heap "backstitch/Needle" "ASCII_RARITY" "[B" (.ref rA)) (SUN : Sta Z Z.heap "backstitch/Needle" "UNORDINARY" "I" (.int 28)) (V_rA : Arv Z h0 rA kA .byte (128 : Int32) ra (.int 0)) (hRA : own_RA ra) :
    MetFree l x (head1 (Jvm.Cond.code x code maxLocals ret :: ws) room_1) (fun as_ U => as_ = #[(.int p0), (.int p1), (.int p2), (.int p3), (.int p4), (.int p5)] ∧ Z.Warmed39 U.vm ∧ U.heap = h0 ∧ CHv Z own_EL U.vm h0) (fun _ _ _ _ _ => True) (fun _ U o U' => ∃ v L, o = .returned v ∧ Q_own_law0 Z p0 p1 p2 p3 p4 p5 gC fm rA kA ra h0 n0 v U'.heap L ∧ ReturnedEndW U o U' L 48 3328) := by
  refine MetFree.of_bodySF (plainFor_of_name own_pn8) hisR ?_
  intro p e s m args below meth c s₁ Bd hml0 hP hK
  obtain ⟨rfl, hZ, hh, hCH⟩ := hP
  have R0 := CHr.refl hCH
  have hEL : EW Z a0 own_EL := own_hEL hw
  have hx := Bd.exec
  have hby := Bd.bytes
  have H := @own_hw Z a0 hw
  have D := @hb _ _ hby
  have hml : c.maxLocals = 12 := hml0
  have hown : s.vm.findClass "backstitch/NeedleOfPinLaw" = some m.cls := findClass_of_methodNamed Bd.named
  have hnm := (name_of_methodNamed Bd.named Bd.method).1
  have X0 : Stand p l e room_1 s m #[(.int p0), (.int p1), (.int p2), (.int p3), (.int p4), (.int p5)] below meth c s₁ [] 0 0 := Stand.of_body Bd
  have e0 : s₁.heap = h0 := by rw [← hh, Bd.state]; rfl
  have N0 := Fr.nil n0
  have K0 := Keep.refl h0 []
  have hS0 : s.Since s.vm s.heap.size := (State.WarmedH.refl s).since _
  have hk0 : s.heap.size ≤ h0.size := by rw [hh]; exact Nat.le_refl _
  show Go p e below (own_FW s below (Q_own_law0 Z p0 p1 p2 p3 p4 p5 gC fm rA kA ra h0 n0) 48 3328) (s₁.setTop (entryFrame m #[(.int p0), (.int p1), (.int p2), (.int p3), (.int p4), (.int p5)] maxLocals))
  rw [own_ef_own_law0 m p0 p1 p2 p3 p4 p5]
  refine gb s₁ m 13 #[vi p0, vi p1, vi p2, vi p3, vi p4, vi p5, vi ((p5 &&& (2147483647 : Int32)) % (6 : Int32)), un, un, un, un, un] [(.int p0), (.int ((p5 &&& (2147483647 : Int32)) % (6 : Int32)))] (fun u k => XS.iload X0.here hx rfl (D at_0) rfl (X0.ldcI hx hown (mvT hZ (H 0 rfl)) rfl (D at_2) (XS.iand X0.here hx rfl (D at_4) rfl (XT.bipushV X0.here hx rfl (6 : Int32) (D at_5) (by decide) (iremM X0 hx rfl (D at_7) rfl (by decide) (XS.istore X0.here hx rfl (D at_8) rfl (l' := #[vi p0, vi p1, vi p2, vi p3, vi p4, vi p5, vi ((p5 &&& (2147483647 : Int32)) % (6 : Int32)), un, un, un, un, un]) rfl (XS.iload X0.here hx rfl (D at_10) rfl (XS.iloadN X0.here hx rfl (D at_12) rfl k)))))))) ?_
  obtain ⟨_, _, ⟨T1, L1, k1, n1⟩, -, X1, ⟨Lc1, hQ1, l1, y1, z1⟩, st1⟩ := Jvm.LawKit.callS X0 hx (y := mn36) hown (mvT hZ (H 1 rfl)) (mvT hZ (H 2 rfl)) (mvT hZ (H 3 rfl)) (mvT hZ (H 4 rfl)) (by decide) (backOf (W := 1) (own_unitF l Z a0 hw [] p0 h0 n0 Z0 ) hZ (H 4 rfl) (H 3 rfl) (by decide) (by decide)) (g := (mkF m 13 #[vi p0, vi p1, vi p2, vi p3, vi p4, vi p5, vi ((p5 &&& (2147483647 : Int32)) % (6 : Int32)), un, un, un, un, un] [(.int p0), (.int ((p5 &&& (2147483647 : Int32)) % (6 : Int32)))])) rfl (by rw [hml]; rfl) (argsL := [(.int p0)]) (rest := [(.int ((p5 &&& (2147483647 : Int32)) % (6 : Int32)))]) (lenOf own_pd29 rfl) rfl (own_w0 rfl) (D at_13) (fun _ _ => ⟨rfl, e0, (by decide : 0 + 0 ≤ _), (by decide : 0 + 0 ≤ _)⟩)
  dsimp only [Pt.U, Pt.locs, Pt.cells, Pt.slots] at X1 l1 y1 z1 st1 hQ1
  subst l1 y1 z1
  obtain ⟨rv1, rfl, N1, e1, P1_0⟩ := hQ1
  have NA1 := Fr.app N0 N1
  refine gb T1 m 16 #[vi p0, vi p1, vi p2, vi p3, vi p4, vi p5, vi ((p5 &&& (2147483647 : Int32)) % (6 : Int32)), un, un, un, un, un] [(.int rv1), (.int ((p5 &&& (2147483647 : Int32)) % (6 : Int32)))] st1 ?_
  clear st1
  refine gb T1 m 17 #[vi p0, vi p1, vi p2, vi p3, vi p4, vi p5, vi ((p5 &&& (2147483647 : Int32)) % (6 : Int32)), un, un, un, un, un] [(.int p1), (.int rv1), (.int ((p5 &&& (2147483647 : Int32)) % (6 : Int32)))] (fun u k => XS.iloadN X1.here hx rfl (D at_16) rfl k) ?_
  obtain ⟨_, _, ⟨T2, L2, k2, n2⟩, -, X2, ⟨Lc2, hQ2, l2, y2, z2⟩, st2⟩ := Jvm.LawKit.callS X1 hx (y := mn36) hown (mvT hZ (H 1 rfl)) (mvT hZ (H 2 rfl)) (mvT hZ (H 3 rfl)) (mvT hZ (H 4 rfl)) (by decide) (backOf (W := 2) (own_unitF l Z a0 hw [] p1 h0 n0 Z0 ) hZ (H 4 rfl) (H 3 rfl) (by decide) (by decide)) (g := (mkF m 17 #[vi p0, vi p1, vi p2, vi p3, vi p4, vi p5, vi ((p5 &&& (2147483647 : Int32)) % (6 : Int32)), un, un, un, un, un] [(.int p1), (.int rv1), (.int ((p5 &&& (2147483647 : Int32)) % (6 : Int32)))])) rfl (by rw [hml]; rfl) (argsL := [(.int p1)]) (rest := [(.int rv1), (.int ((p5 &&& (2147483647 : Int32)) % (6 : Int32)))]) (lenOf own_pd29 rfl) rfl (own_w0 rfl) (D at_17) (fun _ _ => ⟨rfl, e1, (by decide : 0 + 0 ≤ _), (by decide : 0 + 0 ≤ _)⟩)
  dsimp only [Pt.U, Pt.locs, Pt.cells, Pt.slots] at X2 l2 y2 z2 st2 hQ2
  subst l2 y2 z2
  obtain ⟨rv2, rfl, N2, e2, P2_0⟩ := hQ2
  have NA2 := Fr.app NA1 N2
  refine gb T2 m 20 #[vi p0, vi p1, vi p2, vi p3, vi p4, vi p5, vi ((p5 &&& (2147483647 : Int32)) % (6 : Int32)), un, un, un, un, un] [(.int rv2), (.int rv1), (.int ((p5 &&& (2147483647 : Int32)) % (6 : Int32)))] st2 ?_
  clear st2
  refine gb T2 m 21 #[vi p0, vi p1, vi p2, vi p3, vi p4, vi p5, vi ((p5 &&& (2147483647 : Int32)) % (6 : Int32)), un, un, un, un, un] [(.int p2), (.int rv2), (.int rv1), (.int ((p5 &&& (2147483647 : Int32)) % (6 : Int32)))] (fun u k => XS.iloadN X2.here hx rfl (D at_20) rfl k) ?_
  obtain ⟨_, _, ⟨T3, L3, k3, n3⟩, -, X3, ⟨Lc3, hQ3, l3, y3, z3⟩, st3⟩ := Jvm.LawKit.callS X2 hx (y := mn36) hown (mvT hZ (H 1 rfl)) (mvT hZ (H 2 rfl)) (mvT hZ (H 3 rfl)) (mvT hZ (H 4 rfl)) (by decide) (backOf (W := 3) (own_unitF l Z a0 hw [] p2 h0 n0 Z0 ) hZ (H 4 rfl) (H 3 rfl) (by decide) (by decide)) (g := (mkF m 21 #[vi p0, vi p1, vi p2, vi p3, vi p4, vi p5, vi ((p5 &&& (2147483647 : Int32)) % (6 : Int32)), un, un, un, un, un] [(.int p2), (.int rv2), (.int rv1), (.int ((p5 &&& (2147483647 : Int32)) % (6 : Int32)))])) rfl (by rw [hml]; rfl) (argsL := [(.int p2)]) (rest := [(.int rv2), (.int rv1), (.int ((p5 &&& (2147483647 : Int32)) % (6 : Int32)))]) (lenOf own_pd29 rfl) rfl (own_w0 rfl) (D at_21) (fun _ _ => ⟨rfl, e2, (by decide : 0 + 0 ≤ _), (by decide : 0 + 0 ≤ _)⟩)
  dsimp only [Pt.U, Pt.locs, Pt.cells, Pt.slots] at X3 l3 y3 z3 st3 hQ3
  subst l3 y3 z3
  obtain ⟨rv3, rfl, N3, e3, P3_0⟩ := hQ3
  have NA3 := Fr.app NA2 N3
  refine gb T3 m 24 #[vi p0, vi p1, vi p2, vi p3, vi p4, vi p5, vi ((p5 &&& (2147483647 : Int32)) % (6 : Int32)), un, un, un, un, un] [(.int rv3), (.int rv2), (.int rv1), (.int ((p5 &&& (2147483647 : Int32)) % (6 : Int32)))] st3 ?_
  clear st3
  refine gb T3 m 25 #[vi p0, vi p1, vi p2, vi p3, vi p4, vi p5, vi ((p5 &&& (2147483647 : Int32)) % (6 : Int32)), un, un, un, un, un] [(.int p3), (.int rv3), (.int rv2), (.int rv1), (.int ((p5 &&& (2147483647 : Int32)) % (6 : Int32)))] (fun u k => XS.iloadN X3.here hx rfl (D at_24) rfl k) ?_
  obtain ⟨_, _, ⟨T4, L4, k4, n4⟩, -, X4, ⟨Lc4, hQ4, l4, y4, z4⟩, st4⟩ := Jvm.LawKit.callS X3 hx (y := mn36) hown (mvT hZ (H 1 rfl)) (mvT hZ (H 2 rfl)) (mvT hZ (H 3 rfl)) (mvT hZ (H 4 rfl)) (by decide) (backOf (W := 4) (own_unitF l Z a0 hw [] p3 h0 n0 Z0 ) hZ (H 4 rfl) (H 3 rfl) (by decide) (by decide)) (g := (mkF m 25 #[vi p0, vi p1, vi p2, vi p3, vi p4, vi p5, vi ((p5 &&& (2147483647 : Int32)) % (6 : Int32)), un, un, un, un, un] [(.int p3), (.int rv3), (.int rv2), (.int rv1), (.int ((p5 &&& (2147483647 : Int32)) % (6 : Int32)))])) rfl (by rw [hml]; rfl) (argsL := [(.int p3)]) (rest := [(.int rv3), (.int rv2), (.int rv1), (.int ((p5 &&& (2147483647 : Int32)) % (6 : Int32)))]) (lenOf own_pd29 rfl) rfl (own_w0 rfl) (D at_25) (fun _ _ => ⟨rfl, e3, (by decide : 0 + 0 ≤ _), (by decide : 0 + 0 ≤ _)⟩)
  dsimp only [Pt.U, Pt.locs, Pt.cells, Pt.slots] at X4 l4 y4 z4 st4 hQ4
  subst l4 y4 z4
  obtain ⟨rv4, rfl, N4, e4, P4_0⟩ := hQ4
  have NA4 := Fr.app NA3 N4
  refine gb T4 m 28 #[vi p0, vi p1, vi p2, vi p3, vi p4, vi p5, vi ((p5 &&& (2147483647 : Int32)) % (6 : Int32)), un, un, un, un, un] [(.int rv4), (.int rv3), (.int rv2), (.int rv1), (.int ((p5 &&& (2147483647 : Int32)) % (6 : Int32)))] st4 ?_
  clear st4
  refine gb T4 m 30 #[vi p0, vi p1, vi p2, vi p3, vi p4, vi p5, vi ((p5 &&& (2147483647 : Int32)) % (6 : Int32)), un, un, un, un, un] [(.int p4), (.int rv4), (.int rv3), (.int rv2), (.int rv1), (.int ((p5 &&& (2147483647 : Int32)) % (6 : Int32)))] (fun u k => XS.iload X4.here hx rfl (D at_28) rfl k) ?_
  obtain ⟨_, _, ⟨T5, L5, k5, n5⟩, -, X5, ⟨Lc5, hQ5, l5, y5, z5⟩, st5⟩ := Jvm.LawKit.callS X4 hx (y := mn36) hown (mvT hZ (H 1 rfl)) (mvT hZ (H 2 rfl)) (mvT hZ (H 3 rfl)) (mvT hZ (H 4 rfl)) (by decide) (backOf (W := 5) (own_unitF l Z a0 hw [] p4 h0 n0 Z0 ) hZ (H 4 rfl) (H 3 rfl) (by decide) (by decide)) (g := (mkF m 30 #[vi p0, vi p1, vi p2, vi p3, vi p4, vi p5, vi ((p5 &&& (2147483647 : Int32)) % (6 : Int32)), un, un, un, un, un] [(.int p4), (.int rv4), (.int rv3), (.int rv2), (.int rv1), (.int ((p5 &&& (2147483647 : Int32)) % (6 : Int32)))])) rfl (by rw [hml]; rfl) (argsL := [(.int p4)]) (rest := [(.int rv4), (.int rv3), (.int rv2), (.int rv1), (.int ((p5 &&& (2147483647 : Int32)) % (6 : Int32)))]) (lenOf own_pd29 rfl) rfl (own_w0 rfl) (D at_30) (fun _ _ => ⟨rfl, e4, (by decide : 0 + 0 ≤ _), (by decide : 0 + 0 ≤ _)⟩)
  dsimp only [Pt.U, Pt.locs, Pt.cells, Pt.slots] at X5 l5 y5 z5 st5 hQ5
  subst l5 y5 z5
  obtain ⟨rv5, rfl, N5, e5, P5_0⟩ := hQ5
  have NA5 := Fr.app NA4 N5
  refine gb T5 m 33 #[vi p0, vi p1, vi p2, vi p3, vi p4, vi p5, vi ((p5 &&& (2147483647 : Int32)) % (6 : Int32)), un, un, un, un, un] [(.int rv5), (.int rv4), (.int rv3), (.int rv2), (.int rv1), (.int ((p5 &&& (2147483647 : Int32)) % (6 : Int32)))] st5 ?_
  clear st5
  have join : ∀ (nz : Nat) (cf : Nat → Int32) (uu : Addr) (ku : ClassId) (T9 : State) (L9 : List Loc), (0 < nz) → (nz < 6) → (∀ j, own_ch (cf j)) → (n0 ≤ uu) → (h0.size ≤ uu) → (rA ≠ uu) → (Stand p l e room_1 s m #[(.int p0), (.int p1), (.int p2), (.int p3), (.int p4), (.int p5)] below meth c T9 L9 1 5) → (Fr n0 L9) → (n0 ≤ T9.heap.size) → (Keep h0 T9.heap []) → (Old Z n0 T9.heap) → (s.heap.size ≤ T9.heap.size) → (Arv Z T9.heap rA kA .byte (128 : Int32) ra (.int 0)) → (Arv Z T9.heap uu ku .char (Int32.ofNat nz) (own_l nz cf) (.int 0)) → Go p e below (own_FW s below (Q_own_law0 Z p0 p1 p2 p3 p4 p5 gC fm rA kA ra h0 n0) 48 3328) (T9.setTop (mkF m 36 #[vi p0, vi p1, vi p2, vi p3, vi p4, vi p5, vi (Int32.ofNat nz), un, un, un, un, un] [(.ref uu)])) := by
    intro nz cf uu ku T9 L9 hn1 hnz hCF gu su ne_rA_uu X9 N9 Z9 K9 O9 hk9 G9_0 G9_1
    refine gb T9 m 38 #[vi p0, vi p1, vi p2, vi p3, vi p4, vi p5, vi (Int32.ofNat nz), vr uu, un, un, un, un] [] (fun u k => XS.astore X9.here hx rfl (D at_36) rfl rfl (l' := #[vi p0, vi p1, vi p2, vi p3, vi p4, vi p5, vi (Int32.ofNat nz), vr uu, un, un, un, un]) rfl k) ?_
    obtain ⟨T6, h6, X6, e6, E6, A6, D6, -, st6⟩ := newO X9 hx hZ hown (H 10 rfl) (H 11 rfl) (H 12 rfl) rfl (g := (mkF m 38 #[vi p0, vi p1, vi p2, vi p3, vi p4, vi p5, vi (Int32.ofNat nz), vr uu, un, un, un, un] [])) rfl (D at_38) (by decide) (by decide)
    obtain ⟨b6, g6⟩ : ∃ z, z = T9.heap.size := ⟨_, rfl⟩
    rw [← g6] at A6 D6 st6
    have ne_rA_b6 : rA ≠ b6 := Nat.ne_of_lt (Nat.lt_of_lt_of_le G9_0.lt (Nat.le_of_eq g6.symm))
    have ne_uu_b6 : uu ≠ b6 := Nat.ne_of_lt (Nat.lt_of_lt_of_le G9_1.lt (Nat.le_of_eq g6.symm))
    have gb6 : n0 ≤ b6 := Nat.le_trans Z9 (Nat.le_of_eq g6.symm)
    have sz6 : h0.size ≤ b6 := Nat.le_trans K9.1 (Nat.le_of_eq g6.symm)
    have Z6 : n0 ≤ h6.size := Nat.le_trans Z9 E6.1
    have K6 := K9.ext E6
    have O6 := O9.ext E6
    have hk6 := Nat.le_trans hk9 E6.1
    refine gb T6 m 41 #[vi p0, vi p1, vi p2, vi p3, vi p4, vi p5, vi (Int32.ofNat nz), vr uu, un, un, un, un] [(.ref b6)] st6 ?_
    clear st6
    refine gb T6 m 44 #[vi p0, vi p1, vi p2, vi p3, vi p4, vi p5, vi (Int32.ofNat nz), vr uu, un, un, un, un] [(.ref uu), (.ref b6), (.ref b6)] (fun u k => XS.dup X6.here hx rfl (D at_41) rfl rfl (XS.aload X6.here hx rfl (D at_42) rfl rfl k)) ?_
    have f7 := (G9_1.ext E6)
    obtain ⟨_, _, ⟨T8, L8, k8, n8⟩, -, X8, ⟨Lc8, hQ8, l8, y8, z8⟩, st8⟩ := X6.specialBack hx (y := mn9) rfl hown (mvT hZ (H 13 rfl)) (mvT hZ (H 14 rfl)) (mvT hZ (H 15 rfl)) (by decide) (backOf (W := 1) (own_s1 l Z a0 hw [] b6 uu gC nz cf ku h6 n0 Z6 A6 (D6 (Or.inr (H 38 rfl)) (ty := (.array .byte)) (by decide)) (D6 (Or.inr (H 36 rfl)) (ty := .byte) (by decide)) gb6 (Ne.symm ne_uu_b6) O6 SCS P5 Sa SHI SLO f7 hnz hn1 (fun j _ => hCF j)) hZ (H 15 rfl) (H 12 rfl) (by decide) (by decide)) (g := (mkF m 44 #[vi p0, vi p1, vi p2, vi p3, vi p4, vi p5, vi (Int32.ofNat nz), vr uu, un, un, un, un] [(.ref uu), (.ref b6), (.ref b6)])) rfl (by rw [hml]; rfl) (Steps.refl _) (a := b6) (argsL := [(.ref uu)]) (rest := [(.ref b6)]) (lenOf own_pd30 rfl) rfl (own_w0 rfl) (D at_44) (fun _ _ => ⟨rfl, e6, (by decide : 2 + 2 ≤ _), (by decide : 9 + 15 ≤ _)⟩)
    dsimp only [Pt.U, Pt.locs, Pt.cells, Pt.slots] at X8 l8 y8 z8 st8 hQ8
    subst l8 y8 z8
    obtain ⟨rfl, N8, Kc8, P8_0, P8_1⟩ := hQ8
    have NA8 := Fr.app N9 N8
    have Z8 : n0 ≤ T8.heap.size := Nat.le_trans Z6 Kc8.1
    have hk8 := Nat.le_trans hk6 Kc8.1
    have K8 := K6.trans Kc8 (allS (Or.inr sz6) all0)
    have O8 := O6.keep Kc8 (allS gb6 all0)
    refine gb T8 m 47 #[vi p0, vi p1, vi p2, vi p3, vi p4, vi p5, vi (Int32.ofNat nz), vr uu, un, un, un, un] [(.ref b6)] (fun u k => st8.trans k) ?_
    clear st8
    have f9 := ((G9_0.ext E6).keep Kc8 (ninS ne_rA_b6 nin0))
    obtain ⟨_, _, ⟨T10, L10, k10, n10⟩, -, X10, ⟨Lc10, hQ10, l10, y10, z10⟩, st10⟩ := Jvm.LawKit.callS X8 hx (y := mn34) hown (mvT hZ (H 39 rfl)) (mvT hZ (H 40 rfl)) (mvT hZ (H 41 rfl)) (mvT hZ (H 42 rfl)) (by decide) (backOf (W := 0) (own_ofC l Z a0 hw [] b6 gC fm nz cf rA kA ra T8.heap n0 Z8 P8_0 O8 SCS P5 SFM r_fm Sa SHI SLO SRA SUN f9 hRA P8_1 hnz (fun j _ => hCF j)) hZ (H 42 rfl) (H 41 rfl) (by decide) (by decide)) (g := (mkF m 47 #[vi p0, vi p1, vi p2, vi p3, vi p4, vi p5, vi (Int32.ofNat nz), vr uu, un, un, un, un] [(.ref b6)])) rfl (by rw [hml]; rfl) (argsL := [(.ref b6)]) (rest := []) (lenOf own_pd31 rfl) rfl (own_w0 rfl) (D at_47) (fun _ _ => ⟨rfl, rfl, (by decide : 4 + 14 ≤ _), (by decide : 24 + 1084 ≤ _)⟩)
    dsimp only [Pt.U, Pt.locs, Pt.cells, Pt.slots] at X10 l10 y10 z10 st10 hQ10
    subst l10 y10 z10
    obtain ⟨nd10, bq10, r10, kq10, kr10, rfl, N10, Kc10, gb_nd10, szc_nd10, gb_bq10, szc_bq10, gb_r10, szc_r10, P10_0, P10_1, P10_2, P10_3, P10_4, P10_5, P10_6⟩ := hQ10
    have NA10 := Fr.app NA8 N10
    have Z10 : n0 ≤ T10.heap.size := Nat.le_trans Z8 Kc10.1
    have hk10 := Nat.le_trans hk8 Kc10.1
    have K10 := K8.trans Kc10 all0
    have O10 := O8.keep Kc10 all0
    have sz_nd10 : h0.size ≤ nd10 := Nat.le_trans K8.1 szc_nd10
    have ne_rA_nd10 : rA ≠ nd10 := Nat.ne_of_lt (Nat.lt_of_lt_of_le f9.lt szc_nd10)
    have f11 := (f7.keep Kc8 (ninS ne_uu_b6 nin0))
    have ne_uu_nd10 : uu ≠ nd10 := Nat.ne_of_lt (Nat.lt_of_lt_of_le f11.lt szc_nd10)
    have ne_b6_nd10 : b6 ≠ nd10 := Nat.ne_of_lt (Nat.lt_of_lt_of_le P8_0.lt szc_nd10)
    have sz_bq10 : h0.size ≤ bq10 := Nat.le_trans K8.1 szc_bq10
    have ne_rA_bq10 : rA ≠ bq10 := Nat.ne_of_lt (Nat.lt_of_lt_of_le f9.lt szc_bq10)
    have ne_uu_bq10 : uu ≠ bq10 := Nat.ne_of_lt (Nat.lt_of_lt_of_le f11.lt szc_bq10)
    have ne_b6_bq10 : b6 ≠ bq10 := Nat.ne_of_lt (Nat.lt_of_lt_of_le P8_0.lt szc_bq10)
    have sz_r10 : h0.size ≤ r10 := Nat.le_trans K8.1 szc_r10
    have ne_rA_r10 : rA ≠ r10 := Nat.ne_of_lt (Nat.lt_of_lt_of_le f9.lt szc_r10)
    have ne_uu_r10 : uu ≠ r10 := Nat.ne_of_lt (Nat.lt_of_lt_of_le f11.lt szc_r10)
    have ne_b6_r10 : b6 ≠ r10 := Nat.ne_of_lt (Nat.lt_of_lt_of_le P8_0.lt szc_r10)
    refine gb T10 m 50 #[vi p0, vi p1, vi p2, vi p3, vi p4, vi p5, vi (Int32.ofNat nz), vr uu, un, un, un, un] [(.ref nd10)] st10 ?_
    clear st10
    refine gb T10 m 55 #[vi p0, vi p1, vi p2, vi p3, vi p4, vi p5, vi (Int32.ofNat nz), vr uu, vr nd10, un, un, un] [(.int 0), (.ref nd10)] (fun u k => XS.astore X10.here hx rfl (D at_50) rfl rfl (l' := #[vi p0, vi p1, vi p2, vi p3, vi p4, vi p5, vi (Int32.ofNat nz), vr uu, vr nd10, un, un, un]) rfl (XS.aload X10.here hx rfl (D at_52) rfl rfl (XT.iconstV X10.here hx rfl (0 : Int32) (D at_54) (by decide) k))) ?_
    obtain ⟨cq13, kq13, qa13, qb13, qc13⟩ := isOf hZ rfl P10_0
    obtain ⟨_, _, ⟨T12, L12, k12, n12⟩, -, X12, ⟨Lc12, hQ12, l12, y12, z12⟩, st12⟩ := X10.virtualBack hx (y := mn44) (z := mn44) hown (mvT hZ (H 159 rfl)) (mvT hZ (H 160 rfl)) (notFace_of_selects (args := #[]) (mvT hZ (H 162 rfl))) (mvT hZ (H 162 rfl)) (mvT hZ (H 161 rfl)) (by decide) (backOf (W := 0) (own_rk l Z a0 hw [] nd10 T10.heap n0 Z10 P10_2) hZ (H 163 rfl) (H 41 rfl) (by decide) (by decide)) qa13 qc13 (g := (mkF m 55 #[vi p0, vi p1, vi p2, vi p3, vi p4, vi p5, vi (Int32.ofNat nz), vr uu, vr nd10, un, un, un] [(.int 0), (.ref nd10)])) rfl (by rw [hml]; rfl) (Steps.refl _) (argsL := [(.int 0)]) (rest := []) (lenOf own_pd32 rfl) rfl (own_w0 rfl) (D at_55) (fun _ _ => ⟨rfl, rfl, (by decide : 18 + 0 ≤ _), (by decide : 1108 + 0 ≤ _)⟩)
    dsimp only [Pt.U, Pt.locs, Pt.cells, Pt.slots] at X12 l12 y12 z12 st12 hQ12
    subst l12 y12 z12
    obtain ⟨rfl, N12, e12⟩ := hQ12
    have NA12 := Fr.app NA10 N12
    refine gb T12 m 58 #[vi p0, vi p1, vi p2, vi p3, vi p4, vi p5, vi (Int32.ofNat nz), vr uu, vr nd10, un, un, un] [] (fun u k => st12.trans k) ?_
    clear st12
    refine gb T12 m 60 #[vi p0, vi p1, vi p2, vi p3, vi p4, vi p5, vi (Int32.ofNat nz), vr uu, vr nd10, un, un, un] [(.ref nd10)] (fun u k => XS.aload X12.here hx rfl (D at_58) rfl rfl k) ?_
    obtain ⟨cq15, kq15, qa15, qb15, qc15⟩ := isOf hZ e12 P10_0
    obtain ⟨_, _, ⟨T14, L14, k14, n14⟩, -, X14, ⟨Lc14, hQ14, l14, y14, z14⟩, st14⟩ := X12.virtualBack hx (y := mn40) (z := mn40) hown (mvT hZ (H 164 rfl)) (mvT hZ (H 165 rfl)) (notFace_of_selects (args := #[]) (mvT hZ (H 167 rfl))) (mvT hZ (H 167 rfl)) (mvT hZ (H 166 rfl)) (by decide) (backOf (W := 0) (own_ndlen l Z a0 hw [] nd10 bq10 nz cf kq10 T10.heap n0 Z10 P10_1 P10_6) hZ (H 168 rfl) (H 41 rfl) (by decide) (by decide)) qa15 qc15 (g := (mkF m 60 #[vi p0, vi p1, vi p2, vi p3, vi p4, vi p5, vi (Int32.ofNat nz), vr uu, vr nd10, un, un, un] [(.ref nd10)])) rfl (by rw [hml]; rfl) (Steps.refl _) (argsL := []) (rest := []) (lenOf own_pd21 rfl) rfl (own_w0 rfl) (D at_60) (fun _ _ => ⟨rfl, e12, (by decide : 18 + 0 ≤ _), (by decide : 1108 + 0 ≤ _)⟩)
    dsimp only [Pt.U, Pt.locs, Pt.cells, Pt.slots] at X14 l14 y14 z14 st14 hQ14
    subst l14 y14 z14
    obtain ⟨rfl, N14, e14⟩ := hQ14
    have NA14 := Fr.app NA12 N14
    refine gb T14 m 63 #[vi p0, vi p1, vi p2, vi p3, vi p4, vi p5, vi (Int32.ofNat nz), vr uu, vr nd10, un, un, un] [(.int (Int32.ofNat nz))] (fun u k => st14.trans k) ?_
    clear st14
    refine gb T14 m 72 #[vi p0, vi p1, vi p2, vi p3, vi p4, vi p5, vi (Int32.ofNat nz), vr uu, vr nd10, un, un, un] [(.ref nd10)] (fun u k => XS.iload X14.here hx rfl (D at_63) rfl (XS.icmpYes X14.here hx rfl (pc0 := 65) (pc' := 70) rfl (D at_65) rfl (XT.ii_eq_t rfl) (by decide) (by decide) (XS.aload X14.here hx rfl (D at_70) rfl rfl k))) ?_
    obtain ⟨cq17, kq17, qa17, qb17, qc17⟩ := isOf hZ e14 P10_0
    obtain ⟨_, _, ⟨T16, L16, k16, n16⟩, -, X16, ⟨Lc16, hQ16, l16, y16, z16⟩, st16⟩ := X14.virtualBack hx (y := mn41) (z := mn41) hown (mvT hZ (H 169 rfl)) (mvT hZ (H 170 rfl)) (notFace_of_selects (args := #[]) (mvT hZ (H 172 rfl))) (mvT hZ (H 172 rfl)) (mvT hZ (H 171 rfl)) (by decide) (backOf (W := 0) (own_bors l Z a0 hw [] nd10 r10 nz cf kr10 T10.heap n0 Z10 P10_3 P10_4 P10_5 hnz) hZ (H 173 rfl) (H 41 rfl) (by decide) (by decide)) qa17 qc17 (g := (mkF m 72 #[vi p0, vi p1, vi p2, vi p3, vi p4, vi p5, vi (Int32.ofNat nz), vr uu, vr nd10, un, un, un] [(.ref nd10)])) rfl (by rw [hml]; rfl) (Steps.refl _) (argsL := []) (rest := []) (lenOf own_pd33 rfl) rfl (own_w0 rfl) (D at_72) (fun _ _ => ⟨rfl, e14, (by decide : 18 + 1 ≤ _), (by decide : 1108 + 5 ≤ _)⟩)
    dsimp only [Pt.U, Pt.locs, Pt.cells, Pt.slots] at X16 l16 y16 z16 st16 hQ16
    subst l16 y16 z16
    obtain ⟨q16, kz16, rfl, N16, Kc16, gb_q16, szc_q16, P16_0⟩ := hQ16
    have NA16 := Fr.app NA14 N16
    have Z16 : n0 ≤ T16.heap.size := Nat.le_trans Z10 Kc16.1
    have hk16 := Nat.le_trans hk10 Kc16.1
    have K16 := K10.trans Kc16 all0
    have O16 := O10.keep Kc16 all0
    have sz_q16 : h0.size ≤ q16 := Nat.le_trans K10.1 szc_q16
    have f18 := (f9.keep Kc10 nin0)
    have ne_rA_q16 : rA ≠ q16 := Nat.ne_of_lt (Nat.lt_of_lt_of_le f18.lt szc_q16)
    have f19 := (f11.keep Kc10 nin0)
    have ne_uu_q16 : uu ≠ q16 := Nat.ne_of_lt (Nat.lt_of_lt_of_le f19.lt szc_q16)
    have f20 := (P8_0.keep Kc10)
    have ne_b6_q16 : b6 ≠ q16 := Nat.ne_of_lt (Nat.lt_of_lt_of_le f20.lt szc_q16)
    have ne_nd10_q16 : nd10 ≠ q16 := Nat.ne_of_lt (Nat.lt_of_lt_of_le P10_0.lt szc_q16)
    have ne_bq10_q16 : bq10 ≠ q16 := Nat.ne_of_lt (Nat.lt_of_lt_of_le P10_6.lt szc_q16)
    have ne_r10_q16 : r10 ≠ q16 := Nat.ne_of_lt (Nat.lt_of_lt_of_le P10_4.lt szc_q16)
    refine gb T16 m 75 #[vi p0, vi p1, vi p2, vi p3, vi p4, vi p5, vi (Int32.ofNat nz), vr uu, vr nd10, un, un, un] [(.ref q16)] (fun u k => st16.trans k) ?_
    clear st16
    refine gb T16 m 79 #[vi p0, vi p1, vi p2, vi p3, vi p4, vi p5, vi (Int32.ofNat nz), vr uu, vr nd10, vr q16, un, un] [(.ref q16)] (fun u k => XS.astore X16.here hx rfl (D at_75) rfl rfl (l' := #[vi p0, vi p1, vi p2, vi p3, vi p4, vi p5, vi (Int32.ofNat nz), vr uu, vr nd10, vr q16, un, un]) rfl (XS.aload X16.here hx rfl (D at_77) rfl rfl k)) ?_
    obtain ⟨cl21, Ar21, aq21, aS21, aM21, aH21, aG21⟩ := id P16_0
    refine gb T16 m 80 #[vi p0, vi p1, vi p2, vi p3, vi p4, vi p5, vi (Int32.ofNat nz), vr uu, vr nd10, vr q16, un, un] [(.int cl21.slots.size.toInt32)] (fun u k => X16.arraylength hx Ar21.1 (State.isArrayOf_alike hZ.alike Ar21.2.1) (g := (mkF m 79 #[vi p0, vi p1, vi p2, vi p3, vi p4, vi p5, vi (Int32.ofNat nz), vr uu, vr nd10, vr q16, un, un] [(.ref q16)])) rfl rfl (D at_79) _ k) ?_
    rw [len_of aS21 aM21]
    refine gb T16 m 87 #[vi p0, vi p1, vi p2, vi p3, vi p4, vi p5, vi (Int32.ofNat nz), vr uu, vr nd10, vr q16, un, un] [] (fun u k => XS.iload X16.here hx rfl (D at_80) rfl (XS.icmpYes X16.here hx rfl (pc0 := 82) (pc' := 87) rfl (D at_82) rfl (XT.ii_eq_t rfl) (by decide) (by decide) k)) ?_
    rcases (by omega : nz = 1 ∨ nz = 2 ∨ nz = 3 ∨ nz = 4 ∨ nz = 5) with rfl | rfl | rfl | rfl | rfl
    · show Go p e below (own_FW s below (Q_own_law0 Z p0 p1 p2 p3 p4 p5 gC fm rA kA ra h0 n0) 48 3328) (T16.setTop (mkF m 87 #[vi p0, vi p1, vi p2, vi p3, vi p4, vi p5, vi 1, vr uu, vr nd10, vr q16, un, un] []))
      refine gb T16 m 101 #[vi p0, vi p1, vi p2, vi p3, vi p4, vi p5, vi 1, vr uu, vr nd10, vr q16, vi 1, un] [(.int 0), (.ref q16), (.int 1)] (fun u k => XT.iconstV X16.here hx rfl (1 : Int32) (D at_87) (by decide) (XS.istore X16.here hx rfl (D at_88) rfl (l' := #[vi p0, vi p1, vi p2, vi p3, vi p4, vi p5, vi 1, vr uu, vr nd10, vr q16, vi 1, un]) rfl (XS.iload X16.here hx rfl (D at_90) rfl (XS.iload X16.here hx rfl (D at_92) rfl (XT.iconstV X16.here hx rfl (1 : Int32) (D at_94) (by decide) (XS.icmpNo X16.here hx rfl (D at_95) rfl (XT.ii_lt_f (by decide)) (XS.aload X16.here hx rfl (D at_98) rfl rfl (XT.iconstV X16.here hx rfl (0 : Int32) (D at_100) (by decide) k)))))))) ?_
      obtain ⟨cl22, Ar22, aq22, aS22, aM22, aH22, aG22⟩ := id P16_0
      refine gb T16 m 111 #[vi p0, vi p1, vi p2, vi p3, vi p4, vi p5, vi 1, vr uu, vr nd10, vr q16, vi 1, un] [(.int ((1 : Int32) &&& (1 : Int32)))] (fun u k => X16.iaload hx (j := (0 : Int32)) (v := (.int ((own_bf cf (1 - 1)) 0))) Ar22.1 (State.isArrayOf_alike hZ.alike Ar22.2.1) Ar22.2.2 (inb_of aS22 (own_ib (i := 0) (by omega) (by omega))) (Has.at aH22 (inb_of aS22 (own_ib (i := 0) (by omega) (by omega))) (own_l_at (j := 0) _ (by omega))) (g := (mkF m 101 #[vi p0, vi p1, vi p2, vi p3, vi p4, vi p5, vi 1, vr uu, vr nd10, vr q16, vi 1, un] [(.int 0), (.ref q16), (.int 1)])) rfl rfl (D at_101) _ (XS.ifNo X16.here hx rfl (D at_102) rfl (XT.i0_ne_f (own_kb0 _ _)) (XT.iconstV X16.here hx rfl (1 : Int32) (D at_105) (by decide) (XS.goto X16.here hx rfl (pc0 := 106) (pc' := 110) rfl (D at_106) (by decide) (by decide) (XS.iand X16.here hx rfl (D at_110) rfl k))))) ?_
      have rw23 : ((1 : Int32) &&& (1 : Int32)) = (1 : Int32) := by decide
      rw [rw23]
      refine gb T16 m 140 #[vi p0, vi p1, vi p2, vi p3, vi p4, vi p5, vi 1, vr uu, vr nd10, vr q16, vi 1, un] [(.int ((1 : Int32) &&& (1 : Int32)))] (fun u k => XS.istore X16.here hx rfl (D at_111) rfl (l' := #[vi p0, vi p1, vi p2, vi p3, vi p4, vi p5, vi 1, vr uu, vr nd10, vr q16, vi 1, un]) rfl (XS.iload X16.here hx rfl (D at_113) rfl (XS.iload X16.here hx rfl (D at_115) rfl (XT.iconstV X16.here hx rfl (2 : Int32) (D at_117) (by decide) (XS.icmpYes X16.here hx rfl (pc0 := 118) (pc' := 134) rfl (D at_118) rfl (XT.ii_lt_t (by decide)) (by decide) (by decide) (XT.iconstV X16.here hx rfl (1 : Int32) (D at_134) (by decide) (XS.goto X16.here hx rfl (pc0 := 135) (pc' := 139) rfl (D at_135) (by decide) (by decide) (XS.iand X16.here hx rfl (D at_139) rfl k)))))))) ?_
      have rw24 : ((1 : Int32) &&& (1 : Int32)) = (1 : Int32) := by decide
      rw [rw24]
      refine gb T16 m 169 #[vi p0, vi p1, vi p2, vi p3, vi p4, vi p5, vi 1, vr uu, vr nd10, vr q16, vi 1, un] [(.int ((1 : Int32) &&& (1 : Int32)))] (fun u k => XS.istore X16.here hx rfl (D at_140) rfl (l' := #[vi p0, vi p1, vi p2, vi p3, vi p4, vi p5, vi 1, vr uu, vr nd10, vr q16, vi 1, un]) rfl (XS.iload X16.here hx rfl (D at_142) rfl (XS.iload X16.here hx rfl (D at_144) rfl (XT.iconstV X16.here hx rfl (3 : Int32) (D at_146) (by decide) (XS.icmpYes X16.here hx rfl (pc0 := 147) (pc' := 163) rfl (D at_147) rfl (XT.ii_lt_t (by decide)) (by decide) (by decide) (XT.iconstV X16.here hx rfl (1 : Int32) (D at_163) (by decide) (XS.goto X16.here hx rfl (pc0 := 164) (pc' := 168) rfl (D at_164) (by decide) (by decide) (XS.iand X16.here hx rfl (D at_168) rfl k)))))))) ?_
      have rw25 : ((1 : Int32) &&& (1 : Int32)) = (1 : Int32) := by decide
      rw [rw25]
      refine gb T16 m 198 #[vi p0, vi p1, vi p2, vi p3, vi p4, vi p5, vi 1, vr uu, vr nd10, vr q16, vi 1, un] [(.int ((1 : Int32) &&& (1 : Int32)))] (fun u k => XS.istore X16.here hx rfl (D at_169) rfl (l' := #[vi p0, vi p1, vi p2, vi p3, vi p4, vi p5, vi 1, vr uu, vr nd10, vr q16, vi 1, un]) rfl (XS.iload X16.here hx rfl (D at_171) rfl (XS.iload X16.here hx rfl (D at_173) rfl (XT.iconstV X16.here hx rfl (4 : Int32) (D at_175) (by decide) (XS.icmpYes X16.here hx rfl (pc0 := 176) (pc' := 192) rfl (D at_176) rfl (XT.ii_lt_t (by decide)) (by decide) (by decide) (XT.iconstV X16.here hx rfl (1 : Int32) (D at_192) (by decide) (XS.goto X16.here hx rfl (pc0 := 193) (pc' := 197) rfl (D at_193) (by decide) (by decide) (XS.iand X16.here hx rfl (D at_197) rfl k)))))))) ?_
      have rw26 : ((1 : Int32) &&& (1 : Int32)) = (1 : Int32) := by decide
      rw [rw26]
      refine gb T16 m 227 #[vi p0, vi p1, vi p2, vi p3, vi p4, vi p5, vi 1, vr uu, vr nd10, vr q16, vi 1, un] [(.int ((1 : Int32) &&& (1 : Int32)))] (fun u k => XS.istore X16.here hx rfl (D at_198) rfl (l' := #[vi p0, vi p1, vi p2, vi p3, vi p4, vi p5, vi 1, vr uu, vr nd10, vr q16, vi 1, un]) rfl (XS.iload X16.here hx rfl (D at_200) rfl (XS.iload X16.here hx rfl (D at_202) rfl (XT.iconstV X16.here hx rfl (5 : Int32) (D at_204) (by decide) (XS.icmpYes X16.here hx rfl (pc0 := 205) (pc' := 221) rfl (D at_205) rfl (XT.ii_lt_t (by decide)) (by decide) (by decide) (XT.iconstV X16.here hx rfl (1 : Int32) (D at_221) (by decide) (XS.goto X16.here hx rfl (pc0 := 222) (pc' := 226) rfl (D at_222) (by decide) (by decide) (XS.iand X16.here hx rfl (D at_226) rfl k)))))))) ?_
      have rw27 : ((1 : Int32) &&& (1 : Int32)) = (1 : Int32) := by decide
      rw [rw27]
      refine gb T16 m 244 #[vi p0, vi p1, vi p2, vi p3, vi p4, vi p5, vi 1, vr uu, vr nd10, vr q16, vi 1, un] [(.int 1), (.ref uu), (.int 1)] (fun u k => XS.istore X16.here hx rfl (D at_227) rfl (l' := #[vi p0, vi p1, vi p2, vi p3, vi p4, vi p5, vi 1, vr uu, vr nd10, vr q16, vi 1, un]) rfl (XS.iload X16.here hx rfl (D at_229) rfl (XS.ifYes X16.here hx rfl (pc0 := 231) (pc' := 238) rfl (D at_231) rfl (XT.i0_ne_t (by decide)) (by decide) (by decide) (XS.iload X16.here hx rfl (D at_238) rfl (XS.aload X16.here hx rfl (D at_240) rfl rfl (XS.iload X16.here hx rfl (D at_242) rfl k)))))) ?_
      have f28 := (f19.keep Kc16 nin0)
      obtain ⟨_, _, ⟨T29, L29, k29, n29⟩, -, X29, ⟨Lc29, hQ29, l29, y29, z29⟩, st29⟩ := Jvm.LawKit.callS X16 hx (y := mn38) hown (mvT hZ (H 183 rfl)) (mvT hZ (H 184 rfl)) (mvT hZ (H 3 rfl)) (mvT hZ (H 185 rfl)) (by decide) (backOf (W := 1) (own_bor_1 l Z a0 hw [] uu 1 cf ku T16.heap n0 Z16 f28 (by decide) (by decide)) hZ (H 185 rfl) (H 3 rfl) (by decide) (by decide)) (g := (mkF m 244 #[vi p0, vi p1, vi p2, vi p3, vi p4, vi p5, vi 1, vr uu, vr nd10, vr q16, vi 1, un] [(.int 1), (.ref uu), (.int 1)])) rfl (by rw [hml]; rfl) (argsL := [(.ref uu), (.int 1)]) (rest := [(.int 1)]) (lenOf own_pd34 rfl) rfl (own_w0 rfl) (D at_244) (fun _ _ => ⟨rfl, rfl, (by decide : 19 + 0 ≤ _), (by decide : 1113 + 0 ≤ _)⟩)
      dsimp only [Pt.U, Pt.locs, Pt.cells, Pt.slots] at X29 l29 y29 z29 st29 hQ29
      subst l29 y29 z29
      obtain ⟨rfl, N29, e29⟩ := hQ29
      have NA29 := Fr.app NA16 N29
      refine gb T29 m 247 #[vi p0, vi p1, vi p2, vi p3, vi p4, vi p5, vi 1, vr uu, vr nd10, vr q16, vi 1, un] [(.int 0), (.int 1)] st29 ?_
      clear st29
      refine gb T29 m 248 #[vi p0, vi p1, vi p2, vi p3, vi p4, vi p5, vi 1, vr uu, vr nd10, vr q16, vi 1, un] [(.int ((1 : Int32) - (0 : Int32)))] (fun u k => XS.isub X29.here hx rfl (D at_247) rfl k) ?_
      have rw30 : ((1 : Int32) - (0 : Int32)) = (1 : Int32) := by decide
      rw [rw30]
      refine gb T29 m 254 #[vi p0, vi p1, vi p2, vi p3, vi p4, vi p5, vi 1, vr uu, vr nd10, vr q16, vi 1, vi 1] [(.ref nd10), (.int 1)] (fun u k => XS.istore X29.here hx rfl (D at_248) rfl (l' := #[vi p0, vi p1, vi p2, vi p3, vi p4, vi p5, vi 1, vr uu, vr nd10, vr q16, vi 1, vi 1]) rfl (XS.iload X29.here hx rfl (D at_250) rfl (XS.aload X29.here hx rfl (D at_252) rfl rfl k))) ?_
      have f31 := (P10_0.keep Kc16)
      have f32 := (P10_1.keep Kc16 nin0)
      have f33 := (P10_3.keep Kc16 nin0)
      have f34 := (P10_6.keep Kc16 nin0)
      have f35 := (P10_5.keep Kc16 nin0)
      obtain ⟨cq37, kq37, qa37, qb37, qc37⟩ := isOf hZ e29 f31
      obtain ⟨_, _, ⟨T36, L36, k36, n36⟩, -, X36, ⟨Lc36, hQ36, l36, y36, z36⟩, st36⟩ := X29.virtualBack hx (y := mn43) (z := mn43) hown (mvT hZ (H 189 rfl)) (mvT hZ (H 190 rfl)) (notFace_of_selects (args := #[]) (mvT hZ (H 192 rfl))) (mvT hZ (H 192 rfl)) (mvT hZ (H 191 rfl)) (by decide) (backOf (W := 1) (own_per l Z a0 hw [] nd10 bq10 r10 1 cf kq10 kr10 T16.heap n0 Z16 f31 f32 f33 f34 f35 (by decide)) hZ (H 193 rfl) (H 41 rfl) (by decide) (by decide)) qa37 qc37 (g := (mkF m 254 #[vi p0, vi p1, vi p2, vi p3, vi p4, vi p5, vi 1, vr uu, vr nd10, vr q16, vi 1, vi 1] [(.ref nd10), (.int 1)])) rfl (by rw [hml]; rfl) (Steps.refl _) (argsL := []) (rest := [(.int 1)]) (lenOf own_pd21 rfl) rfl (own_w0 rfl) (D at_254) (fun _ _ => ⟨rfl, e29, (by decide : 19 + 0 ≤ _), (by decide : 1113 + 0 ≤ _)⟩)
      dsimp only [Pt.U, Pt.locs, Pt.cells, Pt.slots] at X36 l36 y36 z36 st36 hQ36
      subst l36 y36 z36
      obtain ⟨rfl, N36, e36⟩ := hQ36
      have NA36 := Fr.app NA29 N36
      refine gb T36 m 257 #[vi p0, vi p1, vi p2, vi p3, vi p4, vi p5, vi 1, vr uu, vr nd10, vr q16, vi 1, vi 1] [(.int (own_pd 1 cf)), (.int 1)] (fun u k => st36.trans k) ?_
      clear st36
      refine gb T36 m 268 #[vi p0, vi p1, vi p2, vi p3, vi p4, vi p5, vi 1, vr uu, vr nd10, vr q16, vi 1, vi 1] [(.int ((1 : Int32) &&& (1 : Int32)))] (fun u k => XS.iload X36.here hx rfl (D at_257) rfl (XS.icmpNo X36.here hx rfl (D at_259) rfl (XT.ii_ne_f ((own_pd_eq (x := 0) (y := 1) (by decide) rfl rfl).trans (by decide))) (XT.iconstV X36.here hx rfl (1 : Int32) (D at_262) (by decide) (XS.goto X36.here hx rfl (pc0 := 263) (pc' := 267) rfl (D at_263) (by decide) (by decide) (XS.iand X36.here hx rfl (D at_267) rfl k))))) ?_
      have rw38 : ((1 : Int32) &&& (1 : Int32)) = (1 : Int32) := by decide
      rw [rw38]
      refine gb T36 m 272 #[vi p0, vi p1, vi p2, vi p3, vi p4, vi p5, vi 1, vr uu, vr nd10, vr q16, vi 1, vi 1] [(.int 1)] (fun u k => XS.istore X36.here hx rfl (D at_268) rfl (l' := #[vi p0, vi p1, vi p2, vi p3, vi p4, vi p5, vi 1, vr uu, vr nd10, vr q16, vi 1, vi 1]) rfl (XS.iload X36.here hx rfl (D at_270) rfl k)) ?_
      obtain ⟨fs, hr, hrun, hended, hFW⟩ := Jvm.Stand.leaveW (s := s) (vm₁ := s.vm) X36 hS0 (by rw [e36]; exact hk16) (v := some (.int 1)) (fun h => by rw [Bd.returns] at h; cases h)
      refine ⟨_, _, retN X36 hx (t := .boolean) Bd.returns (by simp) (D at_272) hr, hrun, hended, _, _, rfl, ?_, hFW.1, hFW.2.1, hFW.2.2.1, hFW.2.2.2.mono (by decide) (by decide)⟩
      show Q_own_law0 Z p0 p1 p2 p3 p4 p5 gC fm rA kA ra h0 n0 _ T36.heap _
      rw [e36]
      exact ⟨rfl, NA36, K16⟩
    · show Go p e below (own_FW s below (Q_own_law0 Z p0 p1 p2 p3 p4 p5 gC fm rA kA ra h0 n0) 48 3328) (T16.setTop (mkF m 87 #[vi p0, vi p1, vi p2, vi p3, vi p4, vi p5, vi 2, vr uu, vr nd10, vr q16, un, un] []))
      refine gb T16 m 101 #[vi p0, vi p1, vi p2, vi p3, vi p4, vi p5, vi 2, vr uu, vr nd10, vr q16, vi 1, un] [(.int 0), (.ref q16), (.int 1)] (fun u k => XT.iconstV X16.here hx rfl (1 : Int32) (D at_87) (by decide) (XS.istore X16.here hx rfl (D at_88) rfl (l' := #[vi p0, vi p1, vi p2, vi p3, vi p4, vi p5, vi 2, vr uu, vr nd10, vr q16, vi 1, un]) rfl (XS.iload X16.here hx rfl (D at_90) rfl (XS.iload X16.here hx rfl (D at_92) rfl (XT.iconstV X16.here hx rfl (1 : Int32) (D at_94) (by decide) (XS.icmpNo X16.here hx rfl (D at_95) rfl (XT.ii_lt_f (by decide)) (XS.aload X16.here hx rfl (D at_98) rfl rfl (XT.iconstV X16.here hx rfl (0 : Int32) (D at_100) (by decide) k)))))))) ?_
      obtain ⟨cl39, Ar39, aq39, aS39, aM39, aH39, aG39⟩ := id P16_0
      refine gb T16 m 111 #[vi p0, vi p1, vi p2, vi p3, vi p4, vi p5, vi 2, vr uu, vr nd10, vr q16, vi 1, un] [(.int ((1 : Int32) &&& (1 : Int32)))] (fun u k => X16.iaload hx (j := (0 : Int32)) (v := (.int ((own_bf cf (2 - 1)) 0))) Ar39.1 (State.isArrayOf_alike hZ.alike Ar39.2.1) Ar39.2.2 (inb_of aS39 (own_ib (i := 0) (by omega) (by omega))) (Has.at aH39 (inb_of aS39 (own_ib (i := 0) (by omega) (by omega))) (own_l_at (j := 0) _ (by omega))) (g := (mkF m 101 #[vi p0, vi p1, vi p2, vi p3, vi p4, vi p5, vi 2, vr uu, vr nd10, vr q16, vi 1, un] [(.int 0), (.ref q16), (.int 1)])) rfl rfl (D at_101) _ (XS.ifNo X16.here hx rfl (D at_102) rfl (XT.i0_ne_f (own_kb0 _ _)) (XT.iconstV X16.here hx rfl (1 : Int32) (D at_105) (by decide) (XS.goto X16.here hx rfl (pc0 := 106) (pc' := 110) rfl (D at_106) (by decide) (by decide) (XS.iand X16.here hx rfl (D at_110) rfl k))))) ?_
      have rw40 : ((1 : Int32) &&& (1 : Int32)) = (1 : Int32) := by decide
      rw [rw40]
      refine gb T16 m 124 #[vi p0, vi p1, vi p2, vi p3, vi p4, vi p5, vi 2, vr uu, vr nd10, vr q16, vi 1, un] [(.int 1), (.ref q16), (.int 1)] (fun u k => XS.istore X16.here hx rfl (D at_111) rfl (l' := #[vi p0, vi p1, vi p2, vi p3, vi p4, vi p5, vi 2, vr uu, vr nd10, vr q16, vi 1, un]) rfl (XS.iload X16.here hx rfl (D at_113) rfl (XS.iload X16.here hx rfl (D at_115) rfl (XT.iconstV X16.here hx rfl (2 : Int32) (D at_117) (by decide) (XS.icmpNo X16.here hx rfl (D at_118) rfl (XT.ii_lt_f (by decide)) (XS.aload X16.here hx rfl (D at_121) rfl rfl (XT.iconstV X16.here hx rfl (1 : Int32) (D at_123) (by decide) k))))))) ?_
      obtain ⟨cl41, Ar41, aq41, aS41, aM41, aH41, aG41⟩ := id P16_0
      refine gb T16 m 128 #[vi p0, vi p1, vi p2, vi p3, vi p4, vi p5, vi 2, vr uu, vr nd10, vr q16, vi 1, un] [(.int 2), (.ref uu), (.int ((own_bf cf (2 - 1)) 1)), (.int 1)] (fun u k => X16.iaload hx (j := (1 : Int32)) (v := (.int ((own_bf cf (2 - 1)) 1))) Ar41.1 (State.isArrayOf_alike hZ.alike Ar41.2.1) Ar41.2.2 (inb_of aS41 (own_ib (i := 1) (by omega) (by omega))) (Has.at aH41 (inb_of aS41 (own_ib (i := 1) (by omega) (by omega))) (own_l_at (j := 1) _ (by omega))) (g := (mkF m 124 #[vi p0, vi p1, vi p2, vi p3, vi p4, vi p5, vi 2, vr uu, vr nd10, vr q16, vi 1, un] [(.int 1), (.ref q16), (.int 1)])) rfl rfl (D at_124) _ (XS.aload X16.here hx rfl (D at_125) rfl rfl (XT.iconstV X16.here hx rfl (2 : Int32) (D at_127) (by decide) k))) ?_
      have f42 := (f19.keep Kc16 nin0)
      obtain ⟨_, _, ⟨T43, L43, k43, n43⟩, -, X43, ⟨Lc43, hQ43, l43, y43, z43⟩, st43⟩ := Jvm.LawKit.callS X16 hx (y := mn38) hown (mvT hZ (H 183 rfl)) (mvT hZ (H 184 rfl)) (mvT hZ (H 3 rfl)) (mvT hZ (H 185 rfl)) (by decide) (backOf (W := 2) (own_bor_2 l Z a0 hw [] uu 2 cf ku T16.heap n0 Z16 f42 (by decide) (by decide)) hZ (H 185 rfl) (H 3 rfl) (by decide) (by decide)) (g := (mkF m 128 #[vi p0, vi p1, vi p2, vi p3, vi p4, vi p5, vi 2, vr uu, vr nd10, vr q16, vi 1, un] [(.int 2), (.ref uu), (.int ((own_bf cf (2 - 1)) 1)), (.int 1)])) rfl (by rw [hml]; rfl) (argsL := [(.ref uu), (.int 2)]) (rest := [(.int ((own_bf cf (2 - 1)) 1)), (.int 1)]) (lenOf own_pd34 rfl) rfl (own_w0 rfl) (D at_128) (fun _ _ => ⟨rfl, rfl, (by decide : 19 + 0 ≤ _), (by decide : 1113 + 0 ≤ _)⟩)
      dsimp only [Pt.U, Pt.locs, Pt.cells, Pt.slots] at X43 l43 y43 z43 st43 hQ43
      subst l43 y43 z43
      obtain ⟨rfl, N43, e43⟩ := hQ43
      have NA43 := Fr.app NA16 N43
      refine gb T43 m 131 #[vi p0, vi p1, vi p2, vi p3, vi p4, vi p5, vi 2, vr uu, vr nd10, vr q16, vi 1, un] [(.int (own_bd2 (cf 0) (cf 1))), (.int ((own_bf cf (2 - 1)) 1)), (.int 1)] st43 ?_
      clear st43
      refine gb T43 m 140 #[vi p0, vi p1, vi p2, vi p3, vi p4, vi p5, vi 2, vr uu, vr nd10, vr q16, vi 1, un] [(.int ((1 : Int32) &&& (1 : Int32)))] (fun u k => XS.icmpNo X43.here hx rfl (D at_131) rfl (XT.ii_ne_f (own_kb1 _ (by decide))) (XT.iconstV X43.here hx rfl (1 : Int32) (D at_134) (by decide) (XS.goto X43.here hx rfl (pc0 := 135) (pc' := 139) rfl (D at_135) (by decide) (by decide) (XS.iand X43.here hx rfl (D at_139) rfl k)))) ?_
      have rw44 : ((1 : Int32) &&& (1 : Int32)) = (1 : Int32) := by decide
      rw [rw44]
      refine gb T43 m 169 #[vi p0, vi p1, vi p2, vi p3, vi p4, vi p5, vi 2, vr uu, vr nd10, vr q16, vi 1, un] [(.int ((1 : Int32) &&& (1 : Int32)))] (fun u k => XS.istore X43.here hx rfl (D at_140) rfl (l' := #[vi p0, vi p1, vi p2, vi p3, vi p4, vi p5, vi 2, vr uu, vr nd10, vr q16, vi 1, un]) rfl (XS.iload X43.here hx rfl (D at_142) rfl (XS.iload X43.here hx rfl (D at_144) rfl (XT.iconstV X43.here hx rfl (3 : Int32) (D at_146) (by decide) (XS.icmpYes X43.here hx rfl (pc0 := 147) (pc' := 163) rfl (D at_147) rfl (XT.ii_lt_t (by decide)) (by decide) (by decide) (XT.iconstV X43.here hx rfl (1 : Int32) (D at_163) (by decide) (XS.goto X43.here hx rfl (pc0 := 164) (pc' := 168) rfl (D at_164) (by decide) (by decide) (XS.iand X43.here hx rfl (D at_168) rfl k)))))))) ?_
      have rw45 : ((1 : Int32) &&& (1 : Int32)) = (1 : Int32) := by decide
      rw [rw45]
      refine gb T43 m 198 #[vi p0, vi p1, vi p2, vi p3, vi p4, vi p5, vi 2, vr uu, vr nd10, vr q16, vi 1, un] [(.int ((1 : Int32) &&& (1 : Int32)))] (fun u k => XS.istore X43.here hx rfl (D at_169) rfl (l' := #[vi p0, vi p1, vi p2, vi p3, vi p4, vi p5, vi 2, vr uu, vr nd10, vr q16, vi 1, un]) rfl (XS.iload X43.here hx rfl (D at_171) rfl (XS.iload X43.here hx rfl (D at_173) rfl (XT.iconstV X43.here hx rfl (4 : Int32) (D at_175) (by decide) (XS.icmpYes X43.here hx rfl (pc0 := 176) (pc' := 192) rfl (D at_176) rfl (XT.ii_lt_t (by decide)) (by decide) (by decide) (XT.iconstV X43.here hx rfl (1 : Int32) (D at_192) (by decide) (XS.goto X43.here hx rfl (pc0 := 193) (pc' := 197) rfl (D at_193) (by decide) (by decide) (XS.iand X43.here hx rfl (D at_197) rfl k)))))))) ?_
      have rw46 : ((1 : Int32) &&& (1 : Int32)) = (1 : Int32) := by decide
      rw [rw46]
      refine gb T43 m 227 #[vi p0, vi p1, vi p2, vi p3, vi p4, vi p5, vi 2, vr uu, vr nd10, vr q16, vi 1, un] [(.int ((1 : Int32) &&& (1 : Int32)))] (fun u k => XS.istore X43.here hx rfl (D at_198) rfl (l' := #[vi p0, vi p1, vi p2, vi p3, vi p4, vi p5, vi 2, vr uu, vr nd10, vr q16, vi 1, un]) rfl (XS.iload X43.here hx rfl (D at_200) rfl (XS.iload X43.here hx rfl (D at_202) rfl (XT.iconstV X43.here hx rfl (5 : Int32) (D at_204) (by decide) (XS.icmpYes X43.here hx rfl (pc0 := 205) (pc' := 221) rfl (D at_205) rfl (XT.ii_lt_t (by decide)) (by decide) (by decide) (XT.iconstV X43.here hx rfl (1 : Int32) (D at_221) (by decide) (XS.goto X43.here hx rfl (pc0 := 222) (pc' := 226) rfl (D at_222) (by decide) (by decide) (XS.iand X43.here hx rfl (D at_226) rfl k)))))))) ?_
      have rw47 : ((1 : Int32) &&& (1 : Int32)) = (1 : Int32) := by decide
      rw [rw47]
      refine gb T43 m 244 #[vi p0, vi p1, vi p2, vi p3, vi p4, vi p5, vi 2, vr uu, vr nd10, vr q16, vi 1, un] [(.int 2), (.ref uu), (.int 2)] (fun u k => XS.istore X43.here hx rfl (D at_227) rfl (l' := #[vi p0, vi p1, vi p2, vi p3, vi p4, vi p5, vi 2, vr uu, vr nd10, vr q16, vi 1, un]) rfl (XS.iload X43.here hx rfl (D at_229) rfl (XS.ifYes X43.here hx rfl (pc0 := 231) (pc' := 238) rfl (D at_231) rfl (XT.i0_ne_t (by decide)) (by decide) (by decide) (XS.iload X43.here hx rfl (D at_238) rfl (XS.aload X43.here hx rfl (D at_240) rfl rfl (XS.iload X43.here hx rfl (D at_242) rfl k)))))) ?_
      obtain ⟨_, _, ⟨T48, L48, k48, n48⟩, -, X48, ⟨Lc48, hQ48, l48, y48, z48⟩, st48⟩ := Jvm.LawKit.callS X43 hx (y := mn38) hown (mvT hZ (H 183 rfl)) (mvT hZ (H 184 rfl)) (mvT hZ (H 3 rfl)) (mvT hZ (H 185 rfl)) (by decide) (backOf (W := 1) (own_bor_2 l Z a0 hw [] uu 2 cf ku T16.heap n0 Z16 f42 (by decide) (by decide)) hZ (H 185 rfl) (H 3 rfl) (by decide) (by decide)) (g := (mkF m 244 #[vi p0, vi p1, vi p2, vi p3, vi p4, vi p5, vi 2, vr uu, vr nd10, vr q16, vi 1, un] [(.int 2), (.ref uu), (.int 2)])) rfl (by rw [hml]; rfl) (argsL := [(.ref uu), (.int 2)]) (rest := [(.int 2)]) (lenOf own_pd34 rfl) rfl (own_w0 rfl) (D at_244) (fun _ _ => ⟨rfl, e43, (by decide : 19 + 0 ≤ _), (by decide : 1113 + 0 ≤ _)⟩)
      dsimp only [Pt.U, Pt.locs, Pt.cells, Pt.slots] at X48 l48 y48 z48 st48 hQ48
      subst l48 y48 z48
      obtain ⟨rfl, N48, e48⟩ := hQ48
      have NA48 := Fr.app NA43 N48
      refine gb T48 m 247 #[vi p0, vi p1, vi p2, vi p3, vi p4, vi p5, vi 2, vr uu, vr nd10, vr q16, vi 1, un] [(.int (own_bd2 (cf 0) (cf 1))), (.int 2)] st48 ?_
      clear st48
      refine gb T48 m 254 #[vi p0, vi p1, vi p2, vi p3, vi p4, vi p5, vi 2, vr uu, vr nd10, vr q16, vi 1, vi ((2 : Int32) - (own_bd2 (cf 0) (cf 1)))] [(.ref nd10), (.int 1)] (fun u k => XS.isub X48.here hx rfl (D at_247) rfl (XS.istore X48.here hx rfl (D at_248) rfl (l' := #[vi p0, vi p1, vi p2, vi p3, vi p4, vi p5, vi 2, vr uu, vr nd10, vr q16, vi 1, vi ((2 : Int32) - (own_bd2 (cf 0) (cf 1)))]) rfl (XS.iload X48.here hx rfl (D at_250) rfl (XS.aload X48.here hx rfl (D at_252) rfl rfl k)))) ?_
      have f49 := (P10_0.keep Kc16)
      have f50 := (P10_1.keep Kc16 nin0)
      have f51 := (P10_3.keep Kc16 nin0)
      have f52 := (P10_6.keep Kc16 nin0)
      have f53 := (P10_5.keep Kc16 nin0)
      obtain ⟨cq55, kq55, qa55, qb55, qc55⟩ := isOf hZ e48 f49
      obtain ⟨_, _, ⟨T54, L54, k54, n54⟩, -, X54, ⟨Lc54, hQ54, l54, y54, z54⟩, st54⟩ := X48.virtualBack hx (y := mn43) (z := mn43) hown (mvT hZ (H 189 rfl)) (mvT hZ (H 190 rfl)) (notFace_of_selects (args := #[]) (mvT hZ (H 192 rfl))) (mvT hZ (H 192 rfl)) (mvT hZ (H 191 rfl)) (by decide) (backOf (W := 1) (own_per l Z a0 hw [] nd10 bq10 r10 2 cf kq10 kr10 T16.heap n0 Z16 f49 f50 f51 f52 f53 (by decide)) hZ (H 193 rfl) (H 41 rfl) (by decide) (by decide)) qa55 qc55 (g := (mkF m 254 #[vi p0, vi p1, vi p2, vi p3, vi p4, vi p5, vi 2, vr uu, vr nd10, vr q16, vi 1, vi ((2 : Int32) - (own_bd2 (cf 0) (cf 1)))] [(.ref nd10), (.int 1)])) rfl (by rw [hml]; rfl) (Steps.refl _) (argsL := []) (rest := [(.int 1)]) (lenOf own_pd21 rfl) rfl (own_w0 rfl) (D at_254) (fun _ _ => ⟨rfl, e48, (by decide : 19 + 0 ≤ _), (by decide : 1113 + 0 ≤ _)⟩)
      dsimp only [Pt.U, Pt.locs, Pt.cells, Pt.slots] at X54 l54 y54 z54 st54 hQ54
      subst l54 y54 z54
      obtain ⟨rfl, N54, e54⟩ := hQ54
      have NA54 := Fr.app NA48 N54
      refine gb T54 m 257 #[vi p0, vi p1, vi p2, vi p3, vi p4, vi p5, vi 2, vr uu, vr nd10, vr q16, vi 1, vi ((2 : Int32) - (own_bd2 (cf 0) (cf 1)))] [(.int (own_pd 2 cf)), (.int 1)] (fun u k => st54.trans k) ?_
      clear st54
      refine gb T54 m 268 #[vi p0, vi p1, vi p2, vi p3, vi p4, vi p5, vi 2, vr uu, vr nd10, vr q16, vi 1, vi ((2 : Int32) - (own_bd2 (cf 0) (cf 1)))] [(.int ((1 : Int32) &&& (1 : Int32)))] (fun u k => XS.iload X54.here hx rfl (D at_257) rfl (XS.icmpNo X54.here hx rfl (D at_259) rfl (XT.ii_ne_f (own_pd_eq (by decide) rfl (own_kb1 _ (by decide)))) (XT.iconstV X54.here hx rfl (1 : Int32) (D at_262) (by decide) (XS.goto X54.here hx rfl (pc0 := 263) (pc' := 267) rfl (D at_263) (by decide) (by decide) (XS.iand X54.here hx rfl (D at_267) rfl k))))) ?_
      have rw56 : ((1 : Int32) &&& (1 : Int32)) = (1 : Int32) := by decide
      rw [rw56]
      refine gb T54 m 272 #[vi p0, vi p1, vi p2, vi p3, vi p4, vi p5, vi 2, vr uu, vr nd10, vr q16, vi 1, vi ((2 : Int32) - (own_bd2 (cf 0) (cf 1)))] [(.int 1)] (fun u k => XS.istore X54.here hx rfl (D at_268) rfl (l' := #[vi p0, vi p1, vi p2, vi p3, vi p4, vi p5, vi 2, vr uu, vr nd10, vr q16, vi 1, vi ((2 : Int32) - (own_bd2 (cf 0) (cf 1)))]) rfl (XS.iload X54.here hx rfl (D at_270) rfl k)) ?_
      obtain ⟨fs, hr, hrun, hended, hFW⟩ := Jvm.Stand.leaveW (s := s) (vm₁ := s.vm) X54 hS0 (by rw [e54]; exact hk16) (v := some (.int 1)) (fun h => by rw [Bd.returns] at h; cases h)
      refine ⟨_, _, retN X54 hx (t := .boolean) Bd.returns (by simp) (D at_272) hr, hrun, hended, _, _, rfl, ?_, hFW.1, hFW.2.1, hFW.2.2.1, hFW.2.2.2.mono (by decide) (by decide)⟩
      show Q_own_law0 Z p0 p1 p2 p3 p4 p5 gC fm rA kA ra h0 n0 _ T54.heap _
      rw [e54]
      exact ⟨rfl, NA54, K16⟩
    · show Go p e below (own_FW s below (Q_own_law0 Z p0 p1 p2 p3 p4 p5 gC fm rA kA ra h0 n0) 48 3328) (T16.setTop (mkF m 87 #[vi p0, vi p1, vi p2, vi p3, vi p4, vi p5, vi 3, vr uu, vr nd10, vr q16, un, un] []))
      refine gb T16 m 101 #[vi p0, vi p1, vi p2, vi p3, vi p4, vi p5, vi 3, vr uu, vr nd10, vr q16, vi 1, un] [(.int 0), (.ref q16), (.int 1)] (fun u k => XT.iconstV X16.here hx rfl (1 : Int32) (D at_87) (by decide) (XS.istore X16.here hx rfl (D at_88) rfl (l' := #[vi p0, vi p1, vi p2, vi p3, vi p4, vi p5, vi 3, vr uu, vr nd10, vr q16, vi 1, un]) rfl (XS.iload X16.here hx rfl (D at_90) rfl (XS.iload X16.here hx rfl (D at_92) rfl (XT.iconstV X16.here hx rfl (1 : Int32) (D at_94) (by decide) (XS.icmpNo X16.here hx rfl (D at_95) rfl (XT.ii_lt_f (by decide)) (XS.aload X16.here hx rfl (D at_98) rfl rfl (XT.iconstV X16.here hx rfl (0 : Int32) (D at_100) (by decide) k)))))))) ?_
      obtain ⟨cl57, Ar57, aq57, aS57, aM57, aH57, aG57⟩ := id P16_0
      refine gb T16 m 111 #[vi p0, vi p1, vi p2, vi p3, vi p4, vi p5, vi 3, vr uu, vr nd10, vr q16, vi 1, un] [(.int ((1 : Int32) &&& (1 : Int32)))] (fun u k => X16.iaload hx (j := (0 : Int32)) (v := (.int ((own_bf cf (3 - 1)) 0))) Ar57.1 (State.isArrayOf_alike hZ.alike Ar57.2.1) Ar57.2.2 (inb_of aS57 (own_ib (i := 0) (by omega) (by omega))) (Has.at aH57 (inb_of aS57 (own_ib (i := 0) (by omega) (by omega))) (own_l_at (j := 0) _ (by omega))) (g := (mkF m 101 #[vi p0, vi p1, vi p2, vi p3, vi p4, vi p5, vi 3, vr uu, vr nd10, vr q16, vi 1, un] [(.int 0), (.ref q16), (.int 1)])) rfl rfl (D at_101) _ (XS.ifNo X16.here hx rfl (D at_102) rfl (XT.i0_ne_f (own_kb0 _ _)) (XT.iconstV X16.here hx rfl (1 : Int32) (D at_105) (by decide) (XS.goto X16.here hx rfl (pc0 := 106) (pc' := 110) rfl (D at_106) (by decide) (by decide) (XS.iand X16.here hx rfl (D at_110) rfl k))))) ?_
      have rw58 : ((1 : Int32) &&& (1 : Int32)) = (1 : Int32) := by decide
      rw [rw58]
      refine gb T16 m 124 #[vi p0, vi p1, vi p2, vi p3, vi p4, vi p5, vi 3, vr uu, vr nd10, vr q16, vi 1, un] [(.int 1), (.ref q16), (.int 1)] (fun u k => XS.istore X16.here hx rfl (D at_111) rfl (l' := #[vi p0, vi p1, vi p2, vi p3, vi p4, vi p5, vi 3, vr uu, vr nd10, vr q16, vi 1, un]) rfl (XS.iload X16.here hx rfl (D at_113) rfl (XS.iload X16.here hx rfl (D at_115) rfl (XT.iconstV X16.here hx rfl (2 : Int32) (D at_117) (by decide) (XS.icmpNo X16.here hx rfl (D at_118) rfl (XT.ii_lt_f (by decide)) (XS.aload X16.here hx rfl (D at_121) rfl rfl (XT.iconstV X16.here hx rfl (1 : Int32) (D at_123) (by decide) k))))))) ?_
      obtain ⟨cl59, Ar59, aq59, aS59, aM59, aH59, aG59⟩ := id P16_0
      refine gb T16 m 128 #[vi p0, vi p1, vi p2, vi p3, vi p4, vi p5, vi 3, vr uu, vr nd10, vr q16, vi 1, un] [(.int 2), (.ref uu), (.int ((own_bf cf (3 - 1)) 1)), (.int 1)] (fun u k => X16.iaload hx (j := (1 : Int32)) (v := (.int ((own_bf cf (3 - 1)) 1))) Ar59.1 (State.isArrayOf_alike hZ.alike Ar59.2.1) Ar59.2.2 (inb_of aS59 (own_ib (i := 1) (by omega) (by omega))) (Has.at aH59 (inb_of aS59 (own_ib (i := 1) (by omega) (by omega))) (own_l_at (j := 1) _ (by omega))) (g := (mkF m 124 #[vi p0, vi p1, vi p2, vi p3, vi p4, vi p5, vi 3, vr uu, vr nd10, vr q16, vi 1, un] [(.int 1), (.ref q16), (.int 1)])) rfl rfl (D at_124) _ (XS.aload X16.here hx rfl (D at_125) rfl rfl (XT.iconstV X16.here hx rfl (2 : Int32) (D at_127) (by decide) k))) ?_
      have f60 := (f19.keep Kc16 nin0)
      obtain ⟨_, _, ⟨T61, L61, k61, n61⟩, -, X61, ⟨Lc61, hQ61, l61, y61, z61⟩, st61⟩ := Jvm.LawKit.callS X16 hx (y := mn38) hown (mvT hZ (H 183 rfl)) (mvT hZ (H 184 rfl)) (mvT hZ (H 3 rfl)) (mvT hZ (H 185 rfl)) (by decide) (backOf (W := 2) (own_bor_2 l Z a0 hw [] uu 3 cf ku T16.heap n0 Z16 f60 (by decide) (by decide)) hZ (H 185 rfl) (H 3 rfl) (by decide) (by decide)) (g := (mkF m 128 #[vi p0, vi p1, vi p2, vi p3, vi p4, vi p5, vi 3, vr uu, vr nd10, vr q16, vi 1, un] [(.int 2), (.ref uu), (.int ((own_bf cf (3 - 1)) 1)), (.int 1)])) rfl (by rw [hml]; rfl) (argsL := [(.ref uu), (.int 2)]) (rest := [(.int ((own_bf cf (3 - 1)) 1)), (.int 1)]) (lenOf own_pd34 rfl) rfl (own_w0 rfl) (D at_128) (fun _ _ => ⟨rfl, rfl, (by decide : 19 + 0 ≤ _), (by decide : 1113 + 0 ≤ _)⟩)
      dsimp only [Pt.U, Pt.locs, Pt.cells, Pt.slots] at X61 l61 y61 z61 st61 hQ61
      subst l61 y61 z61
      obtain ⟨rfl, N61, e61⟩ := hQ61
      have NA61 := Fr.app NA16 N61
      refine gb T61 m 131 #[vi p0, vi p1, vi p2, vi p3, vi p4, vi p5, vi 3, vr uu, vr nd10, vr q16, vi 1, un] [(.int (own_bd2 (cf 0) (cf 1))), (.int ((own_bf cf (3 - 1)) 1)), (.int 1)] st61 ?_
      clear st61
      refine gb T61 m 140 #[vi p0, vi p1, vi p2, vi p3, vi p4, vi p5, vi 3, vr uu, vr nd10, vr q16, vi 1, un] [(.int ((1 : Int32) &&& (1 : Int32)))] (fun u k => XS.icmpNo X61.here hx rfl (D at_131) rfl (XT.ii_ne_f (own_kb1 _ (by decide))) (XT.iconstV X61.here hx rfl (1 : Int32) (D at_134) (by decide) (XS.goto X61.here hx rfl (pc0 := 135) (pc' := 139) rfl (D at_135) (by decide) (by decide) (XS.iand X61.here hx rfl (D at_139) rfl k)))) ?_
      have rw62 : ((1 : Int32) &&& (1 : Int32)) = (1 : Int32) := by decide
      rw [rw62]
      refine gb T61 m 153 #[vi p0, vi p1, vi p2, vi p3, vi p4, vi p5, vi 3, vr uu, vr nd10, vr q16, vi 1, un] [(.int 2), (.ref q16), (.int 1)] (fun u k => XS.istore X61.here hx rfl (D at_140) rfl (l' := #[vi p0, vi p1, vi p2, vi p3, vi p4, vi p5, vi 3, vr uu, vr nd10, vr q16, vi 1, un]) rfl (XS.iload X61.here hx rfl (D at_142) rfl (XS.iload X61.here hx rfl (D at_144) rfl (XT.iconstV X61.here hx rfl (3 : Int32) (D at_146) (by decide) (XS.icmpNo X61.here hx rfl (D at_147) rfl (XT.ii_lt_f (by decide)) (XS.aload X61.here hx rfl (D at_150) rfl rfl (XT.iconstV X61.here hx rfl (2 : Int32) (D at_152) (by decide) k))))))) ?_
      obtain ⟨cl63, Ar63, aq63, aS63, aM63, aH63, aG63⟩ := id P16_0
      refine gb T61 m 157 #[vi p0, vi p1, vi p2, vi p3, vi p4, vi p5, vi 3, vr uu, vr nd10, vr q16, vi 1, un] [(.int 3), (.ref uu), (.int ((own_bf cf (3 - 1)) 2)), (.int 1)] (fun u k => X61.iaload hx (j := (2 : Int32)) (v := (.int ((own_bf cf (3 - 1)) 2))) (by rw [e61]; exact Ar63.1) (State.isArrayOf_alike hZ.alike Ar63.2.1) Ar63.2.2 (inb_of aS63 (own_ib (i := 2) (by omega) (by omega))) (Has.at aH63 (inb_of aS63 (own_ib (i := 2) (by omega) (by omega))) (own_l_at (j := 2) _ (by omega))) (g := (mkF m 153 #[vi p0, vi p1, vi p2, vi p3, vi p4, vi p5, vi 3, vr uu, vr nd10, vr q16, vi 1, un] [(.int 2), (.ref q16), (.int 1)])) rfl rfl (D at_153) _ (XS.aload X61.here hx rfl (D at_154) rfl rfl (XT.iconstV X61.here hx rfl (3 : Int32) (D at_156) (by decide) k))) ?_
      obtain ⟨_, _, ⟨T64, L64, k64, n64⟩, -, X64, ⟨Lc64, hQ64, l64, y64, z64⟩, st64⟩ := Jvm.LawKit.callS X61 hx (y := mn38) hown (mvT hZ (H 183 rfl)) (mvT hZ (H 184 rfl)) (mvT hZ (H 3 rfl)) (mvT hZ (H 185 rfl)) (by decide) (backOf (W := 2) (own_bor_3 l Z a0 hw [] uu 3 cf ku T16.heap n0 Z16 f60 (by decide) (by decide)) hZ (H 185 rfl) (H 3 rfl) (by decide) (by decide)) (g := (mkF m 157 #[vi p0, vi p1, vi p2, vi p3, vi p4, vi p5, vi 3, vr uu, vr nd10, vr q16, vi 1, un] [(.int 3), (.ref uu), (.int ((own_bf cf (3 - 1)) 2)), (.int 1)])) rfl (by rw [hml]; rfl) (argsL := [(.ref uu), (.int 3)]) (rest := [(.int ((own_bf cf (3 - 1)) 2)), (.int 1)]) (lenOf own_pd34 rfl) rfl (own_w0 rfl) (D at_157) (fun _ _ => ⟨rfl, e61, (by decide : 19 + 0 ≤ _), (by decide : 1113 + 0 ≤ _)⟩)
      dsimp only [Pt.U, Pt.locs, Pt.cells, Pt.slots] at X64 l64 y64 z64 st64 hQ64
      subst l64 y64 z64
      obtain ⟨rfl, N64, e64⟩ := hQ64
      have NA64 := Fr.app NA61 N64
      refine gb T64 m 160 #[vi p0, vi p1, vi p2, vi p3, vi p4, vi p5, vi 3, vr uu, vr nd10, vr q16, vi 1, un] [(.int (own_bd3 (cf 0) (cf 1) (cf 2))), (.int ((own_bf cf (3 - 1)) 2)), (.int 1)] st64 ?_
      clear st64
      refine gb T64 m 169 #[vi p0, vi p1, vi p2, vi p3, vi p4, vi p5, vi 3, vr uu, vr nd10, vr q16, vi 1, un] [(.int ((1 : Int32) &&& (1 : Int32)))] (fun u k => XS.icmpNo X64.here hx rfl (D at_160) rfl (XT.ii_ne_f (own_kb2 _ (by decide))) (XT.iconstV X64.here hx rfl (1 : Int32) (D at_163) (by decide) (XS.goto X64.here hx rfl (pc0 := 164) (pc' := 168) rfl (D at_164) (by decide) (by decide) (XS.iand X64.here hx rfl (D at_168) rfl k)))) ?_
      have rw65 : ((1 : Int32) &&& (1 : Int32)) = (1 : Int32) := by decide
      rw [rw65]
      refine gb T64 m 198 #[vi p0, vi p1, vi p2, vi p3, vi p4, vi p5, vi 3, vr uu, vr nd10, vr q16, vi 1, un] [(.int ((1 : Int32) &&& (1 : Int32)))] (fun u k => XS.istore X64.here hx rfl (D at_169) rfl (l' := #[vi p0, vi p1, vi p2, vi p3, vi p4, vi p5, vi 3, vr uu, vr nd10, vr q16, vi 1, un]) rfl (XS.iload X64.here hx rfl (D at_171) rfl (XS.iload X64.here hx rfl (D at_173) rfl (XT.iconstV X64.here hx rfl (4 : Int32) (D at_175) (by decide) (XS.icmpYes X64.here hx rfl (pc0 := 176) (pc' := 192) rfl (D at_176) rfl (XT.ii_lt_t (by decide)) (by decide) (by decide) (XT.iconstV X64.here hx rfl (1 : Int32) (D at_192) (by decide) (XS.goto X64.here hx rfl (pc0 := 193) (pc' := 197) rfl (D at_193) (by decide) (by decide) (XS.iand X64.here hx rfl (D at_197) rfl k)))))))) ?_
      have rw66 : ((1 : Int32) &&& (1 : Int32)) = (1 : Int32) := by decide
      rw [rw66]
      refine gb T64 m 227 #[vi p0, vi p1, vi p2, vi p3, vi p4, vi p5, vi 3, vr uu, vr nd10, vr q16, vi 1, un] [(.int ((1 : Int32) &&& (1 : Int32)))] (fun u k => XS.istore X64.here hx rfl (D at_198) rfl (l' := #[vi p0, vi p1, vi p2, vi p3, vi p4, vi p5, vi 3, vr uu, vr nd10, vr q16, vi 1, un]) rfl (XS.iload X64.here hx rfl (D at_200) rfl (XS.iload X64.here hx rfl (D at_202) rfl (XT.iconstV X64.here hx rfl (5 : Int32) (D at_204) (by decide) (XS.icmpYes X64.here hx rfl (pc0 := 205) (pc' := 221) rfl (D at_205) rfl (XT.ii_lt_t (by decide)) (by decide) (by decide) (XT.iconstV X64.here hx rfl (1 : Int32) (D at_221) (by decide) (XS.goto X64.here hx rfl (pc0 := 222) (pc' := 226) rfl (D at_222) (by decide) (by decide) (XS.iand X64.here hx rfl (D at_226) rfl k)))))))) ?_
      have rw67 : ((1 : Int32) &&& (1 : Int32)) = (1 : Int32) := by decide
      rw [rw67]
      refine gb T64 m 244 #[vi p0, vi p1, vi p2, vi p3, vi p4, vi p5, vi 3, vr uu, vr nd10, vr q16, vi 1, un] [(.int 3), (.ref uu), (.int 3)] (fun u k => XS.istore X64.here hx rfl (D at_227) rfl (l' := #[vi p0, vi p1, vi p2, vi p3, vi p4, vi p5, vi 3, vr uu, vr nd10, vr q16, vi 1, un]) rfl (XS.iload X64.here hx rfl (D at_229) rfl (XS.ifYes X64.here hx rfl (pc0 := 231) (pc' := 238) rfl (D at_231) rfl (XT.i0_ne_t (by decide)) (by decide) (by decide) (XS.iload X64.here hx rfl (D at_238) rfl (XS.aload X64.here hx rfl (D at_240) rfl rfl (XS.iload X64.here hx rfl (D at_242) rfl k)))))) ?_
      obtain ⟨_, _, ⟨T68, L68, k68, n68⟩, -, X68, ⟨Lc68, hQ68, l68, y68, z68⟩, st68⟩ := Jvm.LawKit.callS X64 hx (y := mn38) hown (mvT hZ (H 183 rfl)) (mvT hZ (H 184 rfl)) (mvT hZ (H 3 rfl)) (mvT hZ (H 185 rfl)) (by decide) (backOf (W := 1) (own_bor_3 l Z a0 hw [] uu 3 cf ku T16.heap n0 Z16 f60 (by decide) (by decide)) hZ (H 185 rfl) (H 3 rfl) (by decide) (by decide)) (g := (mkF m 244 #[vi p0, vi p1, vi p2, vi p3, vi p4, vi p5, vi 3, vr uu, vr nd10, vr q16, vi 1, un] [(.int 3), (.ref uu), (.int 3)])) rfl (by rw [hml]; rfl) (argsL := [(.ref uu), (.int 3)]) (rest := [(.int 3)]) (lenOf own_pd34 rfl) rfl (own_w0 rfl) (D at_244) (fun _ _ => ⟨rfl, e64, (by decide : 19 + 0 ≤ _), (by decide : 1113 + 0 ≤ _)⟩)
      dsimp only [Pt.U, Pt.locs, Pt.cells, Pt.slots] at X68 l68 y68 z68 st68 hQ68
      subst l68 y68 z68
      obtain ⟨rfl, N68, e68⟩ := hQ68
      have NA68 := Fr.app NA64 N68
      refine gb T68 m 247 #[vi p0, vi p1, vi p2, vi p3, vi p4, vi p5, vi 3, vr uu, vr nd10, vr q16, vi 1, un] [(.int (own_bd3 (cf 0) (cf 1) (cf 2))), (.int 3)] st68 ?_
      clear st68
      refine gb T68 m 254 #[vi p0, vi p1, vi p2, vi p3, vi p4, vi p5, vi 3, vr uu, vr nd10, vr q16, vi 1, vi ((3 : Int32) - (own_bd3 (cf 0) (cf 1) (cf 2)))] [(.ref nd10), (.int 1)] (fun u k => XS.isub X68.here hx rfl (D at_247) rfl (XS.istore X68.here hx rfl (D at_248) rfl (l' := #[vi p0, vi p1, vi p2, vi p3, vi p4, vi p5, vi 3, vr uu, vr nd10, vr q16, vi 1, vi ((3 : Int32) - (own_bd3 (cf 0) (cf 1) (cf 2)))]) rfl (XS.iload X68.here hx rfl (D at_250) rfl (XS.aload X68.here hx rfl (D at_252) rfl rfl k)))) ?_
      have f69 := (P10_0.keep Kc16)
      have f70 := (P10_1.keep Kc16 nin0)
      have f71 := (P10_3.keep Kc16 nin0)
      have f72 := (P10_6.keep Kc16 nin0)
      have f73 := (P10_5.keep Kc16 nin0)
      obtain ⟨cq75, kq75, qa75, qb75, qc75⟩ := isOf hZ e68 f69
      obtain ⟨_, _, ⟨T74, L74, k74, n74⟩, -, X74, ⟨Lc74, hQ74, l74, y74, z74⟩, st74⟩ := X68.virtualBack hx (y := mn43) (z := mn43) hown (mvT hZ (H 189 rfl)) (mvT hZ (H 190 rfl)) (notFace_of_selects (args := #[]) (mvT hZ (H 192 rfl))) (mvT hZ (H 192 rfl)) (mvT hZ (H 191 rfl)) (by decide) (backOf (W := 1) (own_per l Z a0 hw [] nd10 bq10 r10 3 cf kq10 kr10 T16.heap n0 Z16 f69 f70 f71 f72 f73 (by decide)) hZ (H 193 rfl) (H 41 rfl) (by decide) (by decide)) qa75 qc75 (g := (mkF m 254 #[vi p0, vi p1, vi p2, vi p3, vi p4, vi p5, vi 3, vr uu, vr nd10, vr q16, vi 1, vi ((3 : Int32) - (own_bd3 (cf 0) (cf 1) (cf 2)))] [(.ref nd10), (.int 1)])) rfl (by rw [hml]; rfl) (Steps.refl _) (argsL := []) (rest := [(.int 1)]) (lenOf own_pd21 rfl) rfl (own_w0 rfl) (D at_254) (fun _ _ => ⟨rfl, e68, (by decide : 19 + 0 ≤ _), (by decide : 1113 + 0 ≤ _)⟩)
      dsimp only [Pt.U, Pt.locs, Pt.cells, Pt.slots] at X74 l74 y74 z74 st74 hQ74
      subst l74 y74 z74
      obtain ⟨rfl, N74, e74⟩ := hQ74
      have NA74 := Fr.app NA68 N74
      refine gb T74 m 257 #[vi p0, vi p1, vi p2, vi p3, vi p4, vi p5, vi 3, vr uu, vr nd10, vr q16, vi 1, vi ((3 : Int32) - (own_bd3 (cf 0) (cf 1) (cf 2)))] [(.int (own_pd 3 cf)), (.int 1)] (fun u k => st74.trans k) ?_
      clear st74
      refine gb T74 m 268 #[vi p0, vi p1, vi p2, vi p3, vi p4, vi p5, vi 3, vr uu, vr nd10, vr q16, vi 1, vi ((3 : Int32) - (own_bd3 (cf 0) (cf 1) (cf 2)))] [(.int ((1 : Int32) &&& (1 : Int32)))] (fun u k => XS.iload X74.here hx rfl (D at_257) rfl (XS.icmpNo X74.here hx rfl (D at_259) rfl (XT.ii_ne_f (own_pd_eq (by decide) rfl (own_kb2 _ (by decide)))) (XT.iconstV X74.here hx rfl (1 : Int32) (D at_262) (by decide) (XS.goto X74.here hx rfl (pc0 := 263) (pc' := 267) rfl (D at_263) (by decide) (by decide) (XS.iand X74.here hx rfl (D at_267) rfl k))))) ?_
      have rw76 : ((1 : Int32) &&& (1 : Int32)) = (1 : Int32) := by decide
      rw [rw76]
      refine gb T74 m 272 #[vi p0, vi p1, vi p2, vi p3, vi p4, vi p5, vi 3, vr uu, vr nd10, vr q16, vi 1, vi ((3 : Int32) - (own_bd3 (cf 0) (cf 1) (cf 2)))] [(.int 1)] (fun u k => XS.istore X74.here hx rfl (D at_268) rfl (l' := #[vi p0, vi p1, vi p2, vi p3, vi p4, vi p5, vi 3, vr uu, vr nd10, vr q16, vi 1, vi ((3 : Int32) - (own_bd3 (cf 0) (cf 1) (cf 2)))]) rfl (XS.iload X74.here hx rfl (D at_270) rfl k)) ?_
      obtain ⟨fs, hr, hrun, hended, hFW⟩ := Jvm.Stand.leaveW (s := s) (vm₁ := s.vm) X74 hS0 (by rw [e74]; exact hk16) (v := some (.int 1)) (fun h => by rw [Bd.returns] at h; cases h)
      refine ⟨_, _, retN X74 hx (t := .boolean) Bd.returns (by simp) (D at_272) hr, hrun, hended, _, _, rfl, ?_, hFW.1, hFW.2.1, hFW.2.2.1, hFW.2.2.2.mono (by decide) (by decide)⟩
      show Q_own_law0 Z p0 p1 p2 p3 p4 p5 gC fm rA kA ra h0 n0 _ T74.heap _
      rw [e74]
      exact ⟨rfl, NA74, K16⟩
    · show Go p e below (own_FW s below (Q_own_law0 Z p0 p1 p2 p3 p4 p5 gC fm rA kA ra h0 n0) 48 3328) (T16.setTop (mkF m 87 #[vi p0, vi p1, vi p2, vi p3, vi p4, vi p5, vi 4, vr uu, vr nd10, vr q16, un, un] []))
      refine gb T16 m 101 #[vi p0, vi p1, vi p2, vi p3, vi p4, vi p5, vi 4, vr uu, vr nd10, vr q16, vi 1, un] [(.int 0), (.ref q16), (.int 1)] (fun u k => XT.iconstV X16.here hx rfl (1 : Int32) (D at_87) (by decide) (XS.istore X16.here hx rfl (D at_88) rfl (l' := #[vi p0, vi p1, vi p2, vi p3, vi p4, vi p5, vi 4, vr uu, vr nd10, vr q16, vi 1, un]) rfl (XS.iload X16.here hx rfl (D at_90) rfl (XS.iload X16.here hx rfl (D at_92) rfl (XT.iconstV X16.here hx rfl (1 : Int32) (D at_94) (by decide) (XS.icmpNo X16.here hx rfl (D at_95) rfl (XT.ii_lt_f (by decide)) (XS.aload X16.here hx rfl (D at_98) rfl rfl (XT.iconstV X16.here hx rfl (0 : Int32) (D at_100) (by decide) k)))))))) ?_
      obtain ⟨cl77, Ar77, aq77, aS77, aM77, aH77, aG77⟩ := id P16_0
      refine gb T16 m 111 #[vi p0, vi p1, vi p2, vi p3, vi p4, vi p5, vi 4, vr uu, vr nd10, vr q16, vi 1, un] [(.int ((1 : Int32) &&& (1 : Int32)))] (fun u k => X16.iaload hx (j := (0 : Int32)) (v := (.int ((own_bf cf (4 - 1)) 0))) Ar77.1 (State.isArrayOf_alike hZ.alike Ar77.2.1) Ar77.2.2 (inb_of aS77 (own_ib (i := 0) (by omega) (by omega))) (Has.at aH77 (inb_of aS77 (own_ib (i := 0) (by omega) (by omega))) (own_l_at (j := 0) _ (by omega))) (g := (mkF m 101 #[vi p0, vi p1, vi p2, vi p3, vi p4, vi p5, vi 4, vr uu, vr nd10, vr q16, vi 1, un] [(.int 0), (.ref q16), (.int 1)])) rfl rfl (D at_101) _ (XS.ifNo X16.here hx rfl (D at_102) rfl (XT.i0_ne_f (own_kb0 _ _)) (XT.iconstV X16.here hx rfl (1 : Int32) (D at_105) (by decide) (XS.goto X16.here hx rfl (pc0 := 106) (pc' := 110) rfl (D at_106) (by decide) (by decide) (XS.iand X16.here hx rfl (D at_110) rfl k))))) ?_
      have rw78 : ((1 : Int32) &&& (1 : Int32)) = (1 : Int32) := by decide
      rw [rw78]
      refine gb T16 m 124 #[vi p0, vi p1, vi p2, vi p3, vi p4, vi p5, vi 4, vr uu, vr nd10, vr q16, vi 1, un] [(.int 1), (.ref q16), (.int 1)] (fun u k => XS.istore X16.here hx rfl (D at_111) rfl (l' := #[vi p0, vi p1, vi p2, vi p3, vi p4, vi p5, vi 4, vr uu, vr nd10, vr q16, vi 1, un]) rfl (XS.iload X16.here hx rfl (D at_113) rfl (XS.iload X16.here hx rfl (D at_115) rfl (XT.iconstV X16.here hx rfl (2 : Int32) (D at_117) (by decide) (XS.icmpNo X16.here hx rfl (D at_118) rfl (XT.ii_lt_f (by decide)) (XS.aload X16.here hx rfl (D at_121) rfl rfl (XT.iconstV X16.here hx rfl (1 : Int32) (D at_123) (by decide) k))))))) ?_
      obtain ⟨cl79, Ar79, aq79, aS79, aM79, aH79, aG79⟩ := id P16_0
      refine gb T16 m 128 #[vi p0, vi p1, vi p2, vi p3, vi p4, vi p5, vi 4, vr uu, vr nd10, vr q16, vi 1, un] [(.int 2), (.ref uu), (.int ((own_bf cf (4 - 1)) 1)), (.int 1)] (fun u k => X16.iaload hx (j := (1 : Int32)) (v := (.int ((own_bf cf (4 - 1)) 1))) Ar79.1 (State.isArrayOf_alike hZ.alike Ar79.2.1) Ar79.2.2 (inb_of aS79 (own_ib (i := 1) (by omega) (by omega))) (Has.at aH79 (inb_of aS79 (own_ib (i := 1) (by omega) (by omega))) (own_l_at (j := 1) _ (by omega))) (g := (mkF m 124 #[vi p0, vi p1, vi p2, vi p3, vi p4, vi p5, vi 4, vr uu, vr nd10, vr q16, vi 1, un] [(.int 1), (.ref q16), (.int 1)])) rfl rfl (D at_124) _ (XS.aload X16.here hx rfl (D at_125) rfl rfl (XT.iconstV X16.here hx rfl (2 : Int32) (D at_127) (by decide) k))) ?_
      have f80 := (f19.keep Kc16 nin0)
      obtain ⟨_, _, ⟨T81, L81, k81, n81⟩, -, X81, ⟨Lc81, hQ81, l81, y81, z81⟩, st81⟩ := Jvm.LawKit.callS X16 hx (y := mn38) hown (mvT hZ (H 183 rfl)) (mvT hZ (H 184 rfl)) (mvT hZ (H 3 rfl)) (mvT hZ (H 185 rfl)) (by decide) (backOf (W := 2) (own_bor_2 l Z a0 hw [] uu 4 cf ku T16.heap n0 Z16 f80 (by decide) (by decide)) hZ (H 185 rfl) (H 3 rfl) (by decide) (by decide)) (g := (mkF m 128 #[vi p0, vi p1, vi p2, vi p3, vi p4, vi p5, vi 4, vr uu, vr nd10, vr q16, vi 1, un] [(.int 2), (.ref uu), (.int ((own_bf cf (4 - 1)) 1)), (.int 1)])) rfl (by rw [hml]; rfl) (argsL := [(.ref uu), (.int 2)]) (rest := [(.int ((own_bf cf (4 - 1)) 1)), (.int 1)]) (lenOf own_pd34 rfl) rfl (own_w0 rfl) (D at_128) (fun _ _ => ⟨rfl, rfl, (by decide : 19 + 0 ≤ _), (by decide : 1113 + 0 ≤ _)⟩)
      dsimp only [Pt.U, Pt.locs, Pt.cells, Pt.slots] at X81 l81 y81 z81 st81 hQ81
      subst l81 y81 z81
      obtain ⟨rfl, N81, e81⟩ := hQ81
      have NA81 := Fr.app NA16 N81
      refine gb T81 m 131 #[vi p0, vi p1, vi p2, vi p3, vi p4, vi p5, vi 4, vr uu, vr nd10, vr q16, vi 1, un] [(.int (own_bd2 (cf 0) (cf 1))), (.int ((own_bf cf (4 - 1)) 1)), (.int 1)] st81 ?_
      clear st81
      refine gb T81 m 140 #[vi p0, vi p1, vi p2, vi p3, vi p4, vi p5, vi 4, vr uu, vr nd10, vr q16, vi 1, un] [(.int ((1 : Int32) &&& (1 : Int32)))] (fun u k => XS.icmpNo X81.here hx rfl (D at_131) rfl (XT.ii_ne_f (own_kb1 _ (by decide))) (XT.iconstV X81.here hx rfl (1 : Int32) (D at_134) (by decide) (XS.goto X81.here hx rfl (pc0 := 135) (pc' := 139) rfl (D at_135) (by decide) (by decide) (XS.iand X81.here hx rfl (D at_139) rfl k)))) ?_
      have rw82 : ((1 : Int32) &&& (1 : Int32)) = (1 : Int32) := by decide
      rw [rw82]
      refine gb T81 m 153 #[vi p0, vi p1, vi p2, vi p3, vi p4, vi p5, vi 4, vr uu, vr nd10, vr q16, vi 1, un] [(.int 2), (.ref q16), (.int 1)] (fun u k => XS.istore X81.here hx rfl (D at_140) rfl (l' := #[vi p0, vi p1, vi p2, vi p3, vi p4, vi p5, vi 4, vr uu, vr nd10, vr q16, vi 1, un]) rfl (XS.iload X81.here hx rfl (D at_142) rfl (XS.iload X81.here hx rfl (D at_144) rfl (XT.iconstV X81.here hx rfl (3 : Int32) (D at_146) (by decide) (XS.icmpNo X81.here hx rfl (D at_147) rfl (XT.ii_lt_f (by decide)) (XS.aload X81.here hx rfl (D at_150) rfl rfl (XT.iconstV X81.here hx rfl (2 : Int32) (D at_152) (by decide) k))))))) ?_
      obtain ⟨cl83, Ar83, aq83, aS83, aM83, aH83, aG83⟩ := id P16_0
      refine gb T81 m 157 #[vi p0, vi p1, vi p2, vi p3, vi p4, vi p5, vi 4, vr uu, vr nd10, vr q16, vi 1, un] [(.int 3), (.ref uu), (.int ((own_bf cf (4 - 1)) 2)), (.int 1)] (fun u k => X81.iaload hx (j := (2 : Int32)) (v := (.int ((own_bf cf (4 - 1)) 2))) (by rw [e81]; exact Ar83.1) (State.isArrayOf_alike hZ.alike Ar83.2.1) Ar83.2.2 (inb_of aS83 (own_ib (i := 2) (by omega) (by omega))) (Has.at aH83 (inb_of aS83 (own_ib (i := 2) (by omega) (by omega))) (own_l_at (j := 2) _ (by omega))) (g := (mkF m 153 #[vi p0, vi p1, vi p2, vi p3, vi p4, vi p5, vi 4, vr uu, vr nd10, vr q16, vi 1, un] [(.int 2), (.ref q16), (.int 1)])) rfl rfl (D at_153) _ (XS.aload X81.here hx rfl (D at_154) rfl rfl (XT.iconstV X81.here hx rfl (3 : Int32) (D at_156) (by decide) k))) ?_
      obtain ⟨_, _, ⟨T84, L84, k84, n84⟩, -, X84, ⟨Lc84, hQ84, l84, y84, z84⟩, st84⟩ := Jvm.LawKit.callS X81 hx (y := mn38) hown (mvT hZ (H 183 rfl)) (mvT hZ (H 184 rfl)) (mvT hZ (H 3 rfl)) (mvT hZ (H 185 rfl)) (by decide) (backOf (W := 2) (own_bor_3 l Z a0 hw [] uu 4 cf ku T16.heap n0 Z16 f80 (by decide) (by decide)) hZ (H 185 rfl) (H 3 rfl) (by decide) (by decide)) (g := (mkF m 157 #[vi p0, vi p1, vi p2, vi p3, vi p4, vi p5, vi 4, vr uu, vr nd10, vr q16, vi 1, un] [(.int 3), (.ref uu), (.int ((own_bf cf (4 - 1)) 2)), (.int 1)])) rfl (by rw [hml]; rfl) (argsL := [(.ref uu), (.int 3)]) (rest := [(.int ((own_bf cf (4 - 1)) 2)), (.int 1)]) (lenOf own_pd34 rfl) rfl (own_w0 rfl) (D at_157) (fun _ _ => ⟨rfl, e81, (by decide : 19 + 0 ≤ _), (by decide : 1113 + 0 ≤ _)⟩)
      dsimp only [Pt.U, Pt.locs, Pt.cells, Pt.slots] at X84 l84 y84 z84 st84 hQ84
      subst l84 y84 z84
      obtain ⟨rfl, N84, e84⟩ := hQ84
      have NA84 := Fr.app NA81 N84
      refine gb T84 m 160 #[vi p0, vi p1, vi p2, vi p3, vi p4, vi p5, vi 4, vr uu, vr nd10, vr q16, vi 1, un] [(.int (own_bd3 (cf 0) (cf 1) (cf 2))), (.int ((own_bf cf (4 - 1)) 2)), (.int 1)] st84 ?_
      clear st84
      refine gb T84 m 169 #[vi p0, vi p1, vi p2, vi p3, vi p4, vi p5, vi 4, vr uu, vr nd10, vr q16, vi 1, un] [(.int ((1 : Int32) &&& (1 : Int32)))] (fun u k => XS.icmpNo X84.here hx rfl (D at_160) rfl (XT.ii_ne_f (own_kb2 _ (by decide))) (XT.iconstV X84.here hx rfl (1 : Int32) (D at_163) (by decide) (XS.goto X84.here hx rfl (pc0 := 164) (pc' := 168) rfl (D at_164) (by decide) (by decide) (XS.iand X84.here hx rfl (D at_168) rfl k)))) ?_
      have rw85 : ((1 : Int32) &&& (1 : Int32)) = (1 : Int32) := by decide
      rw [rw85]
      refine gb T84 m 182 #[vi p0, vi p1, vi p2, vi p3, vi p4, vi p5, vi 4, vr uu, vr nd10, vr q16, vi 1, un] [(.int 3), (.ref q16), (.int 1)] (fun u k => XS.istore X84.here hx rfl (D at_169) rfl (l' := #[vi p0, vi p1, vi p2, vi p3, vi p4, vi p5, vi 4, vr uu, vr nd10, vr q16, vi 1, un]) rfl (XS.iload X84.here hx rfl (D at_171) rfl (XS.iload X84.here hx rfl (D at_173) rfl (XT.iconstV X84.here hx rfl (4 : Int32) (D at_175) (by decide) (XS.icmpNo X84.here hx rfl (D at_176) rfl (XT.ii_lt_f (by decide)) (XS.aload X84.here hx rfl (D at_179) rfl rfl (XT.iconstV X84.here hx rfl (3 : Int32) (D at_181) (by decide) k))))))) ?_
      obtain ⟨cl86, Ar86, aq86, aS86, aM86, aH86, aG86⟩ := id P16_0
      refine gb T84 m 186 #[vi p0, vi p1, vi p2, vi p3, vi p4, vi p5, vi 4, vr uu, vr nd10, vr q16, vi 1, un] [(.int 4), (.ref uu), (.int ((own_bf cf (4 - 1)) 3)), (.int 1)] (fun u k => X84.iaload hx (j := (3 : Int32)) (v := (.int ((own_bf cf (4 - 1)) 3))) (by rw [e84]; exact Ar86.1) (State.isArrayOf_alike hZ.alike Ar86.2.1) Ar86.2.2 (inb_of aS86 (own_ib (i := 3) (by omega) (by omega))) (Has.at aH86 (inb_of aS86 (own_ib (i := 3) (by omega) (by omega))) (own_l_at (j := 3) _ (by omega))) (g := (mkF m 182 #[vi p0, vi p1, vi p2, vi p3, vi p4, vi p5, vi 4, vr uu, vr nd10, vr q16, vi 1, un] [(.int 3), (.ref q16), (.int 1)])) rfl rfl (D at_182) _ (XS.aload X84.here hx rfl (D at_183) rfl rfl (XT.iconstV X84.here hx rfl (4 : Int32) (D at_185) (by decide) k))) ?_
      obtain ⟨_, _, ⟨T87, L87, k87, n87⟩, -, X87, ⟨Lc87, hQ87, l87, y87, z87⟩, st87⟩ := Jvm.LawKit.callS X84 hx (y := mn38) hown (mvT hZ (H 183 rfl)) (mvT hZ (H 184 rfl)) (mvT hZ (H 3 rfl)) (mvT hZ (H 185 rfl)) (by decide) (backOf (W := 2) (own_bor_4 l Z a0 hw [] uu 4 cf ku T16.heap n0 Z16 f80 (by decide) (by decide)) hZ (H 185 rfl) (H 3 rfl) (by decide) (by decide)) (g := (mkF m 186 #[vi p0, vi p1, vi p2, vi p3, vi p4, vi p5, vi 4, vr uu, vr nd10, vr q16, vi 1, un] [(.int 4), (.ref uu), (.int ((own_bf cf (4 - 1)) 3)), (.int 1)])) rfl (by rw [hml]; rfl) (argsL := [(.ref uu), (.int 4)]) (rest := [(.int ((own_bf cf (4 - 1)) 3)), (.int 1)]) (lenOf own_pd34 rfl) rfl (own_w0 rfl) (D at_186) (fun _ _ => ⟨rfl, e84, (by decide : 19 + 0 ≤ _), (by decide : 1113 + 0 ≤ _)⟩)
      dsimp only [Pt.U, Pt.locs, Pt.cells, Pt.slots] at X87 l87 y87 z87 st87 hQ87
      subst l87 y87 z87
      obtain ⟨rfl, N87, e87⟩ := hQ87
      have NA87 := Fr.app NA84 N87
      refine gb T87 m 189 #[vi p0, vi p1, vi p2, vi p3, vi p4, vi p5, vi 4, vr uu, vr nd10, vr q16, vi 1, un] [(.int (own_bd4 (cf 0) (cf 1) (cf 2) (cf 3))), (.int ((own_bf cf (4 - 1)) 3)), (.int 1)] st87 ?_
      clear st87
      refine gb T87 m 198 #[vi p0, vi p1, vi p2, vi p3, vi p4, vi p5, vi 4, vr uu, vr nd10, vr q16, vi 1, un] [(.int ((1 : Int32) &&& (1 : Int32)))] (fun u k => XS.icmpNo X87.here hx rfl (D at_189) rfl (XT.ii_ne_f (own_kb3 _ (by decide))) (XT.iconstV X87.here hx rfl (1 : Int32) (D at_192) (by decide) (XS.goto X87.here hx rfl (pc0 := 193) (pc' := 197) rfl (D at_193) (by decide) (by decide) (XS.iand X87.here hx rfl (D at_197) rfl k)))) ?_
      have rw88 : ((1 : Int32) &&& (1 : Int32)) = (1 : Int32) := by decide
      rw [rw88]
      refine gb T87 m 227 #[vi p0, vi p1, vi p2, vi p3, vi p4, vi p5, vi 4, vr uu, vr nd10, vr q16, vi 1, un] [(.int ((1 : Int32) &&& (1 : Int32)))] (fun u k => XS.istore X87.here hx rfl (D at_198) rfl (l' := #[vi p0, vi p1, vi p2, vi p3, vi p4, vi p5, vi 4, vr uu, vr nd10, vr q16, vi 1, un]) rfl (XS.iload X87.here hx rfl (D at_200) rfl (XS.iload X87.here hx rfl (D at_202) rfl (XT.iconstV X87.here hx rfl (5 : Int32) (D at_204) (by decide) (XS.icmpYes X87.here hx rfl (pc0 := 205) (pc' := 221) rfl (D at_205) rfl (XT.ii_lt_t (by decide)) (by decide) (by decide) (XT.iconstV X87.here hx rfl (1 : Int32) (D at_221) (by decide) (XS.goto X87.here hx rfl (pc0 := 222) (pc' := 226) rfl (D at_222) (by decide) (by decide) (XS.iand X87.here hx rfl (D at_226) rfl k)))))))) ?_
      have rw89 : ((1 : Int32) &&& (1 : Int32)) = (1 : Int32) := by decide
      rw [rw89]
      refine gb T87 m 244 #[vi p0, vi p1, vi p2, vi p3, vi p4, vi p5, vi 4, vr uu, vr nd10, vr q16, vi 1, un] [(.int 4), (.ref uu), (.int 4)] (fun u k => XS.istore X87.here hx rfl (D at_227) rfl (l' := #[vi p0, vi p1, vi p2, vi p3, vi p4, vi p5, vi 4, vr uu, vr nd10, vr q16, vi 1, un]) rfl (XS.iload X87.here hx rfl (D at_229) rfl (XS.ifYes X87.here hx rfl (pc0 := 231) (pc' := 238) rfl (D at_231) rfl (XT.i0_ne_t (by decide)) (by decide) (by decide) (XS.iload X87.here hx rfl (D at_238) rfl (XS.aload X87.here hx rfl (D at_240) rfl rfl (XS.iload X87.here hx rfl (D at_242) rfl k)))))) ?_
      obtain ⟨_, _, ⟨T90, L90, k90, n90⟩, -, X90, ⟨Lc90, hQ90, l90, y90, z90⟩, st90⟩ := Jvm.LawKit.callS X87 hx (y := mn38) hown (mvT hZ (H 183 rfl)) (mvT hZ (H 184 rfl)) (mvT hZ (H 3 rfl)) (mvT hZ (H 185 rfl)) (by decide) (backOf (W := 1) (own_bor_4 l Z a0 hw [] uu 4 cf ku T16.heap n0 Z16 f80 (by decide) (by decide)) hZ (H 185 rfl) (H 3 rfl) (by decide) (by decide)) (g := (mkF m 244 #[vi p0, vi p1, vi p2, vi p3, vi p4, vi p5, vi 4, vr uu, vr nd10, vr q16, vi 1, un] [(.int 4), (.ref uu), (.int 4)])) rfl (by rw [hml]; rfl) (argsL := [(.ref uu), (.int 4)]) (rest := [(.int 4)]) (lenOf own_pd34 rfl) rfl (own_w0 rfl) (D at_244) (fun _ _ => ⟨rfl, e87, (by decide : 19 + 0 ≤ _), (by decide : 1113 + 0 ≤ _)⟩)
      dsimp only [Pt.U, Pt.locs, Pt.cells, Pt.slots] at X90 l90 y90 z90 st90 hQ90
      subst l90 y90 z90
      obtain ⟨rfl, N90, e90⟩ := hQ90
      have NA90 := Fr.app NA87 N90
      refine gb T90 m 247 #[vi p0, vi p1, vi p2, vi p3, vi p4, vi p5, vi 4, vr uu, vr nd10, vr q16, vi 1, un] [(.int (own_bd4 (cf 0) (cf 1) (cf 2) (cf 3))), (.int 4)] st90 ?_
      clear st90
      refine gb T90 m 254 #[vi p0, vi p1, vi p2, vi p3, vi p4, vi p5, vi 4, vr uu, vr nd10, vr q16, vi 1, vi ((4 : Int32) - (own_bd4 (cf 0) (cf 1) (cf 2) (cf 3)))] [(.ref nd10), (.int 1)] (fun u k => XS.isub X90.here hx rfl (D at_247) rfl (XS.istore X90.here hx rfl (D at_248) rfl (l' := #[vi p0, vi p1, vi p2, vi p3, vi p4, vi p5, vi 4, vr uu, vr nd10, vr q16, vi 1, vi ((4 : Int32) - (own_bd4 (cf 0) (cf 1) (cf 2) (cf 3)))]) rfl (XS.iload X90.here hx rfl (D at_250) rfl (XS.aload X90.here hx rfl (D at_252) rfl rfl k)))) ?_
      have f91 := (P10_0.keep Kc16)
      have f92 := (P10_1.keep Kc16 nin0)
      have f93 := (P10_3.keep Kc16 nin0)
      have f94 := (P10_6.keep Kc16 nin0)
      have f95 := (P10_5.keep Kc16 nin0)
      obtain ⟨cq97, kq97, qa97, qb97, qc97⟩ := isOf hZ e90 f91
      obtain ⟨_, _, ⟨T96, L96, k96, n96⟩, -, X96, ⟨Lc96, hQ96, l96, y96, z96⟩, st96⟩ := X90.virtualBack hx (y := mn43) (z := mn43) hown (mvT hZ (H 189 rfl)) (mvT hZ (H 190 rfl)) (notFace_of_selects (args := #[]) (mvT hZ (H 192 rfl))) (mvT hZ (H 192 rfl)) (mvT hZ (H 191 rfl)) (by decide) (backOf (W := 1) (own_per l Z a0 hw [] nd10 bq10 r10 4 cf kq10 kr10 T16.heap n0 Z16 f91 f92 f93 f94 f95 (by decide)) hZ (H 193 rfl) (H 41 rfl) (by decide) (by decide)) qa97 qc97 (g := (mkF m 254 #[vi p0, vi p1, vi p2, vi p3, vi p4, vi p5, vi 4, vr uu, vr nd10, vr q16, vi 1, vi ((4 : Int32) - (own_bd4 (cf 0) (cf 1) (cf 2) (cf 3)))] [(.ref nd10), (.int 1)])) rfl (by rw [hml]; rfl) (Steps.refl _) (argsL := []) (rest := [(.int 1)]) (lenOf own_pd21 rfl) rfl (own_w0 rfl) (D at_254) (fun _ _ => ⟨rfl, e90, (by decide : 19 + 0 ≤ _), (by decide : 1113 + 0 ≤ _)⟩)
      dsimp only [Pt.U, Pt.locs, Pt.cells, Pt.slots] at X96 l96 y96 z96 st96 hQ96
      subst l96 y96 z96
      obtain ⟨rfl, N96, e96⟩ := hQ96
      have NA96 := Fr.app NA90 N96
      refine gb T96 m 257 #[vi p0, vi p1, vi p2, vi p3, vi p4, vi p5, vi 4, vr uu, vr nd10, vr q16, vi 1, vi ((4 : Int32) - (own_bd4 (cf 0) (cf 1) (cf 2) (cf 3)))] [(.int (own_pd 4 cf)), (.int 1)] (fun u k => st96.trans k) ?_
      clear st96
      refine gb T96 m 268 #[vi p0, vi p1, vi p2, vi p3, vi p4, vi p5, vi 4, vr uu, vr nd10, vr q16, vi 1, vi ((4 : Int32) - (own_bd4 (cf 0) (cf 1) (cf 2) (cf 3)))] [(.int ((1 : Int32) &&& (1 : Int32)))] (fun u k => XS.iload X96.here hx rfl (D at_257) rfl (XS.icmpNo X96.here hx rfl (D at_259) rfl (XT.ii_ne_f (own_pd_eq (by decide) rfl (own_kb3 _ (by decide)))) (XT.iconstV X96.here hx rfl (1 : Int32) (D at_262) (by decide) (XS.goto X96.here hx rfl (pc0 := 263) (pc' := 267) rfl (D at_263) (by decide) (by decide) (XS.iand X96.here hx rfl (D at_267) rfl k))))) ?_
      have rw98 : ((1 : Int32) &&& (1 : Int32)) = (1 : Int32) := by decide
      rw [rw98]
      refine gb T96 m 272 #[vi p0, vi p1, vi p2, vi p3, vi p4, vi p5, vi 4, vr uu, vr nd10, vr q16, vi 1, vi ((4 : Int32) - (own_bd4 (cf 0) (cf 1) (cf 2) (cf 3)))] [(.int 1)] (fun u k => XS.istore X96.here hx rfl (D at_268) rfl (l' := #[vi p0, vi p1, vi p2, vi p3, vi p4, vi p5, vi 4, vr uu, vr nd10, vr q16, vi 1, vi ((4 : Int32) - (own_bd4 (cf 0) (cf 1) (cf 2) (cf 3)))]) rfl (XS.iload X96.here hx rfl (D at_270) rfl k)) ?_
      obtain ⟨fs, hr, hrun, hended, hFW⟩ := Jvm.Stand.leaveW (s := s) (vm₁ := s.vm) X96 hS0 (by rw [e96]; exact hk16) (v := some (.int 1)) (fun h => by rw [Bd.returns] at h; cases h)
      refine ⟨_, _, retN X96 hx (t := .boolean) Bd.returns (by simp) (D at_272) hr, hrun, hended, _, _, rfl, ?_, hFW.1, hFW.2.1, hFW.2.2.1, hFW.2.2.2.mono (by decide) (by decide)⟩
      show Q_own_law0 Z p0 p1 p2 p3 p4 p5 gC fm rA kA ra h0 n0 _ T96.heap _
      rw [e96]
      exact ⟨rfl, NA96, K16⟩
    · show Go p e below (own_FW s below (Q_own_law0 Z p0 p1 p2 p3 p4 p5 gC fm rA kA ra h0 n0) 48 3328) (T16.setTop (mkF m 87 #[vi p0, vi p1, vi p2, vi p3, vi p4, vi p5, vi 5, vr uu, vr nd10, vr q16, un, un] []))
      refine gb T16 m 101 #[vi p0, vi p1, vi p2, vi p3, vi p4, vi p5, vi 5, vr uu, vr nd10, vr q16, vi 1, un] [(.int 0), (.ref q16), (.int 1)] (fun u k => XT.iconstV X16.here hx rfl (1 : Int32) (D at_87) (by decide) (XS.istore X16.here hx rfl (D at_88) rfl (l' := #[vi p0, vi p1, vi p2, vi p3, vi p4, vi p5, vi 5, vr uu, vr nd10, vr q16, vi 1, un]) rfl (XS.iload X16.here hx rfl (D at_90) rfl (XS.iload X16.here hx rfl (D at_92) rfl (XT.iconstV X16.here hx rfl (1 : Int32) (D at_94) (by decide) (XS.icmpNo X16.here hx rfl (D at_95) rfl (XT.ii_lt_f (by decide)) (XS.aload X16.here hx rfl (D at_98) rfl rfl (XT.iconstV X16.here hx rfl (0 : Int32) (D at_100) (by decide) k)))))))) ?_
      obtain ⟨cl99, Ar99, aq99, aS99, aM99, aH99, aG99⟩ := id P16_0
      refine gb T16 m 111 #[vi p0, vi p1, vi p2, vi p3, vi p4, vi p5, vi 5, vr uu, vr nd10, vr q16, vi 1, un] [(.int ((1 : Int32) &&& (1 : Int32)))] (fun u k => X16.iaload hx (j := (0 : Int32)) (v := (.int ((own_bf cf (5 - 1)) 0))) Ar99.1 (State.isArrayOf_alike hZ.alike Ar99.2.1) Ar99.2.2 (inb_of aS99 (own_ib (i := 0) (by omega) (by omega))) (Has.at aH99 (inb_of aS99 (own_ib (i := 0) (by omega) (by omega))) (own_l_at (j := 0) _ (by omega))) (g := (mkF m 101 #[vi p0, vi p1, vi p2, vi p3, vi p4, vi p5, vi 5, vr uu, vr nd10, vr q16, vi 1, un] [(.int 0), (.ref q16), (.int 1)])) rfl rfl (D at_101) _ (XS.ifNo X16.here hx rfl (D at_102) rfl (XT.i0_ne_f (own_kb0 _ _)) (XT.iconstV X16.here hx rfl (1 : Int32) (D at_105) (by decide) (XS.goto X16.here hx rfl (pc0 := 106) (pc' := 110) rfl (D at_106) (by decide) (by decide) (XS.iand X16.here hx rfl (D at_110) rfl k))))) ?_
      have rw100 : ((1 : Int32) &&& (1 : Int32)) = (1 : Int32) := by decide
      rw [rw100]
      refine gb T16 m 124 #[vi p0, vi p1, vi p2, vi p3, vi p4, vi p5, vi 5, vr uu, vr nd10, vr q16, vi 1, un] [(.int 1), (.ref q16), (.int 1)] (fun u k => XS.istore X16.here hx rfl (D at_111) rfl (l' := #[vi p0, vi p1, vi p2, vi p3, vi p4, vi p5, vi 5, vr uu, vr nd10, vr q16, vi 1, un]) rfl (XS.iload X16.here hx rfl (D at_113) rfl (XS.iload X16.here hx rfl (D at_115) rfl (XT.iconstV X16.here hx rfl (2 : Int32) (D at_117) (by decide) (XS.icmpNo X16.here hx rfl (D at_118) rfl (XT.ii_lt_f (by decide)) (XS.aload X16.here hx rfl (D at_121) rfl rfl (XT.iconstV X16.here hx rfl (1 : Int32) (D at_123) (by decide) k))))))) ?_
      obtain ⟨cl101, Ar101, aq101, aS101, aM101, aH101, aG101⟩ := id P16_0
      refine gb T16 m 128 #[vi p0, vi p1, vi p2, vi p3, vi p4, vi p5, vi 5, vr uu, vr nd10, vr q16, vi 1, un] [(.int 2), (.ref uu), (.int ((own_bf cf (5 - 1)) 1)), (.int 1)] (fun u k => X16.iaload hx (j := (1 : Int32)) (v := (.int ((own_bf cf (5 - 1)) 1))) Ar101.1 (State.isArrayOf_alike hZ.alike Ar101.2.1) Ar101.2.2 (inb_of aS101 (own_ib (i := 1) (by omega) (by omega))) (Has.at aH101 (inb_of aS101 (own_ib (i := 1) (by omega) (by omega))) (own_l_at (j := 1) _ (by omega))) (g := (mkF m 124 #[vi p0, vi p1, vi p2, vi p3, vi p4, vi p5, vi 5, vr uu, vr nd10, vr q16, vi 1, un] [(.int 1), (.ref q16), (.int 1)])) rfl rfl (D at_124) _ (XS.aload X16.here hx rfl (D at_125) rfl rfl (XT.iconstV X16.here hx rfl (2 : Int32) (D at_127) (by decide) k))) ?_
      have f102 := (f19.keep Kc16 nin0)
      obtain ⟨_, _, ⟨T103, L103, k103, n103⟩, -, X103, ⟨Lc103, hQ103, l103, y103, z103⟩, st103⟩ := Jvm.LawKit.callS X16 hx (y := mn38) hown (mvT hZ (H 183 rfl)) (mvT hZ (H 184 rfl)) (mvT hZ (H 3 rfl)) (mvT hZ (H 185 rfl)) (by decide) (backOf (W := 2) (own_bor_2 l Z a0 hw [] uu 5 cf ku T16.heap n0 Z16 f102 (by decide) (by decide)) hZ (H 185 rfl) (H 3 rfl) (by decide) (by decide)) (g := (mkF m 128 #[vi p0, vi p1, vi p2, vi p3, vi p4, vi p5, vi 5, vr uu, vr nd10, vr q16, vi 1, un] [(.int 2), (.ref uu), (.int ((own_bf cf (5 - 1)) 1)), (.int 1)])) rfl (by rw [hml]; rfl) (argsL := [(.ref uu), (.int 2)]) (rest := [(.int ((own_bf cf (5 - 1)) 1)), (.int 1)]) (lenOf own_pd34 rfl) rfl (own_w0 rfl) (D at_128) (fun _ _ => ⟨rfl, rfl, (by decide : 19 + 0 ≤ _), (by decide : 1113 + 0 ≤ _)⟩)
      dsimp only [Pt.U, Pt.locs, Pt.cells, Pt.slots] at X103 l103 y103 z103 st103 hQ103
      subst l103 y103 z103
      obtain ⟨rfl, N103, e103⟩ := hQ103
      have NA103 := Fr.app NA16 N103
      refine gb T103 m 131 #[vi p0, vi p1, vi p2, vi p3, vi p4, vi p5, vi 5, vr uu, vr nd10, vr q16, vi 1, un] [(.int (own_bd2 (cf 0) (cf 1))), (.int ((own_bf cf (5 - 1)) 1)), (.int 1)] st103 ?_
      clear st103
      refine gb T103 m 140 #[vi p0, vi p1, vi p2, vi p3, vi p4, vi p5, vi 5, vr uu, vr nd10, vr q16, vi 1, un] [(.int ((1 : Int32) &&& (1 : Int32)))] (fun u k => XS.icmpNo X103.here hx rfl (D at_131) rfl (XT.ii_ne_f (own_kb1 _ (by decide))) (XT.iconstV X103.here hx rfl (1 : Int32) (D at_134) (by decide) (XS.goto X103.here hx rfl (pc0 := 135) (pc' := 139) rfl (D at_135) (by decide) (by decide) (XS.iand X103.here hx rfl (D at_139) rfl k)))) ?_
      have rw104 : ((1 : Int32) &&& (1 : Int32)) = (1 : Int32) := by decide
      rw [rw104]
      refine gb T103 m 153 #[vi p0, vi p1, vi p2, vi p3, vi p4, vi p5, vi 5, vr uu, vr nd10, vr q16, vi 1, un] [(.int 2), (.ref q16), (.int 1)] (fun u k => XS.istore X103.here hx rfl (D at_140) rfl (l' := #[vi p0, vi p1, vi p2, vi p3, vi p4, vi p5, vi 5, vr uu, vr nd10, vr q16, vi 1, un]) rfl (XS.iload X103.here hx rfl (D at_142) rfl (XS.iload X103.here hx rfl (D at_144) rfl (XT.iconstV X103.here hx rfl (3 : Int32) (D at_146) (by decide) (XS.icmpNo X103.here hx rfl (D at_147) rfl (XT.ii_lt_f (by decide)) (XS.aload X103.here hx rfl (D at_150) rfl rfl (XT.iconstV X103.here hx rfl (2 : Int32) (D at_152) (by decide) k))))))) ?_
      obtain ⟨cl105, Ar105, aq105, aS105, aM105, aH105, aG105⟩ := id P16_0
      refine gb T103 m 157 #[vi p0, vi p1, vi p2, vi p3, vi p4, vi p5, vi 5, vr uu, vr nd10, vr q16, vi 1, un] [(.int 3), (.ref uu), (.int ((own_bf cf (5 - 1)) 2)), (.int 1)] (fun u k => X103.iaload hx (j := (2 : Int32)) (v := (.int ((own_bf cf (5 - 1)) 2))) (by rw [e103]; exact Ar105.1) (State.isArrayOf_alike hZ.alike Ar105.2.1) Ar105.2.2 (inb_of aS105 (own_ib (i := 2) (by omega) (by omega))) (Has.at aH105 (inb_of aS105 (own_ib (i := 2) (by omega) (by omega))) (own_l_at (j := 2) _ (by omega))) (g := (mkF m 153 #[vi p0, vi p1, vi p2, vi p3, vi p4, vi p5, vi 5, vr uu, vr nd10, vr q16, vi 1, un] [(.int 2), (.ref q16), (.int 1)])) rfl rfl (D at_153) _ (XS.aload X103.here hx rfl (D at_154) rfl rfl (XT.iconstV X103.here hx rfl (3 : Int32) (D at_156) (by decide) k))) ?_
      obtain ⟨_, _, ⟨T106, L106, k106, n106⟩, -, X106, ⟨Lc106, hQ106, l106, y106, z106⟩, st106⟩ := Jvm.LawKit.callS X103 hx (y := mn38) hown (mvT hZ (H 183 rfl)) (mvT hZ (H 184 rfl)) (mvT hZ (H 3 rfl)) (mvT hZ (H 185 rfl)) (by decide) (backOf (W := 2) (own_bor_3 l Z a0 hw [] uu 5 cf ku T16.heap n0 Z16 f102 (by decide) (by decide)) hZ (H 185 rfl) (H 3 rfl) (by decide) (by decide)) (g := (mkF m 157 #[vi p0, vi p1, vi p2, vi p3, vi p4, vi p5, vi 5, vr uu, vr nd10, vr q16, vi 1, un] [(.int 3), (.ref uu), (.int ((own_bf cf (5 - 1)) 2)), (.int 1)])) rfl (by rw [hml]; rfl) (argsL := [(.ref uu), (.int 3)]) (rest := [(.int ((own_bf cf (5 - 1)) 2)), (.int 1)]) (lenOf own_pd34 rfl) rfl (own_w0 rfl) (D at_157) (fun _ _ => ⟨rfl, e103, (by decide : 19 + 0 ≤ _), (by decide : 1113 + 0 ≤ _)⟩)
      dsimp only [Pt.U, Pt.locs, Pt.cells, Pt.slots] at X106 l106 y106 z106 st106 hQ106
      subst l106 y106 z106
      obtain ⟨rfl, N106, e106⟩ := hQ106
      have NA106 := Fr.app NA103 N106
      refine gb T106 m 160 #[vi p0, vi p1, vi p2, vi p3, vi p4, vi p5, vi 5, vr uu, vr nd10, vr q16, vi 1, un] [(.int (own_bd3 (cf 0) (cf 1) (cf 2))), (.int ((own_bf cf (5 - 1)) 2)), (.int 1)] st106 ?_
      clear st106
      refine gb T106 m 169 #[vi p0, vi p1, vi p2, vi p3, vi p4, vi p5, vi 5, vr uu, vr nd10, vr q16, vi 1, un] [(.int ((1 : Int32) &&& (1 : Int32)))] (fun u k => XS.icmpNo X106.here hx rfl (D at_160) rfl (XT.ii_ne_f (own_kb2 _ (by decide))) (XT.iconstV X106.here hx rfl (1 : Int32) (D at_163) (by decide) (XS.goto X106.here hx rfl (pc0 := 164) (pc' := 168) rfl (D at_164) (by decide) (by decide) (XS.iand X106.here hx rfl (D at_168) rfl k)))) ?_
      have rw107 : ((1 : Int32) &&& (1 : Int32)) = (1 : Int32) := by decide
      rw [rw107]
      refine gb T106 m 182 #[vi p0, vi p1, vi p2, vi p3, vi p4, vi p5, vi 5, vr uu, vr nd10, vr q16, vi 1, un] [(.int 3), (.ref q16), (.int 1)] (fun u k => XS.istore X106.here hx rfl (D at_169) rfl (l' := #[vi p0, vi p1, vi p2, vi p3, vi p4, vi p5, vi 5, vr uu, vr nd10, vr q16, vi 1, un]) rfl (XS.iload X106.here hx rfl (D at_171) rfl (XS.iload X106.here hx rfl (D at_173) rfl (XT.iconstV X106.here hx rfl (4 : Int32) (D at_175) (by decide) (XS.icmpNo X106.here hx rfl (D at_176) rfl (XT.ii_lt_f (by decide)) (XS.aload X106.here hx rfl (D at_179) rfl rfl (XT.iconstV X106.here hx rfl (3 : Int32) (D at_181) (by decide) k))))))) ?_
      obtain ⟨cl108, Ar108, aq108, aS108, aM108, aH108, aG108⟩ := id P16_0
      refine gb T106 m 186 #[vi p0, vi p1, vi p2, vi p3, vi p4, vi p5, vi 5, vr uu, vr nd10, vr q16, vi 1, un] [(.int 4), (.ref uu), (.int ((own_bf cf (5 - 1)) 3)), (.int 1)] (fun u k => X106.iaload hx (j := (3 : Int32)) (v := (.int ((own_bf cf (5 - 1)) 3))) (by rw [e106]; exact Ar108.1) (State.isArrayOf_alike hZ.alike Ar108.2.1) Ar108.2.2 (inb_of aS108 (own_ib (i := 3) (by omega) (by omega))) (Has.at aH108 (inb_of aS108 (own_ib (i := 3) (by omega) (by omega))) (own_l_at (j := 3) _ (by omega))) (g := (mkF m 182 #[vi p0, vi p1, vi p2, vi p3, vi p4, vi p5, vi 5, vr uu, vr nd10, vr q16, vi 1, un] [(.int 3), (.ref q16), (.int 1)])) rfl rfl (D at_182) _ (XS.aload X106.here hx rfl (D at_183) rfl rfl (XT.iconstV X106.here hx rfl (4 : Int32) (D at_185) (by decide) k))) ?_
      obtain ⟨_, _, ⟨T109, L109, k109, n109⟩, -, X109, ⟨Lc109, hQ109, l109, y109, z109⟩, st109⟩ := Jvm.LawKit.callS X106 hx (y := mn38) hown (mvT hZ (H 183 rfl)) (mvT hZ (H 184 rfl)) (mvT hZ (H 3 rfl)) (mvT hZ (H 185 rfl)) (by decide) (backOf (W := 2) (own_bor_4 l Z a0 hw [] uu 5 cf ku T16.heap n0 Z16 f102 (by decide) (by decide)) hZ (H 185 rfl) (H 3 rfl) (by decide) (by decide)) (g := (mkF m 186 #[vi p0, vi p1, vi p2, vi p3, vi p4, vi p5, vi 5, vr uu, vr nd10, vr q16, vi 1, un] [(.int 4), (.ref uu), (.int ((own_bf cf (5 - 1)) 3)), (.int 1)])) rfl (by rw [hml]; rfl) (argsL := [(.ref uu), (.int 4)]) (rest := [(.int ((own_bf cf (5 - 1)) 3)), (.int 1)]) (lenOf own_pd34 rfl) rfl (own_w0 rfl) (D at_186) (fun _ _ => ⟨rfl, e106, (by decide : 19 + 0 ≤ _), (by decide : 1113 + 0 ≤ _)⟩)
      dsimp only [Pt.U, Pt.locs, Pt.cells, Pt.slots] at X109 l109 y109 z109 st109 hQ109
      subst l109 y109 z109
      obtain ⟨rfl, N109, e109⟩ := hQ109
      have NA109 := Fr.app NA106 N109
      refine gb T109 m 189 #[vi p0, vi p1, vi p2, vi p3, vi p4, vi p5, vi 5, vr uu, vr nd10, vr q16, vi 1, un] [(.int (own_bd4 (cf 0) (cf 1) (cf 2) (cf 3))), (.int ((own_bf cf (5 - 1)) 3)), (.int 1)] st109 ?_
      clear st109
      refine gb T109 m 198 #[vi p0, vi p1, vi p2, vi p3, vi p4, vi p5, vi 5, vr uu, vr nd10, vr q16, vi 1, un] [(.int ((1 : Int32) &&& (1 : Int32)))] (fun u k => XS.icmpNo X109.here hx rfl (D at_189) rfl (XT.ii_ne_f (own_kb3 _ (by decide))) (XT.iconstV X109.here hx rfl (1 : Int32) (D at_192) (by decide) (XS.goto X109.here hx rfl (pc0 := 193) (pc' := 197) rfl (D at_193) (by decide) (by decide) (XS.iand X109.here hx rfl (D at_197) rfl k)))) ?_
      have rw110 : ((1 : Int32) &&& (1 : Int32)) = (1 : Int32) := by decide
      rw [rw110]
      refine gb T109 m 211 #[vi p0, vi p1, vi p2, vi p3, vi p4, vi p5, vi 5, vr uu, vr nd10, vr q16, vi 1, un] [(.int 4), (.ref q16), (.int 1)] (fun u k => XS.istore X109.here hx rfl (D at_198) rfl (l' := #[vi p0, vi p1, vi p2, vi p3, vi p4, vi p5, vi 5, vr uu, vr nd10, vr q16, vi 1, un]) rfl (XS.iload X109.here hx rfl (D at_200) rfl (XS.iload X109.here hx rfl (D at_202) rfl (XT.iconstV X109.here hx rfl (5 : Int32) (D at_204) (by decide) (XS.icmpNo X109.here hx rfl (D at_205) rfl (XT.ii_lt_f (by decide)) (XS.aload X109.here hx rfl (D at_208) rfl rfl (XT.iconstV X109.here hx rfl (4 : Int32) (D at_210) (by decide) k))))))) ?_
      obtain ⟨cl111, Ar111, aq111, aS111, aM111, aH111, aG111⟩ := id P16_0
      refine gb T109 m 215 #[vi p0, vi p1, vi p2, vi p3, vi p4, vi p5, vi 5, vr uu, vr nd10, vr q16, vi 1, un] [(.int 5), (.ref uu), (.int ((own_bf cf (5 - 1)) 4)), (.int 1)] (fun u k => X109.iaload hx (j := (4 : Int32)) (v := (.int ((own_bf cf (5 - 1)) 4))) (by rw [e109]; exact Ar111.1) (State.isArrayOf_alike hZ.alike Ar111.2.1) Ar111.2.2 (inb_of aS111 (own_ib (i := 4) (by omega) (by omega))) (Has.at aH111 (inb_of aS111 (own_ib (i := 4) (by omega) (by omega))) (own_l_at (j := 4) _ (by omega))) (g := (mkF m 211 #[vi p0, vi p1, vi p2, vi p3, vi p4, vi p5, vi 5, vr uu, vr nd10, vr q16, vi 1, un] [(.int 4), (.ref q16), (.int 1)])) rfl rfl (D at_211) _ (XS.aload X109.here hx rfl (D at_212) rfl rfl (XT.iconstV X109.here hx rfl (5 : Int32) (D at_214) (by decide) k))) ?_
      obtain ⟨_, _, ⟨T112, L112, k112, n112⟩, -, X112, ⟨Lc112, hQ112, l112, y112, z112⟩, st112⟩ := Jvm.LawKit.callS X109 hx (y := mn38) hown (mvT hZ (H 183 rfl)) (mvT hZ (H 184 rfl)) (mvT hZ (H 3 rfl)) (mvT hZ (H 185 rfl)) (by decide) (backOf (W := 2) (own_bor_5 l Z a0 hw [] uu 5 cf ku T16.heap n0 Z16 f102 (by decide) (by decide)) hZ (H 185 rfl) (H 3 rfl) (by decide) (by decide)) (g := (mkF m 215 #[vi p0, vi p1, vi p2, vi p3, vi p4, vi p5, vi 5, vr uu, vr nd10, vr q16, vi 1, un] [(.int 5), (.ref uu), (.int ((own_bf cf (5 - 1)) 4)), (.int 1)])) rfl (by rw [hml]; rfl) (argsL := [(.ref uu), (.int 5)]) (rest := [(.int ((own_bf cf (5 - 1)) 4)), (.int 1)]) (lenOf own_pd34 rfl) rfl (own_w0 rfl) (D at_215) (fun _ _ => ⟨rfl, e109, (by decide : 19 + 0 ≤ _), (by decide : 1113 + 0 ≤ _)⟩)
      dsimp only [Pt.U, Pt.locs, Pt.cells, Pt.slots] at X112 l112 y112 z112 st112 hQ112
      subst l112 y112 z112
      obtain ⟨rfl, N112, e112⟩ := hQ112
      have NA112 := Fr.app NA109 N112
      refine gb T112 m 218 #[vi p0, vi p1, vi p2, vi p3, vi p4, vi p5, vi 5, vr uu, vr nd10, vr q16, vi 1, un] [(.int (own_bd5 (cf 0) (cf 1) (cf 2) (cf 3) (cf 4))), (.int ((own_bf cf (5 - 1)) 4)), (.int 1)] st112 ?_
      clear st112
      refine gb T112 m 227 #[vi p0, vi p1, vi p2, vi p3, vi p4, vi p5, vi 5, vr uu, vr nd10, vr q16, vi 1, un] [(.int ((1 : Int32) &&& (1 : Int32)))] (fun u k => XS.icmpNo X112.here hx rfl (D at_218) rfl (XT.ii_ne_f (own_kb4 _ (by decide))) (XT.iconstV X112.here hx rfl (1 : Int32) (D at_221) (by decide) (XS.goto X112.here hx rfl (pc0 := 222) (pc' := 226) rfl (D at_222) (by decide) (by decide) (XS.iand X112.here hx rfl (D at_226) rfl k)))) ?_
      have rw113 : ((1 : Int32) &&& (1 : Int32)) = (1 : Int32) := by decide
      rw [rw113]
      refine gb T112 m 244 #[vi p0, vi p1, vi p2, vi p3, vi p4, vi p5, vi 5, vr uu, vr nd10, vr q16, vi 1, un] [(.int 5), (.ref uu), (.int 5)] (fun u k => XS.istore X112.here hx rfl (D at_227) rfl (l' := #[vi p0, vi p1, vi p2, vi p3, vi p4, vi p5, vi 5, vr uu, vr nd10, vr q16, vi 1, un]) rfl (XS.iload X112.here hx rfl (D at_229) rfl (XS.ifYes X112.here hx rfl (pc0 := 231) (pc' := 238) rfl (D at_231) rfl (XT.i0_ne_t (by decide)) (by decide) (by decide) (XS.iload X112.here hx rfl (D at_238) rfl (XS.aload X112.here hx rfl (D at_240) rfl rfl (XS.iload X112.here hx rfl (D at_242) rfl k)))))) ?_
      obtain ⟨_, _, ⟨T114, L114, k114, n114⟩, -, X114, ⟨Lc114, hQ114, l114, y114, z114⟩, st114⟩ := Jvm.LawKit.callS X112 hx (y := mn38) hown (mvT hZ (H 183 rfl)) (mvT hZ (H 184 rfl)) (mvT hZ (H 3 rfl)) (mvT hZ (H 185 rfl)) (by decide) (backOf (W := 1) (own_bor_5 l Z a0 hw [] uu 5 cf ku T16.heap n0 Z16 f102 (by decide) (by decide)) hZ (H 185 rfl) (H 3 rfl) (by decide) (by decide)) (g := (mkF m 244 #[vi p0, vi p1, vi p2, vi p3, vi p4, vi p5, vi 5, vr uu, vr nd10, vr q16, vi 1, un] [(.int 5), (.ref uu), (.int 5)])) rfl (by rw [hml]; rfl) (argsL := [(.ref uu), (.int 5)]) (rest := [(.int 5)]) (lenOf own_pd34 rfl) rfl (own_w0 rfl) (D at_244) (fun _ _ => ⟨rfl, e112, (by decide : 19 + 0 ≤ _), (by decide : 1113 + 0 ≤ _)⟩)
      dsimp only [Pt.U, Pt.locs, Pt.cells, Pt.slots] at X114 l114 y114 z114 st114 hQ114
      subst l114 y114 z114
      obtain ⟨rfl, N114, e114⟩ := hQ114
      have NA114 := Fr.app NA112 N114
      refine gb T114 m 247 #[vi p0, vi p1, vi p2, vi p3, vi p4, vi p5, vi 5, vr uu, vr nd10, vr q16, vi 1, un] [(.int (own_bd5 (cf 0) (cf 1) (cf 2) (cf 3) (cf 4))), (.int 5)] st114 ?_
      clear st114
      refine gb T114 m 254 #[vi p0, vi p1, vi p2, vi p3, vi p4, vi p5, vi 5, vr uu, vr nd10, vr q16, vi 1, vi ((5 : Int32) - (own_bd5 (cf 0) (cf 1) (cf 2) (cf 3) (cf 4)))] [(.ref nd10), (.int 1)] (fun u k => XS.isub X114.here hx rfl (D at_247) rfl (XS.istore X114.here hx rfl (D at_248) rfl (l' := #[vi p0, vi p1, vi p2, vi p3, vi p4, vi p5, vi 5, vr uu, vr nd10, vr q16, vi 1, vi ((5 : Int32) - (own_bd5 (cf 0) (cf 1) (cf 2) (cf 3) (cf 4)))]) rfl (XS.iload X114.here hx rfl (D at_250) rfl (XS.aload X114.here hx rfl (D at_252) rfl rfl k)))) ?_
      have f115 := (P10_0.keep Kc16)
      have f116 := (P10_1.keep Kc16 nin0)
      have f117 := (P10_3.keep Kc16 nin0)
      have f118 := (P10_6.keep Kc16 nin0)
      have f119 := (P10_5.keep Kc16 nin0)
      obtain ⟨cq121, kq121, qa121, qb121, qc121⟩ := isOf hZ e114 f115
      obtain ⟨_, _, ⟨T120, L120, k120, n120⟩, -, X120, ⟨Lc120, hQ120, l120, y120, z120⟩, st120⟩ := X114.virtualBack hx (y := mn43) (z := mn43) hown (mvT hZ (H 189 rfl)) (mvT hZ (H 190 rfl)) (notFace_of_selects (args := #[]) (mvT hZ (H 192 rfl))) (mvT hZ (H 192 rfl)) (mvT hZ (H 191 rfl)) (by decide) (backOf (W := 1) (own_per l Z a0 hw [] nd10 bq10 r10 5 cf kq10 kr10 T16.heap n0 Z16 f115 f116 f117 f118 f119 (by decide)) hZ (H 193 rfl) (H 41 rfl) (by decide) (by decide)) qa121 qc121 (g := (mkF m 254 #[vi p0, vi p1, vi p2, vi p3, vi p4, vi p5, vi 5, vr uu, vr nd10, vr q16, vi 1, vi ((5 : Int32) - (own_bd5 (cf 0) (cf 1) (cf 2) (cf 3) (cf 4)))] [(.ref nd10), (.int 1)])) rfl (by rw [hml]; rfl) (Steps.refl _) (argsL := []) (rest := [(.int 1)]) (lenOf own_pd21 rfl) rfl (own_w0 rfl) (D at_254) (fun _ _ => ⟨rfl, e114, (by decide : 19 + 0 ≤ _), (by decide : 1113 + 0 ≤ _)⟩)
      dsimp only [Pt.U, Pt.locs, Pt.cells, Pt.slots] at X120 l120 y120 z120 st120 hQ120
      subst l120 y120 z120
      obtain ⟨rfl, N120, e120⟩ := hQ120
      have NA120 := Fr.app NA114 N120
      refine gb T120 m 257 #[vi p0, vi p1, vi p2, vi p3, vi p4, vi p5, vi 5, vr uu, vr nd10, vr q16, vi 1, vi ((5 : Int32) - (own_bd5 (cf 0) (cf 1) (cf 2) (cf 3) (cf 4)))] [(.int (own_pd 5 cf)), (.int 1)] (fun u k => st120.trans k) ?_
      clear st120
      refine gb T120 m 268 #[vi p0, vi p1, vi p2, vi p3, vi p4, vi p5, vi 5, vr uu, vr nd10, vr q16, vi 1, vi ((5 : Int32) - (own_bd5 (cf 0) (cf 1) (cf 2) (cf 3) (cf 4)))] [(.int ((1 : Int32) &&& (1 : Int32)))] (fun u k => XS.iload X120.here hx rfl (D at_257) rfl (XS.icmpNo X120.here hx rfl (D at_259) rfl (XT.ii_ne_f (own_pd_eq (by decide) rfl (own_kb4 _ (by decide)))) (XT.iconstV X120.here hx rfl (1 : Int32) (D at_262) (by decide) (XS.goto X120.here hx rfl (pc0 := 263) (pc' := 267) rfl (D at_263) (by decide) (by decide) (XS.iand X120.here hx rfl (D at_267) rfl k))))) ?_
      have rw122 : ((1 : Int32) &&& (1 : Int32)) = (1 : Int32) := by decide
      rw [rw122]
      refine gb T120 m 272 #[vi p0, vi p1, vi p2, vi p3, vi p4, vi p5, vi 5, vr uu, vr nd10, vr q16, vi 1, vi ((5 : Int32) - (own_bd5 (cf 0) (cf 1) (cf 2) (cf 3) (cf 4)))] [(.int 1)] (fun u k => XS.istore X120.here hx rfl (D at_268) rfl (l' := #[vi p0, vi p1, vi p2, vi p3, vi p4, vi p5, vi 5, vr uu, vr nd10, vr q16, vi 1, vi ((5 : Int32) - (own_bd5 (cf 0) (cf 1) (cf 2) (cf 3) (cf 4)))]) rfl (XS.iload X120.here hx rfl (D at_270) rfl k)) ?_
      obtain ⟨fs, hr, hrun, hended, hFW⟩ := Jvm.Stand.leaveW (s := s) (vm₁ := s.vm) X120 hS0 (by rw [e120]; exact hk16) (v := some (.int 1)) (fun h => by rw [Bd.returns] at h; cases h)
      refine ⟨_, _, retN X120 hx (t := .boolean) Bd.returns (by simp) (D at_272) hr, hrun, hended, _, _, rfl, ?_, hFW.1, hFW.2.1, hFW.2.2.1, hFW.2.2.2.mono (by decide) (by decide)⟩
      show Q_own_law0 Z p0 p1 p2 p3 p4 p5 gC fm rA kA ra h0 n0 _ T120.heap _
      rw [e120]
      exact ⟨rfl, NA120, K16⟩
  rcases own_mod6 p5 with hs | hs | hs | hs | hs | hs
  · rw [hs]
    obtain ⟨_, _, ⟨T123, L123, k123, n123⟩, -, X123, ⟨Lc123, hQ123, l123, y123, z123⟩, st123⟩ := Jvm.LawKit.callS X5 hx (y := mn37) hown (mvT hZ (H 6 rfl)) (mvT hZ (H 7 rfl)) (mvT hZ (H 3 rfl)) (mvT hZ (H 8 rfl)) (by decide) (backOf (W := 0) (own_pat_0 l Z a0 hw [] rv1 rv2 rv3 rv4 rv5 h0 n0 Z0 P1_0 P2_0 P3_0 P4_0 P5_0) hZ (H 8 rfl) (H 3 rfl) (by decide) (by decide)) (g := (mkF m 33 #[vi p0, vi p1, vi p2, vi p3, vi p4, vi p5, vi 0, un, un, un, un, un] [(.int rv5), (.int rv4), (.int rv3), (.int rv2), (.int rv1), (.int 0)])) rfl (by rw [hml]; rfl) (argsL := [(.int 0), (.int rv1), (.int rv2), (.int rv3), (.int rv4), (.int rv5)]) (rest := []) (lenOf own_pd35 rfl) rfl (own_w0 rfl) (D at_33) (fun _ _ => ⟨rfl, e5, (by decide : 0 + 1 ≤ _), (by decide : 0 + 5 ≤ _)⟩)
    dsimp only [Pt.U, Pt.locs, Pt.cells, Pt.slots] at X123 l123 y123 z123 st123 hQ123
    subst l123 y123 z123
    obtain ⟨r123, kr123, rfl, N123, Kc123, gb_r123, szc_r123, P123_0⟩ := hQ123
    have NA123 := Fr.app NA5 N123
    have Z123 : n0 ≤ T123.heap.size := Nat.le_trans Z0 Kc123.1
    have hk123 := Nat.le_trans hk0 Kc123.1
    have R123 := R0.trans (CHr.keep Kc123 sf0 R0.1)
    have K123 := K0.trans Kc123 all0
    have O123 := Old0.keep Kc123 all0
    have sz_r123 : h0.size ≤ r123 := Nat.le_trans K0.1 szc_r123
    have ne_rA_r123 : rA ≠ r123 := Nat.ne_of_lt (Nat.lt_of_lt_of_le V_rA.lt szc_r123)
    refine gb T123 m 36 #[vi p0, vi p1, vi p2, vi p3, vi p4, vi p5, vi 0, un, un, un, un, un] [(.ref r123)] st123 ?_
    clear st123
    refine gb T123 m 38 #[vi p0, vi p1, vi p2, vi p3, vi p4, vi p5, vi 0, vr r123, un, un, un, un] [] (fun u k => XS.astore X123.here hx rfl (D at_36) rfl rfl (l' := #[vi p0, vi p1, vi p2, vi p3, vi p4, vi p5, vi 0, vr r123, un, un, un, un]) rfl k) ?_
    obtain ⟨T124, h124, X124, e124, E124, A124, D124, -, st124⟩ := newO X123 hx hZ hown (H 10 rfl) (H 11 rfl) (H 12 rfl) rfl (g := (mkF m 38 #[vi p0, vi p1, vi p2, vi p3, vi p4, vi p5, vi 0, vr r123, un, un, un, un] [])) rfl (D at_38) (by decide) (by decide)
    obtain ⟨b124, g124⟩ : ∃ z, z = T123.heap.size := ⟨_, rfl⟩
    rw [← g124] at A124 D124 st124
    have f125 := (V_rA.keep Kc123 nin0)
    have ne_rA_b124 : rA ≠ b124 := Nat.ne_of_lt (Nat.lt_of_lt_of_le f125.lt (Nat.le_of_eq g124.symm))
    have ne_r123_b124 : r123 ≠ b124 := Nat.ne_of_lt (Nat.lt_of_lt_of_le P123_0.lt (Nat.le_of_eq g124.symm))
    have gb124 : n0 ≤ b124 := Nat.le_trans Z123 (Nat.le_of_eq g124.symm)
    have sz124 : h0.size ≤ b124 := Nat.le_trans K123.1 (Nat.le_of_eq g124.symm)
    have Z124 : n0 ≤ h124.size := Nat.le_trans Z123 E124.1
    have K124 := K123.ext E124
    have O124 := O123.ext E124
    have hk124 := Nat.le_trans hk123 E124.1
    have Sf124_b124 := Safe.ext E124 R123.1 (Safe.new (Nat.le_of_eq g124.symm))
    have R124 := R123.trans (CHr.ext E124 R123.1)
    refine gb T124 m 41 #[vi p0, vi p1, vi p2, vi p3, vi p4, vi p5, vi 0, vr r123, un, un, un, un] [(.ref b124)] st124 ?_
    clear st124
    refine gb T124 m 44 #[vi p0, vi p1, vi p2, vi p3, vi p4, vi p5, vi 0, vr r123, un, un, un, un] [(.ref r123), (.ref b124), (.ref b124)] (fun u k => XS.dup X124.here hx rfl (D at_41) rfl rfl (XS.aload X124.here hx rfl (D at_42) rfl rfl k)) ?_
    have f126 := (P123_0.ext E124)
    obtain ⟨_, _, ⟨T127, L127, k127, n127⟩, -, X127, hT127, hg127, ⟨Lc127, hQ127, l127, y127, z127, hC127⟩, st127⟩ := X124.specialBackS hx (y := mn9) rfl hown (mvT hZ (H 13 rfl)) (mvT hZ (H 14 rfl)) (mvT hZ (H 15 rfl)) (by decide) (backOfSH (s := s) (vm0 := s.vm) (W := 1) (own_s1_0 l Z a0 hw [] b124 r123 kr123 h124 n0 Z124 A124 (D124 (Or.inr (H 38 rfl)) (ty := (.array .byte)) (by decide)) (D124 (Or.inr (H 36 rfl)) (ty := .byte) (by decide)) gb124 f126) hZ (H 15 rfl) (H 12 rfl) (by decide) (by decide) hEL R124.1) (g := (mkF m 44 #[vi p0, vi p1, vi p2, vi p3, vi p4, vi p5, vi 0, vr r123, un, un, un, un] [(.ref r123), (.ref b124), (.ref b124)])) rfl (by rw [hml]; rfl) (Steps.refl _) (a := b124) (argsL := [(.ref r123)]) (rest := [(.ref b124)]) (lenOf own_pd30 rfl) rfl (own_w0 rfl) (D at_44) (fun _ _ => ⟨rfl, e124, (by decide : 2 + 4 ≤ _), (by decide : 9 + 8 ≤ _)⟩)
    dsimp only [Pt.U, Pt.locs, Pt.cells, Pt.slots] at X127 l127 y127 z127 st127 hQ127 hT127 hg127 hC127
    subst l127 y127 z127
    obtain ⟨X127, hS127, hZ, hown⟩ := rebS (s := s) (vm0 := s.vm) hS0 (by rw [e124]; exact hk124) X127 hT127 hg127 hZ hown
    have Sf127_b124 := CHr.safe hC127 A124.lt Sf124_b124
    have R127 := R124.trans hC127
    obtain ⟨t127, kb127, rfl, N127, Kc127, P127_0, P127_1, P127_2, P127_3, P127_4⟩ := hQ127
    have NA127 := Fr.app NA123 N127
    have Z127 : n0 ≤ T127.heap.size := Nat.le_trans Z124 Kc127.1
    have K127 := K124.trans Kc127 (allS (Or.inr sz124) all0)
    have O127 := O124.keep Kc127 (allS gb124 all0)
    refine gb T127 m 47 #[vi p0, vi p1, vi p2, vi p3, vi p4, vi p5, vi 0, vr r123, un, un, un, un] [(.ref b124)] (fun u k => st127.trans k) ?_
    clear st127
    have f128 := (f126.keep Kc127 (ninS ne_r123_b124 nin0))
    obtain ⟨cf, VU, hCF⟩ : ∃ cf : Nat → Int32, Arv Z T127.heap r123 kr123 .char (Int32.ofNat 0) (own_l 0 cf) (.int 0) ∧ ∀ j, own_ch (cf j) := ⟨own_cf rv1 rv2 rv3 rv4 rv5, f128, own_hcf P1_0 P2_0 P3_0 P4_0 P5_0⟩
    have f129 := ((f125.ext E124).keep Kc127 (ninS ne_rA_b124 nin0))
    obtain ⟨_, _, ⟨T130, L130, k130, n130⟩, -, X130, ⟨Lc130, hQ130, l130, y130, z130⟩, st130⟩ := Jvm.LawKit.callS X127 hx (y := mn34) hown (mvT hZ (H 39 rfl)) (mvT hZ (H 40 rfl)) (mvT hZ (H 41 rfl)) (mvT hZ (H 42 rfl)) (by decide) (backOf (W := 0) (own_ofC l Z a0 hw [] b124 gC fm 0 cf rA kA ra T127.heap n0 Z127 P127_0 O127 SCS P5 SFM r_fm Sa SHI SLO SRA SUN f129 hRA ⟨t127, kb127, P127_4, P127_1, Or.inl ⟨P127_2, P127_3, fun j hj => absurd hj (by omega)⟩⟩ (by decide) (fun j _ => hCF j)) hZ (H 42 rfl) (H 41 rfl) (by decide) (by decide)) (g := (mkF m 47 #[vi p0, vi p1, vi p2, vi p3, vi p4, vi p5, vi 0, vr r123, un, un, un, un] [(.ref b124)])) rfl (by rw [hml]; rfl) (argsL := [(.ref b124)]) (rest := []) (lenOf own_pd31 rfl) rfl (own_w0 rfl) (D at_47) (fun _ _ => ⟨rfl, rfl, (by decide : 6 + 14 ≤ _), (by decide : 17 + 1084 ≤ _)⟩)
    dsimp only [Pt.U, Pt.locs, Pt.cells, Pt.slots] at X130 l130 y130 z130 st130 hQ130
    subst l130 y130 z130
    obtain ⟨nd130, bq130, r130, kq130, kr130, rfl, N130, Kc130, gb_nd130, szc_nd130, gb_bq130, szc_bq130, gb_r130, szc_r130, P130_0, P130_1, P130_2, P130_3, P130_4, P130_5, P130_6⟩ := hQ130
    have NA130 := Fr.app NA127 N130
    have Z130 : n0 ≤ T130.heap.size := Nat.le_trans Z127 Kc130.1
    have hk130 := Nat.le_trans (Nat.le_refl _) Kc130.1
    have K130 := K127.trans Kc130 all0
    have O130 := O127.keep Kc130 all0
    have sz_nd130 : h0.size ≤ nd130 := Nat.le_trans K127.1 szc_nd130
    have ne_rA_nd130 : rA ≠ nd130 := Nat.ne_of_lt (Nat.lt_of_lt_of_le f129.lt szc_nd130)
    have ne_r123_nd130 : r123 ≠ nd130 := Nat.ne_of_lt (Nat.lt_of_lt_of_le VU.lt szc_nd130)
    have ne_b124_nd130 : b124 ≠ nd130 := Nat.ne_of_lt (Nat.lt_of_lt_of_le P127_0.lt szc_nd130)
    have ne_t127_nd130 : t127 ≠ nd130 := Nat.ne_of_lt (Nat.lt_of_lt_of_le P127_3.lt szc_nd130)
    have sz_bq130 : h0.size ≤ bq130 := Nat.le_trans K127.1 szc_bq130
    have ne_rA_bq130 : rA ≠ bq130 := Nat.ne_of_lt (Nat.lt_of_lt_of_le f129.lt szc_bq130)
    have ne_r123_bq130 : r123 ≠ bq130 := Nat.ne_of_lt (Nat.lt_of_lt_of_le VU.lt szc_bq130)
    have ne_b124_bq130 : b124 ≠ bq130 := Nat.ne_of_lt (Nat.lt_of_lt_of_le P127_0.lt szc_bq130)
    have ne_t127_bq130 : t127 ≠ bq130 := Nat.ne_of_lt (Nat.lt_of_lt_of_le P127_3.lt szc_bq130)
    have sz_r130 : h0.size ≤ r130 := Nat.le_trans K127.1 szc_r130
    have ne_rA_r130 : rA ≠ r130 := Nat.ne_of_lt (Nat.lt_of_lt_of_le f129.lt szc_r130)
    have ne_r123_r130 : r123 ≠ r130 := Nat.ne_of_lt (Nat.lt_of_lt_of_le VU.lt szc_r130)
    have ne_b124_r130 : b124 ≠ r130 := Nat.ne_of_lt (Nat.lt_of_lt_of_le P127_0.lt szc_r130)
    have ne_t127_r130 : t127 ≠ r130 := Nat.ne_of_lt (Nat.lt_of_lt_of_le P127_3.lt szc_r130)
    refine gb T130 m 50 #[vi p0, vi p1, vi p2, vi p3, vi p4, vi p5, vi 0, vr r123, un, un, un, un] [(.ref nd130)] st130 ?_
    clear st130
    refine gb T130 m 55 #[vi p0, vi p1, vi p2, vi p3, vi p4, vi p5, vi 0, vr r123, vr nd130, un, un, un] [(.int 0), (.ref nd130)] (fun u k => XS.astore X130.here hx rfl (D at_50) rfl rfl (l' := #[vi p0, vi p1, vi p2, vi p3, vi p4, vi p5, vi 0, vr r123, vr nd130, un, un, un]) rfl (XS.aload X130.here hx rfl (D at_52) rfl rfl (XT.iconstV X130.here hx rfl (0 : Int32) (D at_54) (by decide) k))) ?_
    obtain ⟨cq132, kq132, qa132, qb132, qc132⟩ := isOf hZ rfl P130_0
    obtain ⟨_, _, ⟨T131, L131, k131, n131⟩, -, X131, ⟨Lc131, hQ131, l131, y131, z131⟩, st131⟩ := X130.virtualBack hx (y := mn44) (z := mn44) hown (mvT hZ (H 159 rfl)) (mvT hZ (H 160 rfl)) (notFace_of_selects (args := #[]) (mvT hZ (H 162 rfl))) (mvT hZ (H 162 rfl)) (mvT hZ (H 161 rfl)) (by decide) (backOf (W := 0) (own_rk l Z a0 hw [] nd130 T130.heap n0 Z130 P130_2) hZ (H 163 rfl) (H 41 rfl) (by decide) (by decide)) qa132 qc132 (g := (mkF m 55 #[vi p0, vi p1, vi p2, vi p3, vi p4, vi p5, vi 0, vr r123, vr nd130, un, un, un] [(.int 0), (.ref nd130)])) rfl (by rw [hml]; rfl) (Steps.refl _) (argsL := [(.int 0)]) (rest := []) (lenOf own_pd32 rfl) rfl (own_w0 rfl) (D at_55) (fun _ _ => ⟨rfl, rfl, (by decide : 20 + 0 ≤ _), (by decide : 1101 + 0 ≤ _)⟩)
    dsimp only [Pt.U, Pt.locs, Pt.cells, Pt.slots] at X131 l131 y131 z131 st131 hQ131
    subst l131 y131 z131
    obtain ⟨rfl, N131, e131⟩ := hQ131
    have NA131 := Fr.app NA130 N131
    refine gb T131 m 58 #[vi p0, vi p1, vi p2, vi p3, vi p4, vi p5, vi 0, vr r123, vr nd130, un, un, un] [] (fun u k => st131.trans k) ?_
    clear st131
    refine gb T131 m 60 #[vi p0, vi p1, vi p2, vi p3, vi p4, vi p5, vi 0, vr r123, vr nd130, un, un, un] [(.ref nd130)] (fun u k => XS.aload X131.here hx rfl (D at_58) rfl rfl k) ?_
    obtain ⟨cq134, kq134, qa134, qb134, qc134⟩ := isOf hZ e131 P130_0
    obtain ⟨_, _, ⟨T133, L133, k133, n133⟩, -, X133, ⟨Lc133, hQ133, l133, y133, z133⟩, st133⟩ := X131.virtualBack hx (y := mn40) (z := mn40) hown (mvT hZ (H 164 rfl)) (mvT hZ (H 165 rfl)) (notFace_of_selects (args := #[]) (mvT hZ (H 167 rfl))) (mvT hZ (H 167 rfl)) (mvT hZ (H 166 rfl)) (by decide) (backOf (W := 0) (own_ndlen l Z a0 hw [] nd130 bq130 0 cf kq130 T130.heap n0 Z130 P130_1 P130_6) hZ (H 168 rfl) (H 41 rfl) (by decide) (by decide)) qa134 qc134 (g := (mkF m 60 #[vi p0, vi p1, vi p2, vi p3, vi p4, vi p5, vi 0, vr r123, vr nd130, un, un, un] [(.ref nd130)])) rfl (by rw [hml]; rfl) (Steps.refl _) (argsL := []) (rest := []) (lenOf own_pd21 rfl) rfl (own_w0 rfl) (D at_60) (fun _ _ => ⟨rfl, e131, (by decide : 20 + 0 ≤ _), (by decide : 1101 + 0 ≤ _)⟩)
    dsimp only [Pt.U, Pt.locs, Pt.cells, Pt.slots] at X133 l133 y133 z133 st133 hQ133
    subst l133 y133 z133
    obtain ⟨rfl, N133, e133⟩ := hQ133
    have NA133 := Fr.app NA131 N133
    refine gb T133 m 63 #[vi p0, vi p1, vi p2, vi p3, vi p4, vi p5, vi 0, vr r123, vr nd130, un, un, un] [(.int (Int32.ofNat 0))] (fun u k => st133.trans k) ?_
    clear st133
    refine gb T133 m 72 #[vi p0, vi p1, vi p2, vi p3, vi p4, vi p5, vi 0, vr r123, vr nd130, un, un, un] [(.ref nd130)] (fun u k => XS.iload X133.here hx rfl (D at_63) rfl (XS.icmpYes X133.here hx rfl (pc0 := 65) (pc' := 70) rfl (D at_65) rfl (XT.ii_eq_t rfl) (by decide) (by decide) (XS.aload X133.here hx rfl (D at_70) rfl rfl k))) ?_
    obtain ⟨cq136, kq136, qa136, qb136, qc136⟩ := isOf hZ e133 P130_0
    obtain ⟨_, _, ⟨T135, L135, k135, n135⟩, -, X135, ⟨Lc135, hQ135, l135, y135, z135⟩, st135⟩ := X133.virtualBack hx (y := mn41) (z := mn41) hown (mvT hZ (H 169 rfl)) (mvT hZ (H 170 rfl)) (notFace_of_selects (args := #[]) (mvT hZ (H 172 rfl))) (mvT hZ (H 172 rfl)) (mvT hZ (H 171 rfl)) (by decide) (backOf (W := 0) (own_bors l Z a0 hw [] nd130 r130 0 cf kr130 T130.heap n0 Z130 P130_3 P130_4 P130_5 (by decide)) hZ (H 173 rfl) (H 41 rfl) (by decide) (by decide)) qa136 qc136 (g := (mkF m 72 #[vi p0, vi p1, vi p2, vi p3, vi p4, vi p5, vi 0, vr r123, vr nd130, un, un, un] [(.ref nd130)])) rfl (by rw [hml]; rfl) (Steps.refl _) (argsL := []) (rest := []) (lenOf own_pd33 rfl) rfl (own_w0 rfl) (D at_72) (fun _ _ => ⟨rfl, e133, (by decide : 20 + 1 ≤ _), (by decide : 1101 + 5 ≤ _)⟩)
    dsimp only [Pt.U, Pt.locs, Pt.cells, Pt.slots] at X135 l135 y135 z135 st135 hQ135
    subst l135 y135 z135
    obtain ⟨q135, kz135, rfl, N135, Kc135, gb_q135, szc_q135, P135_0⟩ := hQ135
    have NA135 := Fr.app NA133 N135
    have Z135 : n0 ≤ T135.heap.size := Nat.le_trans Z130 Kc135.1
    have hk135 := Nat.le_trans hk130 Kc135.1
    have K135 := K130.trans Kc135 all0
    have O135 := O130.keep Kc135 all0
    have sz_q135 : h0.size ≤ q135 := Nat.le_trans K130.1 szc_q135
    have f137 := (f129.keep Kc130 nin0)
    have ne_rA_q135 : rA ≠ q135 := Nat.ne_of_lt (Nat.lt_of_lt_of_le f137.lt szc_q135)
    have f138 := (VU.keep Kc130 nin0)
    have ne_r123_q135 : r123 ≠ q135 := Nat.ne_of_lt (Nat.lt_of_lt_of_le f138.lt szc_q135)
    have f139 := (P127_0.keep Kc130)
    have ne_b124_q135 : b124 ≠ q135 := Nat.ne_of_lt (Nat.lt_of_lt_of_le f139.lt szc_q135)
    have f140 := (P127_3.keep Kc130 nin0)
    have ne_t127_q135 : t127 ≠ q135 := Nat.ne_of_lt (Nat.lt_of_lt_of_le f140.lt szc_q135)
    have ne_nd130_q135 : nd130 ≠ q135 := Nat.ne_of_lt (Nat.lt_of_lt_of_le P130_0.lt szc_q135)
    have ne_bq130_q135 : bq130 ≠ q135 := Nat.ne_of_lt (Nat.lt_of_lt_of_le P130_6.lt szc_q135)
    have ne_r130_q135 : r130 ≠ q135 := Nat.ne_of_lt (Nat.lt_of_lt_of_le P130_4.lt szc_q135)
    refine gb T135 m 75 #[vi p0, vi p1, vi p2, vi p3, vi p4, vi p5, vi 0, vr r123, vr nd130, un, un, un] [(.ref q135)] (fun u k => st135.trans k) ?_
    clear st135
    refine gb T135 m 79 #[vi p0, vi p1, vi p2, vi p3, vi p4, vi p5, vi 0, vr r123, vr nd130, vr q135, un, un] [(.ref q135)] (fun u k => XS.astore X135.here hx rfl (D at_75) rfl rfl (l' := #[vi p0, vi p1, vi p2, vi p3, vi p4, vi p5, vi 0, vr r123, vr nd130, vr q135, un, un]) rfl (XS.aload X135.here hx rfl (D at_77) rfl rfl k)) ?_
    obtain ⟨cl141, Ar141, aq141, aS141, aM141, aH141, aG141⟩ := id P135_0
    refine gb T135 m 80 #[vi p0, vi p1, vi p2, vi p3, vi p4, vi p5, vi 0, vr r123, vr nd130, vr q135, un, un] [(.int cl141.slots.size.toInt32)] (fun u k => X135.arraylength hx Ar141.1 (State.isArrayOf_alike hZ.alike Ar141.2.1) (g := (mkF m 79 #[vi p0, vi p1, vi p2, vi p3, vi p4, vi p5, vi 0, vr r123, vr nd130, vr q135, un, un] [(.ref q135)])) rfl rfl (D at_79) _ k) ?_
    rw [len_of aS141 aM141]
    refine gb T135 m 111 #[vi p0, vi p1, vi p2, vi p3, vi p4, vi p5, vi 0, vr r123, vr nd130, vr q135, vi 1, un] [(.int ((1 : Int32) &&& (1 : Int32)))] (fun u k => XS.iload X135.here hx rfl (D at_80) rfl (XS.icmpYes X135.here hx rfl (pc0 := 82) (pc' := 87) rfl (D at_82) rfl (XT.ii_eq_t rfl) (by decide) (by decide) (XT.iconstV X135.here hx rfl (1 : Int32) (D at_87) (by decide) (XS.istore X135.here hx rfl (D at_88) rfl (l' := #[vi p0, vi p1, vi p2, vi p3, vi p4, vi p5, vi 0, vr r123, vr nd130, vr q135, vi 1, un]) rfl (XS.iload X135.here hx rfl (D at_90) rfl (XS.iload X135.here hx rfl (D at_92) rfl (XT.iconstV X135.here hx rfl (1 : Int32) (D at_94) (by decide) (XS.icmpYes X135.here hx rfl (pc0 := 95) (pc' := 105) rfl (D at_95) rfl (XT.ii_lt_t (by decide)) (by decide) (by decide) (XT.iconstV X135.here hx rfl (1 : Int32) (D at_105) (by decide) (XS.goto X135.here hx rfl (pc0 := 106) (pc' := 110) rfl (D at_106) (by decide) (by decide) (XS.iand X135.here hx rfl (D at_110) rfl k))))))))))) ?_
    have rw142 : ((1 : Int32) &&& (1 : Int32)) = (1 : Int32) := by decide
    rw [rw142]
    refine gb T135 m 140 #[vi p0, vi p1, vi p2, vi p3, vi p4, vi p5, vi 0, vr r123, vr nd130, vr q135, vi 1, un] [(.int ((1 : Int32) &&& (1 : Int32)))] (fun u k => XS.istore X135.here hx rfl (D at_111) rfl (l' := #[vi p0, vi p1, vi p2, vi p3, vi p4, vi p5, vi 0, vr r123, vr nd130, vr q135, vi 1, un]) rfl (XS.iload X135.here hx rfl (D at_113) rfl (XS.iload X135.here hx rfl (D at_115) rfl (XT.iconstV X135.here hx rfl (2 : Int32) (D at_117) (by decide) (XS.icmpYes X135.here hx rfl (pc0 := 118) (pc' := 134) rfl (D at_118) rfl (XT.ii_lt_t (by decide)) (by decide) (by decide) (XT.iconstV X135.here hx rfl (1 : Int32) (D at_134) (by decide) (XS.goto X135.here hx rfl (pc0 := 135) (pc' := 139) rfl (D at_135) (by decide) (by decide) (XS.iand X135.here hx rfl (D at_139) rfl k)))))))) ?_
    have rw143 : ((1 : Int32) &&& (1 : Int32)) = (1 : Int32) := by decide
    rw [rw143]
    refine gb T135 m 169 #[vi p0, vi p1, vi p2, vi p3, vi p4, vi p5, vi 0, vr r123, vr nd130, vr q135, vi 1, un] [(.int ((1 : Int32) &&& (1 : Int32)))] (fun u k => XS.istore X135.here hx rfl (D at_140) rfl (l' := #[vi p0, vi p1, vi p2, vi p3, vi p4, vi p5, vi 0, vr r123, vr nd130, vr q135, vi 1, un]) rfl (XS.iload X135.here hx rfl (D at_142) rfl (XS.iload X135.here hx rfl (D at_144) rfl (XT.iconstV X135.here hx rfl (3 : Int32) (D at_146) (by decide) (XS.icmpYes X135.here hx rfl (pc0 := 147) (pc' := 163) rfl (D at_147) rfl (XT.ii_lt_t (by decide)) (by decide) (by decide) (XT.iconstV X135.here hx rfl (1 : Int32) (D at_163) (by decide) (XS.goto X135.here hx rfl (pc0 := 164) (pc' := 168) rfl (D at_164) (by decide) (by decide) (XS.iand X135.here hx rfl (D at_168) rfl k)))))))) ?_
    have rw144 : ((1 : Int32) &&& (1 : Int32)) = (1 : Int32) := by decide
    rw [rw144]
    refine gb T135 m 198 #[vi p0, vi p1, vi p2, vi p3, vi p4, vi p5, vi 0, vr r123, vr nd130, vr q135, vi 1, un] [(.int ((1 : Int32) &&& (1 : Int32)))] (fun u k => XS.istore X135.here hx rfl (D at_169) rfl (l' := #[vi p0, vi p1, vi p2, vi p3, vi p4, vi p5, vi 0, vr r123, vr nd130, vr q135, vi 1, un]) rfl (XS.iload X135.here hx rfl (D at_171) rfl (XS.iload X135.here hx rfl (D at_173) rfl (XT.iconstV X135.here hx rfl (4 : Int32) (D at_175) (by decide) (XS.icmpYes X135.here hx rfl (pc0 := 176) (pc' := 192) rfl (D at_176) rfl (XT.ii_lt_t (by decide)) (by decide) (by decide) (XT.iconstV X135.here hx rfl (1 : Int32) (D at_192) (by decide) (XS.goto X135.here hx rfl (pc0 := 193) (pc' := 197) rfl (D at_193) (by decide) (by decide) (XS.iand X135.here hx rfl (D at_197) rfl k)))))))) ?_
    have rw145 : ((1 : Int32) &&& (1 : Int32)) = (1 : Int32) := by decide
    rw [rw145]
    refine gb T135 m 227 #[vi p0, vi p1, vi p2, vi p3, vi p4, vi p5, vi 0, vr r123, vr nd130, vr q135, vi 1, un] [(.int ((1 : Int32) &&& (1 : Int32)))] (fun u k => XS.istore X135.here hx rfl (D at_198) rfl (l' := #[vi p0, vi p1, vi p2, vi p3, vi p4, vi p5, vi 0, vr r123, vr nd130, vr q135, vi 1, un]) rfl (XS.iload X135.here hx rfl (D at_200) rfl (XS.iload X135.here hx rfl (D at_202) rfl (XT.iconstV X135.here hx rfl (5 : Int32) (D at_204) (by decide) (XS.icmpYes X135.here hx rfl (pc0 := 205) (pc' := 221) rfl (D at_205) rfl (XT.ii_lt_t (by decide)) (by decide) (by decide) (XT.iconstV X135.here hx rfl (1 : Int32) (D at_221) (by decide) (XS.goto X135.here hx rfl (pc0 := 222) (pc' := 226) rfl (D at_222) (by decide) (by decide) (XS.iand X135.here hx rfl (D at_226) rfl k)))))))) ?_
    have rw146 : ((1 : Int32) &&& (1 : Int32)) = (1 : Int32) := by decide
    rw [rw146]
    refine gb T135 m 254 #[vi p0, vi p1, vi p2, vi p3, vi p4, vi p5, vi 0, vr r123, vr nd130, vr q135, vi 1, vi 0] [(.ref nd130), (.int 1)] (fun u k => XS.istore X135.here hx rfl (D at_227) rfl (l' := #[vi p0, vi p1, vi p2, vi p3, vi p4, vi p5, vi 0, vr r123, vr nd130, vr q135, vi 1, un]) rfl (XS.iload X135.here hx rfl (D at_229) rfl (XS.ifNo X135.here hx rfl (D at_231) rfl (XT.i0_ne_f (by decide)) (XT.iconstV X135.here hx rfl (0 : Int32) (D at_234) (by decide) (XS.goto X135.here hx rfl (pc0 := 235) (pc' := 248) rfl (D at_235) (by decide) (by decide) (XS.istore X135.here hx rfl (D at_248) rfl (l' := #[vi p0, vi p1, vi p2, vi p3, vi p4, vi p5, vi 0, vr r123, vr nd130, vr q135, vi 1, vi 0]) rfl (XS.iload X135.here hx rfl (D at_250) rfl (XS.aload X135.here hx rfl (D at_252) rfl rfl k)))))))) ?_
    have f147 := (P130_0.keep Kc135)
    have f148 := (P130_1.keep Kc135 nin0)
    have f149 := (P130_3.keep Kc135 nin0)
    have f150 := (P130_6.keep Kc135 nin0)
    have f151 := (P130_5.keep Kc135 nin0)
    obtain ⟨cq153, kq153, qa153, qb153, qc153⟩ := isOf hZ rfl f147
    obtain ⟨_, _, ⟨T152, L152, k152, n152⟩, -, X152, ⟨Lc152, hQ152, l152, y152, z152⟩, st152⟩ := X135.virtualBack hx (y := mn43) (z := mn43) hown (mvT hZ (H 189 rfl)) (mvT hZ (H 190 rfl)) (notFace_of_selects (args := #[]) (mvT hZ (H 192 rfl))) (mvT hZ (H 192 rfl)) (mvT hZ (H 191 rfl)) (by decide) (backOf (W := 1) (own_per l Z a0 hw [] nd130 bq130 r130 0 cf kq130 kr130 T135.heap n0 Z135 f147 f148 f149 f150 f151 (by decide)) hZ (H 193 rfl) (H 41 rfl) (by decide) (by decide)) qa153 qc153 (g := (mkF m 254 #[vi p0, vi p1, vi p2, vi p3, vi p4, vi p5, vi 0, vr r123, vr nd130, vr q135, vi 1, vi 0] [(.ref nd130), (.int 1)])) rfl (by rw [hml]; rfl) (Steps.refl _) (argsL := []) (rest := [(.int 1)]) (lenOf own_pd21 rfl) rfl (own_w0 rfl) (D at_254) (fun _ _ => ⟨rfl, rfl, (by decide : 21 + 0 ≤ _), (by decide : 1106 + 0 ≤ _)⟩)
    dsimp only [Pt.U, Pt.locs, Pt.cells, Pt.slots] at X152 l152 y152 z152 st152 hQ152
    subst l152 y152 z152
    obtain ⟨rfl, N152, e152⟩ := hQ152
    have NA152 := Fr.app NA135 N152
    refine gb T152 m 257 #[vi p0, vi p1, vi p2, vi p3, vi p4, vi p5, vi 0, vr r123, vr nd130, vr q135, vi 1, vi 0] [(.int (own_pd 0 cf)), (.int 1)] (fun u k => st152.trans k) ?_
    clear st152
    refine gb T152 m 268 #[vi p0, vi p1, vi p2, vi p3, vi p4, vi p5, vi 0, vr r123, vr nd130, vr q135, vi 1, vi 0] [(.int ((1 : Int32) &&& (1 : Int32)))] (fun u k => XS.iload X152.here hx rfl (D at_257) rfl (XS.icmpNo X152.here hx rfl (D at_259) rfl (XT.ii_ne_f rfl) (XT.iconstV X152.here hx rfl (1 : Int32) (D at_262) (by decide) (XS.goto X152.here hx rfl (pc0 := 263) (pc' := 267) rfl (D at_263) (by decide) (by decide) (XS.iand X152.here hx rfl (D at_267) rfl k))))) ?_
    have rw154 : ((1 : Int32) &&& (1 : Int32)) = (1 : Int32) := by decide
    rw [rw154]
    refine gb T152 m 272 #[vi p0, vi p1, vi p2, vi p3, vi p4, vi p5, vi 0, vr r123, vr nd130, vr q135, vi 1, vi 0] [(.int 1)] (fun u k => XS.istore X152.here hx rfl (D at_268) rfl (l' := #[vi p0, vi p1, vi p2, vi p3, vi p4, vi p5, vi 0, vr r123, vr nd130, vr q135, vi 1, vi 0]) rfl (XS.iload X152.here hx rfl (D at_270) rfl k)) ?_
    obtain ⟨fs, hr, hrun, hended, hFW⟩ := Jvm.Stand.leaveW (s := s) (vm₁ := T127.vm) X152 hS127 (by rw [e152]; exact hk135) (v := some (.int 1)) (fun h => by rw [Bd.returns] at h; cases h)
    refine ⟨_, _, retN X152 hx (t := .boolean) Bd.returns (by simp) (D at_272) hr, hrun, hended, _, _, rfl, ?_, hFW.1, hFW.2.1, hFW.2.2.1, hFW.2.2.2.mono (by decide) (by decide)⟩
    show Q_own_law0 Z p0 p1 p2 p3 p4 p5 gC fm rA kA ra h0 n0 _ T152.heap _
    rw [e152]
    exact ⟨rfl, NA152, K135⟩
  · rw [hs]
    obtain ⟨_, _, ⟨T155, L155, k155, n155⟩, -, X155, ⟨Lc155, hQ155, l155, y155, z155⟩, st155⟩ := Jvm.LawKit.callS X5 hx (y := mn37) hown (mvT hZ (H 6 rfl)) (mvT hZ (H 7 rfl)) (mvT hZ (H 3 rfl)) (mvT hZ (H 8 rfl)) (by decide) (backOf (W := 0) (own_pat_1 l Z a0 hw [] rv1 rv2 rv3 rv4 rv5 h0 n0 Z0 P1_0 P2_0 P3_0 P4_0 P5_0) hZ (H 8 rfl) (H 3 rfl) (by decide) (by decide)) (g := (mkF m 33 #[vi p0, vi p1, vi p2, vi p3, vi p4, vi p5, vi 1, un, un, un, un, un] [(.int rv5), (.int rv4), (.int rv3), (.int rv2), (.int rv1), (.int 1)])) rfl (by rw [hml]; rfl) (argsL := [(.int 1), (.int rv1), (.int rv2), (.int rv3), (.int rv4), (.int rv5)]) (rest := []) (lenOf own_pd35 rfl) rfl (own_w0 rfl) (D at_33) (fun _ _ => ⟨rfl, e5, (by decide : 0 + 1 ≤ _), (by decide : 0 + 5 ≤ _)⟩)
    dsimp only [Pt.U, Pt.locs, Pt.cells, Pt.slots] at X155 l155 y155 z155 st155 hQ155
    subst l155 y155 z155
    obtain ⟨r155, kr155, rfl, N155, Kc155, gb_r155, szc_r155, P155_0⟩ := hQ155
    have NA155 := Fr.app NA5 N155
    have Z155 : n0 ≤ T155.heap.size := Nat.le_trans Z0 Kc155.1
    have hk155 := Nat.le_trans hk0 Kc155.1
    have K155 := K0.trans Kc155 all0
    have O155 := Old0.keep Kc155 all0
    have sz_r155 : h0.size ≤ r155 := Nat.le_trans K0.1 szc_r155
    have ne_rA_r155 : rA ≠ r155 := Nat.ne_of_lt (Nat.lt_of_lt_of_le V_rA.lt szc_r155)
    refine gb T155 m 36 #[vi p0, vi p1, vi p2, vi p3, vi p4, vi p5, vi 1, un, un, un, un, un] [(.ref r155)] st155 ?_
    clear st155
    have f156 := (V_rA.keep Kc155 nin0)
    exact join 1 (own_cf rv1 rv2 rv3 rv4 rv5) r155 kr155 T155 _ (by decide) (by decide) (own_hcf P1_0 P2_0 P3_0 P4_0 P5_0) gb_r155 sz_r155 ne_rA_r155 X155 NA155 Z155 K155 O155 hk155 f156 P155_0
  · rw [hs]
    obtain ⟨_, _, ⟨T157, L157, k157, n157⟩, -, X157, ⟨Lc157, hQ157, l157, y157, z157⟩, st157⟩ := Jvm.LawKit.callS X5 hx (y := mn37) hown (mvT hZ (H 6 rfl)) (mvT hZ (H 7 rfl)) (mvT hZ (H 3 rfl)) (mvT hZ (H 8 rfl)) (by decide) (backOf (W := 0) (own_pat_2 l Z a0 hw [] rv1 rv2 rv3 rv4 rv5 h0 n0 Z0 P1_0 P2_0 P3_0 P4_0 P5_0) hZ (H 8 rfl) (H 3 rfl) (by decide) (by decide)) (g := (mkF m 33 #[vi p0, vi p1, vi p2, vi p3, vi p4, vi p5, vi 2, un, un, un, un, un] [(.int rv5), (.int rv4), (.int rv3), (.int rv2), (.int rv1), (.int 2)])) rfl (by rw [hml]; rfl) (argsL := [(.int 2), (.int rv1), (.int rv2), (.int rv3), (.int rv4), (.int rv5)]) (rest := []) (lenOf own_pd35 rfl) rfl (own_w0 rfl) (D at_33) (fun _ _ => ⟨rfl, e5, (by decide : 0 + 1 ≤ _), (by decide : 0 + 5 ≤ _)⟩)
    dsimp only [Pt.U, Pt.locs, Pt.cells, Pt.slots] at X157 l157 y157 z157 st157 hQ157
    subst l157 y157 z157
    obtain ⟨r157, kr157, rfl, N157, Kc157, gb_r157, szc_r157, P157_0⟩ := hQ157
    have NA157 := Fr.app NA5 N157
    have Z157 : n0 ≤ T157.heap.size := Nat.le_trans Z0 Kc157.1
    have hk157 := Nat.le_trans hk0 Kc157.1
    have K157 := K0.trans Kc157 all0
    have O157 := Old0.keep Kc157 all0
    have sz_r157 : h0.size ≤ r157 := Nat.le_trans K0.1 szc_r157
    have ne_rA_r157 : rA ≠ r157 := Nat.ne_of_lt (Nat.lt_of_lt_of_le V_rA.lt szc_r157)
    refine gb T157 m 36 #[vi p0, vi p1, vi p2, vi p3, vi p4, vi p5, vi 2, un, un, un, un, un] [(.ref r157)] st157 ?_
    clear st157
    have f158 := (V_rA.keep Kc157 nin0)
    exact join 2 (own_cf rv1 rv2 rv3 rv4 rv5) r157 kr157 T157 _ (by decide) (by decide) (own_hcf P1_0 P2_0 P3_0 P4_0 P5_0) gb_r157 sz_r157 ne_rA_r157 X157 NA157 Z157 K157 O157 hk157 f158 P157_0
  · rw [hs]
    obtain ⟨_, _, ⟨T159, L159, k159, n159⟩, -, X159, ⟨Lc159, hQ159, l159, y159, z159⟩, st159⟩ := Jvm.LawKit.callS X5 hx (y := mn37) hown (mvT hZ (H 6 rfl)) (mvT hZ (H 7 rfl)) (mvT hZ (H 3 rfl)) (mvT hZ (H 8 rfl)) (by decide) (backOf (W := 0) (own_pat_3 l Z a0 hw [] rv1 rv2 rv3 rv4 rv5 h0 n0 Z0 P1_0 P2_0 P3_0 P4_0 P5_0) hZ (H 8 rfl) (H 3 rfl) (by decide) (by decide)) (g := (mkF m 33 #[vi p0, vi p1, vi p2, vi p3, vi p4, vi p5, vi 3, un, un, un, un, un] [(.int rv5), (.int rv4), (.int rv3), (.int rv2), (.int rv1), (.int 3)])) rfl (by rw [hml]; rfl) (argsL := [(.int 3), (.int rv1), (.int rv2), (.int rv3), (.int rv4), (.int rv5)]) (rest := []) (lenOf own_pd35 rfl) rfl (own_w0 rfl) (D at_33) (fun _ _ => ⟨rfl, e5, (by decide : 0 + 1 ≤ _), (by decide : 0 + 5 ≤ _)⟩)
    dsimp only [Pt.U, Pt.locs, Pt.cells, Pt.slots] at X159 l159 y159 z159 st159 hQ159
    subst l159 y159 z159
    obtain ⟨r159, kr159, rfl, N159, Kc159, gb_r159, szc_r159, P159_0⟩ := hQ159
    have NA159 := Fr.app NA5 N159
    have Z159 : n0 ≤ T159.heap.size := Nat.le_trans Z0 Kc159.1
    have hk159 := Nat.le_trans hk0 Kc159.1
    have K159 := K0.trans Kc159 all0
    have O159 := Old0.keep Kc159 all0
    have sz_r159 : h0.size ≤ r159 := Nat.le_trans K0.1 szc_r159
    have ne_rA_r159 : rA ≠ r159 := Nat.ne_of_lt (Nat.lt_of_lt_of_le V_rA.lt szc_r159)
    refine gb T159 m 36 #[vi p0, vi p1, vi p2, vi p3, vi p4, vi p5, vi 3, un, un, un, un, un] [(.ref r159)] st159 ?_
    clear st159
    have f160 := (V_rA.keep Kc159 nin0)
    exact join 3 (own_cf rv1 rv2 rv3 rv4 rv5) r159 kr159 T159 _ (by decide) (by decide) (own_hcf P1_0 P2_0 P3_0 P4_0 P5_0) gb_r159 sz_r159 ne_rA_r159 X159 NA159 Z159 K159 O159 hk159 f160 P159_0
  · rw [hs]
    obtain ⟨_, _, ⟨T161, L161, k161, n161⟩, -, X161, ⟨Lc161, hQ161, l161, y161, z161⟩, st161⟩ := Jvm.LawKit.callS X5 hx (y := mn37) hown (mvT hZ (H 6 rfl)) (mvT hZ (H 7 rfl)) (mvT hZ (H 3 rfl)) (mvT hZ (H 8 rfl)) (by decide) (backOf (W := 0) (own_pat_4 l Z a0 hw [] rv1 rv2 rv3 rv4 rv5 h0 n0 Z0 P1_0 P2_0 P3_0 P4_0 P5_0) hZ (H 8 rfl) (H 3 rfl) (by decide) (by decide)) (g := (mkF m 33 #[vi p0, vi p1, vi p2, vi p3, vi p4, vi p5, vi 4, un, un, un, un, un] [(.int rv5), (.int rv4), (.int rv3), (.int rv2), (.int rv1), (.int 4)])) rfl (by rw [hml]; rfl) (argsL := [(.int 4), (.int rv1), (.int rv2), (.int rv3), (.int rv4), (.int rv5)]) (rest := []) (lenOf own_pd35 rfl) rfl (own_w0 rfl) (D at_33) (fun _ _ => ⟨rfl, e5, (by decide : 0 + 1 ≤ _), (by decide : 0 + 5 ≤ _)⟩)
    dsimp only [Pt.U, Pt.locs, Pt.cells, Pt.slots] at X161 l161 y161 z161 st161 hQ161
    subst l161 y161 z161
    obtain ⟨r161, kr161, rfl, N161, Kc161, gb_r161, szc_r161, P161_0⟩ := hQ161
    have NA161 := Fr.app NA5 N161
    have Z161 : n0 ≤ T161.heap.size := Nat.le_trans Z0 Kc161.1
    have hk161 := Nat.le_trans hk0 Kc161.1
    have K161 := K0.trans Kc161 all0
    have O161 := Old0.keep Kc161 all0
    have sz_r161 : h0.size ≤ r161 := Nat.le_trans K0.1 szc_r161
    have ne_rA_r161 : rA ≠ r161 := Nat.ne_of_lt (Nat.lt_of_lt_of_le V_rA.lt szc_r161)
    refine gb T161 m 36 #[vi p0, vi p1, vi p2, vi p3, vi p4, vi p5, vi 4, un, un, un, un, un] [(.ref r161)] st161 ?_
    clear st161
    have f162 := (V_rA.keep Kc161 nin0)
    exact join 4 (own_cf rv1 rv2 rv3 rv4 rv5) r161 kr161 T161 _ (by decide) (by decide) (own_hcf P1_0 P2_0 P3_0 P4_0 P5_0) gb_r161 sz_r161 ne_rA_r161 X161 NA161 Z161 K161 O161 hk161 f162 P161_0
  · rw [hs]
    obtain ⟨_, _, ⟨T163, L163, k163, n163⟩, -, X163, ⟨Lc163, hQ163, l163, y163, z163⟩, st163⟩ := Jvm.LawKit.callS X5 hx (y := mn37) hown (mvT hZ (H 6 rfl)) (mvT hZ (H 7 rfl)) (mvT hZ (H 3 rfl)) (mvT hZ (H 8 rfl)) (by decide) (backOf (W := 0) (own_pat_5 l Z a0 hw [] rv1 rv2 rv3 rv4 rv5 h0 n0 Z0 P1_0 P2_0 P3_0 P4_0 P5_0) hZ (H 8 rfl) (H 3 rfl) (by decide) (by decide)) (g := (mkF m 33 #[vi p0, vi p1, vi p2, vi p3, vi p4, vi p5, vi 5, un, un, un, un, un] [(.int rv5), (.int rv4), (.int rv3), (.int rv2), (.int rv1), (.int 5)])) rfl (by rw [hml]; rfl) (argsL := [(.int 5), (.int rv1), (.int rv2), (.int rv3), (.int rv4), (.int rv5)]) (rest := []) (lenOf own_pd35 rfl) rfl (own_w0 rfl) (D at_33) (fun _ _ => ⟨rfl, e5, (by decide : 0 + 1 ≤ _), (by decide : 0 + 5 ≤ _)⟩)
    dsimp only [Pt.U, Pt.locs, Pt.cells, Pt.slots] at X163 l163 y163 z163 st163 hQ163
    subst l163 y163 z163
    obtain ⟨r163, kr163, rfl, N163, Kc163, gb_r163, szc_r163, P163_0⟩ := hQ163
    have NA163 := Fr.app NA5 N163
    have Z163 : n0 ≤ T163.heap.size := Nat.le_trans Z0 Kc163.1
    have hk163 := Nat.le_trans hk0 Kc163.1
    have K163 := K0.trans Kc163 all0
    have O163 := Old0.keep Kc163 all0
    have sz_r163 : h0.size ≤ r163 := Nat.le_trans K0.1 szc_r163
    have ne_rA_r163 : rA ≠ r163 := Nat.ne_of_lt (Nat.lt_of_lt_of_le V_rA.lt szc_r163)
    refine gb T163 m 36 #[vi p0, vi p1, vi p2, vi p3, vi p4, vi p5, vi 5, un, un, un, un, un] [(.ref r163)] st163 ?_
    clear st163
    have f164 := (V_rA.keep Kc163 nin0)
    exact join 5 (own_cf rv1 rv2 rv3 rv4 rv5) r163 kr163 T163 _ (by decide) (by decide) (own_hcf P1_0 P2_0 P3_0 P4_0 P5_0) gb_r163 sz_r163 ne_rA_r163 X163 NA163 Z163 K163 O163 hk163 f164 P163_0
theorem own_arrEv {args : Array Value} {s : State} {t : Term} {ty : FieldType} (h : (Cond.arrayOf t ty).value args s none s [] = some true) : ∃ a, t.eval args s none [] s = some (.ref a) := by
  simp only [Cond.value] at h
  cases e : t.eval args s none [] s with
  | none => simp [e] at h
  | some v => cases v with
    | ref a => exact ⟨a, rfl⟩
    | _ => simp [e] at h
theorem own_size128 {cl : Cell} (hsz : cl.slots.size < 2 ^ 31) (hsize : cl.slots.size.toInt32 = (128 : Int32)) : cl.slots.size = 128 := by
  have e : (cl.slots.size.toInt32).toInt = cl.slots.size := Int32.toInt_ofNat_of_lt hsz
  rw [hsize] at e
  have : ((128 : Int32)).toInt = 128 := by decide
  omega
theorem own_comes {Post : Tables → Env → Array Value → State → Outcome → State → Prop} (hpost : ∀ tb e args s v u, (limb_1_1.after args s (.returned v) u = true ∧ limb_1_2.after args s (.returned v) u = true ∧ True) → ReturnedEndW s (.returned v) u (Jvm.fieldLocs frame_1_writes args s ++ Jvm.arrayLocs frame_1_arrays args s ++ Jvm.staticLocs frame_1_statics s) 48 3328 → Post tb e args s (.returned v) u) :
    ArmFor flags0 classFile x code maxLocals ret World_1 tables_1 room_1 Calls_1 rest_1 Pre_1 Post := by
  intro l hfl _ _ p e ha hc hk s m args below hf hA hF happ hP
  obtain ⟨hcalls, hrest, hpre⟩ := hP
  obtain ⟨-, -, -, hnamed, -, -, -, hat⟩ := (Spec.applies_iff hf).mp happ
  obtain ⟨hg, hn⟩ := and_e (Cond.before_iff.mp (show (Jvm.Cond.and given_1 narrow_1).before args s = true from hpre))
  obtain ⟨hg1, hg2⟩ := and_e hg
  obtain ⟨hg3, hg4⟩ := and_e hg2
  obtain ⟨hg5, hg6⟩ := and_e hg4
  obtain ⟨hg7, hg8⟩ := and_e hg6
  obtain ⟨hg9, hg10⟩ := and_e hg8
  obtain ⟨hg11, hg12⟩ := and_e hg10
  obtain ⟨w0, w1, w2, w3, w4, w5, rfl⟩ : ∃ w0 w1 w2 w3 w4 w5 : Value, args = #[w0, w1, w2, w3, w4, w5] := by
    have hs : args.size = 6 := by simpa [Cond.value, given_1] using hg1
    obtain ⟨L⟩ := args
    match L, hs with
    | [w0, w1, w2, w3, w4, w5], _ => exact ⟨w0, w1, w2, w3, w4, w5, rfl⟩
  have hw := fun d (hd : d ∈ tables_1) => atoms_spec (ws := Jvm.Cond.code x code maxLocals ret :: tables_1) hat d (List.mem_cons_of_mem _ hd)
  have hfit : Fit s := fun {y c} hc i hi => by
    obtain ⟨ha, rfl⟩ := Array.getElem?_eq_some_iff.mp hc
    have q := List.all_eq_true.mp ((Array.all_eq_true_iff_forall_mem.mp hF) _ (Array.getElem_mem ha)) i (List.mem_range.mpr hi)
    simpa [Array.getElem?_eq_getElem hi] using q
  obtain ⟨hsets, hown0⟩ := atoms_of _ (rest_1_c_eq ▸ (show rest_1_c.before _ s = true from hrest))
  have hr0 := Cond.before_iff.mp hown0
  obtain ⟨i0, ei0⟩ := is_v hg3
  obtain rfl : w0 = (.int i0) := Option.some.inj ei0
  obtain ⟨i1, ei1⟩ := is_v hg5
  obtain rfl : w1 = (.int i1) := Option.some.inj ei1
  obtain ⟨i2, ei2⟩ := is_v hg7
  obtain rfl : w2 = (.int i2) := Option.some.inj ei2
  obtain ⟨i3, ei3⟩ := is_v hg9
  obtain rfl : w3 = (.int i3) := Option.some.inj ei3
  obtain ⟨i4, ei4⟩ := is_v hg11
  obtain rfl : w4 = (.int i4) := Option.some.inj ei4
  obtain ⟨i5, ei5⟩ := is_v hg12
  obtain rfl : w5 = (.int i5) := Option.some.inj ei5
  obtain ⟨gC, egC⟩ := is_v (Cond.before_iff.mp (hsets _ (List.mem_of_getElem? (i := 1) rfl)))
  have XG := Sta.start egC (Or.inl (hsets _ (List.mem_of_getElem? (i := 0) rfl)))
  have XP : ¬ (gC = (0 : Int32)) := gotF (Cond.eq_ints egC (Term.int_eval (0))) (not_v (Cond.before_iff.mp (hsets _ (List.mem_of_getElem? (i := 2) rfl))))
  obtain ⟨fm, efm, hfm⟩ := isR_v (Cond.before_iff.mp (hsets _ (List.mem_of_getElem? (i := 8) rfl)))
  have XFM := Sta.start efm (Or.inl (hsets _ (List.mem_of_getElem? (i := 7) rfl)))
  have XU0 := Sta.start (Cond.eq_int (hsets _ (List.mem_of_getElem? (i := 12) rfl)) rfl) (Or.inl (hsets _ (List.mem_of_getElem? (i := 11) rfl)))
  have XU1 := Sta.start (Cond.eq_int (hsets _ (List.mem_of_getElem? (i := 15) rfl)) rfl) (Or.inl (hsets _ (List.mem_of_getElem? (i := 14) rfl)))
  have XU2 := Sta.start (Cond.eq_int (hsets _ (List.mem_of_getElem? (i := 18) rfl)) rfl) (Or.inl (hsets _ (List.mem_of_getElem? (i := 17) rfl)))
  have hCHv : CHv s own_EL s.vm s.heap := CHv.start (own_hEL hw) (fun q hq => by cases List.mem_singleton.mp hq; exact hcalls.1 ("java/lang/String", 7) (by decide)) (hsets _ (List.mem_of_getElem? (i := 2) rfl)) (own_hw hw 28 rfl) (own_hw hw 11 rfl)
  obtain ⟨ha0, hn0⟩ := and_e hn
  obtain ⟨ha1, hn1⟩ := and_e hn0
  obtain ⟨ha2, hn2⟩ := and_e hn1
  obtain ⟨ha3, hn3⟩ := and_e hn2
  obtain ⟨ha4, hn4⟩ := and_e hn3
  obtain ⟨ha5, hn5⟩ := and_e hn4
  obtain ⟨ha6, hn6⟩ := and_e hn5
  obtain ⟨ha7, hn7⟩ := and_e hn6
  obtain ⟨ha8, hn8⟩ := and_e hn7
  obtain ⟨ha9, hn9⟩ := and_e hn8
  obtain ⟨ha10, hn10⟩ := and_e hn9
  obtain ⟨ha11, hn11⟩ := and_e hn10
  obtain ⟨ha12, hn12⟩ := and_e hn11
  obtain ⟨ha13, hn13⟩ := and_e hn12
  obtain ⟨ha14, hn14⟩ := and_e hn13
  obtain ⟨ha15, hn15⟩ := and_e hn14
  obtain ⟨ha16, hn16⟩ := and_e hn15
  obtain ⟨ha17, hn17⟩ := and_e hn16
  obtain ⟨ha18, hn18⟩ := and_e hn17
  obtain ⟨ha19, hn19⟩ := and_e hn18
  obtain ⟨ha20, hn20⟩ := and_e hn19
  obtain ⟨ha21, hn21⟩ := and_e hn20
  obtain ⟨ha22, hn22⟩ := and_e hn21
  obtain ⟨ha23, hn23⟩ := and_e hn22
  obtain ⟨ha24, hn24⟩ := and_e hn23
  obtain ⟨ha25, hn25⟩ := and_e hn24
  obtain ⟨ha26, hn26⟩ := and_e hn25
  obtain ⟨ha27, hn27⟩ := and_e hn26
  obtain ⟨ha28, hn28⟩ := and_e hn27
  obtain ⟨ha29, hn29⟩ := and_e hn28
  obtain ⟨ha30, hn30⟩ := and_e hn29
  obtain ⟨ha31, hn31⟩ := and_e hn30
  obtain ⟨ha32, hn32⟩ := and_e hn31
  obtain ⟨ha33, hn33⟩ := and_e hn32
  obtain ⟨ha34, hn34⟩ := and_e hn33
  obtain ⟨ha35, hn35⟩ := and_e hn34
  obtain ⟨ha36, hn36⟩ := and_e hn35
  obtain ⟨ha37, hn37⟩ := and_e hn36
  obtain ⟨ha38, hn38⟩ := and_e hn37
  have ha39 := hn38
  obtain ⟨xR, exR⟩ := own_arrEv ha0
  obtain ⟨clR, AR⟩ := Arr.start exR ha0
  obtain ⟨hszR, hsizeR⟩ := IntBox.length_fwd (Cond.before_iff.mpr ha1) exR AR.1 AR.2.1 AR.2.2
  have h128 := own_size128 hszR hsizeR
  have XRS := Sta.start exR (Or.inr ⟨(own_hw hw 41 rfl), (own_hw hw 83 rfl)⟩)
  have XUN := Sta.start (Cond.eq_int (Cond.before_iff.mpr ha2) rfl) (Or.inr ⟨(own_hw hw 41 rfl), (own_hw hw 121 rfl)⟩)
  have R3_ := own_range0 (hi := 9) (v := (28 : Int32)) exR AR h128 (by decide) ha3
  have R4_ := own_single (k := 9) (v := (27 : Int32)) exR AR h128 (by decide) ha4
  have R5_ := own_single (k := 10) (v := (27 : Int32)) exR AR h128 (by decide) ha5
  have R6_ := own_single (k := 11) (v := (28 : Int32)) exR AR h128 (by decide) ha6
  have R7_ := own_single (k := 12) (v := (28 : Int32)) exR AR h128 (by decide) ha7
  have R8_ := own_single (k := 13) (v := (27 : Int32)) exR AR h128 (by decide) ha8
  have R9_ := own_range (lo := 14) (hi := 32) (v := (28 : Int32)) exR AR h128 (by decide) (by decide) ha9
  have R10_ := own_single (k := 32) (v := (0 : Int32)) exR AR h128 (by decide) ha10
  have R11_ := own_range (lo := 33) (hi := 97) (v := (27 : Int32)) exR AR h128 (by decide) (by decide) ha11
  have R12_ := own_single (k := 97) (v := (3 : Int32)) exR AR h128 (by decide) ha12
  have R13_ := own_single (k := 98) (v := (20 : Int32)) exR AR h128 (by decide) ha13
  have R14_ := own_single (k := 99) (v := (12 : Int32)) exR AR h128 (by decide) ha14
  have R15_ := own_single (k := 100) (v := (10 : Int32)) exR AR h128 (by decide) ha15
  have R16_ := own_single (k := 101) (v := (1 : Int32)) exR AR h128 (by decide) ha16
  have R17_ := own_single (k := 102) (v := (16 : Int32)) exR AR h128 (by decide) ha17
  have R18_ := own_single (k := 103) (v := (17 : Int32)) exR AR h128 (by decide) ha18
  have R19_ := own_single (k := 104) (v := (8 : Int32)) exR AR h128 (by decide) ha19
  have R20_ := own_single (k := 105) (v := (5 : Int32)) exR AR h128 (by decide) ha20
  have R21_ := own_single (k := 106) (v := (23 : Int32)) exR AR h128 (by decide) ha21
  have R22_ := own_single (k := 107) (v := (22 : Int32)) exR AR h128 (by decide) ha22
  have R23_ := own_single (k := 108) (v := (11 : Int32)) exR AR h128 (by decide) ha23
  have R24_ := own_single (k := 109) (v := (14 : Int32)) exR AR h128 (by decide) ha24
  have R25_ := own_single (k := 110) (v := (6 : Int32)) exR AR h128 (by decide) ha25
  have R26_ := own_single (k := 111) (v := (4 : Int32)) exR AR h128 (by decide) ha26
  have R27_ := own_single (k := 112) (v := (19 : Int32)) exR AR h128 (by decide) ha27
  have R28_ := own_single (k := 113) (v := (25 : Int32)) exR AR h128 (by decide) ha28
  have R29_ := own_single (k := 114) (v := (9 : Int32)) exR AR h128 (by decide) ha29
  have R30_ := own_single (k := 115) (v := (7 : Int32)) exR AR h128 (by decide) ha30
  have R31_ := own_single (k := 116) (v := (2 : Int32)) exR AR h128 (by decide) ha31
  have R32_ := own_single (k := 117) (v := (13 : Int32)) exR AR h128 (by decide) ha32
  have R33_ := own_single (k := 118) (v := (21 : Int32)) exR AR h128 (by decide) ha33
  have R34_ := own_single (k := 119) (v := (15 : Int32)) exR AR h128 (by decide) ha34
  have R35_ := own_single (k := 120) (v := (24 : Int32)) exR AR h128 (by decide) ha35
  have R36_ := own_single (k := 121) (v := (18 : Int32)) exR AR h128 (by decide) ha36
  have R37_ := own_single (k := 122) (v := (26 : Int32)) exR AR h128 (by decide) ha37
  have R38_ := own_range (lo := 123) (hi := 127) (v := (27 : Int32)) exR AR h128 (by decide) (by decide) ha38
  have R39_ := own_single (k := 127) (v := (28 : Int32)) exR AR h128 (by decide) ha39
  have tab : ∀ j, j < 128 → ∃ z : Int32, clR.slots[j]? = some (.int z) ∧ ¬ z < 0 ∧ ¬ (28 : Int32) < z := by
    intro j hj
    by_cases q9 : j < 9
    · exact ⟨(28 : Int32), R3_ j hj (by omega), by decide, by decide⟩
    by_cases q10 : j < 10
    · exact ⟨(27 : Int32), (by rw [show j = 9 by omega]; exact R4_), by decide, by decide⟩
    by_cases q11 : j < 11
    · exact ⟨(27 : Int32), (by rw [show j = 10 by omega]; exact R5_), by decide, by decide⟩
    by_cases q12 : j < 12
    · exact ⟨(28 : Int32), (by rw [show j = 11 by omega]; exact R6_), by decide, by decide⟩
    by_cases q13 : j < 13
    · exact ⟨(28 : Int32), (by rw [show j = 12 by omega]; exact R7_), by decide, by decide⟩
    by_cases q14 : j < 14
    · exact ⟨(27 : Int32), (by rw [show j = 13 by omega]; exact R8_), by decide, by decide⟩
    by_cases q32 : j < 32
    · exact ⟨(28 : Int32), R9_ j hj (by omega) (by omega), by decide, by decide⟩
    by_cases q33 : j < 33
    · exact ⟨(0 : Int32), (by rw [show j = 32 by omega]; exact R10_), by decide, by decide⟩
    by_cases q97 : j < 97
    · exact ⟨(27 : Int32), R11_ j hj (by omega) (by omega), by decide, by decide⟩
    by_cases q98 : j < 98
    · exact ⟨(3 : Int32), (by rw [show j = 97 by omega]; exact R12_), by decide, by decide⟩
    by_cases q99 : j < 99
    · exact ⟨(20 : Int32), (by rw [show j = 98 by omega]; exact R13_), by decide, by decide⟩
    by_cases q100 : j < 100
    · exact ⟨(12 : Int32), (by rw [show j = 99 by omega]; exact R14_), by decide, by decide⟩
    by_cases q101 : j < 101
    · exact ⟨(10 : Int32), (by rw [show j = 100 by omega]; exact R15_), by decide, by decide⟩
    by_cases q102 : j < 102
    · exact ⟨(1 : Int32), (by rw [show j = 101 by omega]; exact R16_), by decide, by decide⟩
    by_cases q103 : j < 103
    · exact ⟨(16 : Int32), (by rw [show j = 102 by omega]; exact R17_), by decide, by decide⟩
    by_cases q104 : j < 104
    · exact ⟨(17 : Int32), (by rw [show j = 103 by omega]; exact R18_), by decide, by decide⟩
    by_cases q105 : j < 105
    · exact ⟨(8 : Int32), (by rw [show j = 104 by omega]; exact R19_), by decide, by decide⟩
    by_cases q106 : j < 106
    · exact ⟨(5 : Int32), (by rw [show j = 105 by omega]; exact R20_), by decide, by decide⟩
    by_cases q107 : j < 107
    · exact ⟨(23 : Int32), (by rw [show j = 106 by omega]; exact R21_), by decide, by decide⟩
    by_cases q108 : j < 108
    · exact ⟨(22 : Int32), (by rw [show j = 107 by omega]; exact R22_), by decide, by decide⟩
    by_cases q109 : j < 109
    · exact ⟨(11 : Int32), (by rw [show j = 108 by omega]; exact R23_), by decide, by decide⟩
    by_cases q110 : j < 110
    · exact ⟨(14 : Int32), (by rw [show j = 109 by omega]; exact R24_), by decide, by decide⟩
    by_cases q111 : j < 111
    · exact ⟨(6 : Int32), (by rw [show j = 110 by omega]; exact R25_), by decide, by decide⟩
    by_cases q112 : j < 112
    · exact ⟨(4 : Int32), (by rw [show j = 111 by omega]; exact R26_), by decide, by decide⟩
    by_cases q113 : j < 113
    · exact ⟨(19 : Int32), (by rw [show j = 112 by omega]; exact R27_), by decide, by decide⟩
    by_cases q114 : j < 114
    · exact ⟨(25 : Int32), (by rw [show j = 113 by omega]; exact R28_), by decide, by decide⟩
    by_cases q115 : j < 115
    · exact ⟨(9 : Int32), (by rw [show j = 114 by omega]; exact R29_), by decide, by decide⟩
    by_cases q116 : j < 116
    · exact ⟨(7 : Int32), (by rw [show j = 115 by omega]; exact R30_), by decide, by decide⟩
    by_cases q117 : j < 117
    · exact ⟨(2 : Int32), (by rw [show j = 116 by omega]; exact R31_), by decide, by decide⟩
    by_cases q118 : j < 118
    · exact ⟨(13 : Int32), (by rw [show j = 117 by omega]; exact R32_), by decide, by decide⟩
    by_cases q119 : j < 119
    · exact ⟨(21 : Int32), (by rw [show j = 118 by omega]; exact R33_), by decide, by decide⟩
    by_cases q120 : j < 120
    · exact ⟨(15 : Int32), (by rw [show j = 119 by omega]; exact R34_), by decide, by decide⟩
    by_cases q121 : j < 121
    · exact ⟨(24 : Int32), (by rw [show j = 120 by omega]; exact R35_), by decide, by decide⟩
    by_cases q122 : j < 122
    · exact ⟨(18 : Int32), (by rw [show j = 121 by omega]; exact R36_), by decide, by decide⟩
    by_cases q123 : j < 123
    · exact ⟨(26 : Int32), (by rw [show j = 122 by omega]; exact R37_), by decide, by decide⟩
    by_cases q127 : j < 127
    · exact ⟨(27 : Int32), R38_ j hj (by omega) (by omega), by decide, by decide⟩
    by_cases q128 : j < 128
    · exact ⟨(28 : Int32), (by rw [show j = 127 by omega]; exact R39_), by decide, by decide⟩
    exact absurd hj (by omega)
  obtain ⟨XRA, hRA⟩ := own_tab AR h128 tab
  obtain ⟨n, o, h1, h2, h3, _, L, rfl, ⟨rfl, N, -⟩, hq⟩ := own_law0 l s _ hw tables_1 i0 i1 i2 i3 i4 i5 gC fm xR clR.cls clR.slots.toList s.heap s.heap.size (Nat.le_refl _) (Old.start s) XG XP XFM hfm XU0 XU1 XU2 XRS XUN XRA hRA p e ha hc hk s m _ below hf ((Spec.applies_iff_loose hf).mp happ).1 ⟨rfl, State.Warmed39.refl s, rfl, hCHv⟩ trivial
  refine ⟨n, _, h1, h2, h3, hpost _ _ _ _ _ _ ⟨Cond.after_iff.mpr rfl, Cond.after_iff.mpr (eq_i res_at (Term.int_eval (1)) rfl), trivial⟩ ⟨hq.1, hq.2.1, hq.2.2.1, (hq.2.2.2.sift fun y hy => Or.inr (N y hy)).mono (by decide) (by decide)⟩⟩
theorem main_1_1 : Claimed_1_1 := own_comes fun _ _ _ _ _ _ h hF => ⟨h.1, hF⟩
theorem main_1_2 : Claimed_1_2 := own_comes fun _ _ _ _ _ _ h hF => ⟨h.2.1, hF⟩
end Jvm.Pilot.@@N@@
namespace Jvm.Pilot.@@N@@
open Jvm Jvm.ClassFile Sem Op Lib Jvm.Free Jvm.Stand Jvm.Pilot.@@N@@.Jvm.D
/-! MADE BY PROGRAM (witnessworld.py) out of the Statement's table words and the real class files: 27 classes; the members and pool entries that the words name. The judged class is class 1, her method 5. -/
namespace start1
open Jvm.ClassFile
def u (s : String) : CpInfo := .utf8 (stringToUtf16 s)
/-- a pool by its gaps: so many unusable entries, then the entry; so many at the end -/
def gap : Nat → List CpInfo → List CpInfo
  | 0, r => r
  | n + 1, r => .unusable :: gap n r
def poolList (es : List (Nat × CpInfo)) (last : Nat) : List CpInfo := es.foldr (fun e r => gap e.1 (e.2 :: r)) (gap last [])
def pool (es : List (Nat × CpInfo)) (last : Nat) : Array CpInfo := ⟨poolList es last⟩
def fileOf (pool : Array CpInfo) (this : Nat) (attrs : Array Attribute := #[]) (ms : Array MethodInfo := #[]) (fl : Nat := 33) (sup : Nat := 0) (ifs : Array Nat := #[]) (fds : Array FieldInfo := #[]) : ClassFile where
  minorVersion := 0
  majorVersion := 65
  constantPool := pool
  accessFlags := fl
  thisClass := this
  superClass := sup
  interfaces := ifs
  fields := fds
  methods := ms
  attributes := attrs
def plain (name : String) (sup : Option ClassId) : Class where
  name := name
  kind := .ordinary
  loader := none
  accessFlags := 33
  super := sup
  interfaces := #[]
  cf := none
  fields := #[]
  methods := #[]
  instanceTypes := #[]
  staticTypes := #[]
  resolved := #[]
  callSites := []
  init := .initialized
  statics := none
  mirror := none

def pool0 : Array CpInfo := pool [(5, u "<init>"), (0, u "()V"), (1, .class_ 10), (1, u "java/lang/Object"), (85, u "clone"), (0, u "()Ljava/lang/Object;")] 26

def k0c0 : Code := { maxStack := 0, maxLocals := 1, code := object_method_1_code, exceptionTable := #[], attributes := #[] }
def k0m0 : Method := { name := "<init>", desc := "()V", sig := { parameters := [], returnType := none }, accessFlags := 1, code := some k0c0 }
def k0m1 : Method := { name := "clone", desc := "()Ljava/lang/Object;", sig := { parameters := [], returnType := some (.object "java/lang/Object") }, accessFlags := 260, code := none }
/-- java/lang/Object -/
def k0 : Class := { plain "java/lang/Object" none with
  accessFlags := 33
  interfaces := #[]
  cf := some (fileOf pool0 8 #[] #[{ accessFlags := 1, nameIndex := 5, descriptorIndex := 6, attributes := #[] }, { accessFlags := 260, nameIndex := 96, descriptorIndex := 97, attributes := #[] }] 33 0 #[] #[])
  fields := #[]
  methods := #[k0m0, k0m1]
  instanceTypes := #[]
  staticTypes := #[]
  resolved := Array.replicate 124 none
  statics := none }

def pool1 : Array CpInfo := pool [(2, .class_ 4), (1, u "java/lang/Object"), (0, u "<init>"), (0, u "()V"), (0, .integer 65536), (0, .integer 65535), (0, .methodref 10 11), (0, .class_ 12), (0, .nameAndType 13 14), (0, u "backstitch/NeedleOfPinLaw"), (0, u "same"), (0, u "([CII)Z"), (0, .integer 2147483647), (0, .methodref 10 17), (0, .nameAndType 18 19), (0, u "unit"), (0, u "(I)C"), (0, .methodref 10 21), (0, .nameAndType 22 23), (0, u "pattern"), (0, u "(ICCCCC)[C"), (0, .class_ 25), (0, u "java/lang/String"), (0, .methodref 24 27), (0, .nameAndType 5 28), (0, u "([C)V"), (0, .methodref 30 31), (0, .class_ 32), (0, .nameAndType 33 34), (0, u "backstitch/Needle"), (0, u "of"), (0, u "(Ljava/lang/CharSequence;)Lbackstitch/Needle;"), (0, .methodref 30 36), (0, .nameAndType 37 38), (0, u "requireKind"), (0, u "(Z)V"), (0, .methodref 30 40), (0, .nameAndType 41 42), (0, u "length"), (0, u "()I"), (0, .methodref 30 44), (0, .nameAndType 45 46), (0, u "borders"), (0, u "()[I"), (0, .methodref 10 48), (0, .nameAndType 49 50), (0, u "border"), (0, u "([CI)I"), (0, .methodref 30 52), (0, .nameAndType 53 42), (0, u "period"), (3, u "law"), (0, u "(IIIIII)Z")] 6

def k1m0 : Method := { name := "<init>", desc := "()V", sig := { parameters := [], returnType := none }, accessFlags := 1, code := none }
def k1c1 : Code := { maxStack := 3, maxLocals := 1, code := method_2_code, exceptionTable := #[], attributes := #[] }
def k1m1 : Method := { name := "unit", desc := "(I)C", sig := { parameters := [.int], returnType := some .char }, accessFlags := 10, code := some k1c1 }
def k1c2 : Code := { maxStack := 4, maxLocals := 6, code := method_3_code, exceptionTable := #[], attributes := #[] }
def k1m2 : Method := { name := "pattern", desc := "(ICCCCC)[C", sig := { parameters := [.int, .char, .char, .char, .char, .char], returnType := some (.array .char) }, accessFlags := 10, code := some k1c2 }
def k1c3 : Code := { maxStack := 4, maxLocals := 3, code := method_4_code, exceptionTable := #[], attributes := #[] }
def k1m3 : Method := { name := "same", desc := "([CII)Z", sig := { parameters := [(.array .char), .int, .int], returnType := some .boolean }, accessFlags := 10, code := some k1c3 }
def k1c4 : Code := { maxStack := 3, maxLocals := 2, code := method_5_code, exceptionTable := #[], attributes := #[] }
def k1m4 : Method := { name := "border", desc := "([CI)I", sig := { parameters := [(.array .char), .int], returnType := some .int }, accessFlags := 10, code := some k1c4 }
def k1c5 : Code := { maxStack := 6, maxLocals := 12, code := code, exceptionTable := #[], attributes := #[] }
def k1m5 : Method := { name := "law", desc := "(IIIIII)Z", sig := { parameters := [.int, .int, .int, .int, .int, .int], returnType := some .boolean }, accessFlags := 9, code := some k1c5 }
/-- backstitch/NeedleOfPinLaw -/
def k1 : Class := { plain "backstitch/NeedleOfPinLaw" (some 0) with
  accessFlags := 49
  interfaces := #[]
  cf := some (fileOf pool1 10 #[] #[{ accessFlags := 1, nameIndex := 5, descriptorIndex := 6, attributes := #[] }, { accessFlags := 10, nameIndex := 18, descriptorIndex := 19, attributes := #[] }, { accessFlags := 10, nameIndex := 22, descriptorIndex := 23, attributes := #[] }, { accessFlags := 10, nameIndex := 13, descriptorIndex := 14, attributes := #[] }, { accessFlags := 10, nameIndex := 49, descriptorIndex := 50, attributes := #[] }, { accessFlags := 9, nameIndex := 57, descriptorIndex := 58, attributes := #[] }] 49 2 #[] #[])
  fields := #[]
  methods := #[k1m0, k1m1, k1m2, k1m3, k1m4, k1m5]
  instanceTypes := #[]
  staticTypes := #[]
  resolved := Array.replicate 65 none
  statics := none }

def pool2 : Array CpInfo := pool [(1, .class_ 2), (0, u "java/io/Serializable"), (0, .class_ 4), (0, u "java/lang/Object")] 2

/-- java/io/Serializable -/
def k2 : Class := { plain "java/io/Serializable" (some 0) with
  accessFlags := 1537
  interfaces := #[]
  cf := some (fileOf pool2 1 #[] #[] 1537 3 #[] #[])
  fields := #[]
  methods := #[]
  instanceTypes := #[]
  staticTypes := #[]
  resolved := Array.replicate 7 none
  statics := none }

def pool3 : Array CpInfo := pool [(1, .class_ 2), (0, u "java/lang/Comparable"), (0, .class_ 4), (0, u "java/lang/Object")] 7

/-- java/lang/Comparable -/
def k3 : Class := { plain "java/lang/Comparable" (some 0) with
  accessFlags := 1537
  interfaces := #[]
  cf := some (fileOf pool3 1 #[] #[] 1537 3 #[] #[])
  fields := #[]
  methods := #[]
  instanceTypes := #[]
  staticTypes := #[]
  resolved := Array.replicate 12 none
  statics := none }

def pool4 : Array CpInfo := pool [(2, .class_ 4), (1, u "java/lang/CharSequence"), (42, .class_ 48), (0, u "java/lang/CharSequence$1CodePointIterator"), (10, .class_ 60), (0, u "java/lang/CharSequence$1CharIterator"), (5, .class_ 67), (0, u "java/lang/Object"), (10, u "toString"), (0, u "()Ljava/lang/String;")] 51

def k4m0 : Method := { name := "toString", desc := "()Ljava/lang/String;", sig := { parameters := [], returnType := some (.object "java/lang/String") }, accessFlags := 1025, code := none }
/-- java/lang/CharSequence -/
def k4 : Class := { plain "java/lang/CharSequence" (some 0) with
  accessFlags := 1537
  interfaces := #[]
  cf := some (fileOf pool4 2 #[.nestMembers #[47, 59]] #[{ accessFlags := 1025, nameIndex := 78, descriptorIndex := 79, attributes := #[] }] 1537 66 #[] #[])
  fields := #[]
  methods := #[k4m0]
  instanceTypes := #[]
  staticTypes := #[]
  resolved := Array.replicate 131 none
  statics := none }

def pool5 : Array CpInfo := pool [(1, .class_ 2), (0, u "java/lang/constant/Constable"), (0, .class_ 4), (0, u "java/lang/Object")] 6

/-- java/lang/constant/Constable -/
def k5 : Class := { plain "java/lang/constant/Constable" (some 0) with
  accessFlags := 1537
  interfaces := #[]
  cf := some (fileOf pool5 1 #[] #[] 1537 3 #[] #[])
  fields := #[]
  methods := #[]
  instanceTypes := #[]
  staticTypes := #[]
  resolved := Array.replicate 11 none
  statics := none }

def pool6 : Array CpInfo := pool [(1, .class_ 2), (0, u "java/lang/constant/ConstantDesc"), (0, .class_ 4), (0, u "java/lang/Object")] 32

/-- java/lang/constant/ConstantDesc -/
def k6 : Class := { plain "java/lang/constant/ConstantDesc" (some 0) with
  accessFlags := 1537
  interfaces := #[]
  cf := some (fileOf pool6 1 #[] #[] 1537 3 #[] #[])
  fields := #[]
  methods := #[]
  instanceTypes := #[]
  staticTypes := #[]
  resolved := Array.replicate 37 none
  statics := none }

def pool7 : Array CpInfo := pool [(1, .methodref 2 3), (0, .class_ 4), (0, .nameAndType 5 6), (0, u "java/lang/Object"), (0, u "<init>"), (0, u "()V"), (0, .string 8), (0, u ""), (0, .fieldref 10 11), (0, .class_ 12), (0, .nameAndType 13 14), (0, u "java/lang/String"), (0, u "value"), (0, u "[B"), (0, .fieldref 10 16), (0, .nameAndType 17 18), (0, u "coder"), (0, u "B"), (2, u "hash"), (0, u "I"), (2, u "hashIsZero"), (0, u "Z"), (0, .methodref 10 28), (0, .nameAndType 5 29), (0, u "([CIILjava/lang/Void;)V"), (6, u "checkBoundsOffCount"), (0, u "(III)I"), (0, .fieldref 10 39), (0, .nameAndType 40 26), (0, u "COMPACT_STRINGS"), (1, .class_ 44), (1, u "java/lang/StringUTF16"), (0, u "compress"), (1, .methodref 42 48), (0, .nameAndType 49 50), (0, u "coderFromArrayLen"), (0, u "([BI)B"), (56, .class_ 109), (1, u "java/lang/StringLatin1"), (32, u "()Z"), (34, .methodref 42 178), (0, .nameAndType 45 179), (0, u "([CII)[B"), (119, .methodref 107 300), (0, .nameAndType 301 302), (0, u "toChars"), (0, u "([B)[C"), (0, .methodref 42 300), (159, u "toString"), (0, u "()Ljava/lang/String;"), (27, .methodref 10 493), (0, .nameAndType 494 142), (0, u "isLatin1"), (80, .class_ 576), (0, u "java/lang/CharSequence"), (22, u "CASE_INSENSITIVE_ORDER"), (0, u "Ljava/util/Comparator;"), (354, u "toCharArray"), (0, u "()[C"), (53, u "([C)V"), (42, .fieldref 1054 1055), (0, .class_ 1056), (0, .nameAndType 1057 1058), (0, u "jdk/internal/util/Preconditions"), (0, u "SIOOBE_FORMATTER"), (0, u "Ljava/util/function/BiFunction;"), (5, u "(IIILjava/util/function/BiFunction;)I"), (0, .methodref 1054 1066), (0, .nameAndType 1067 1064), (0, u "checkFromIndexSize"), (33, u "serialPersistentFields"), (0, u "[Ljava/io/ObjectStreamField;"), (0, .class_ 1104), (0, u "java/lang/String$CaseInsensitiveComparator"), (1, .class_ 1107), (0, u "java/io/Serializable"), (0, .class_ 1109), (0, u "java/lang/Comparable"), (0, .class_ 1111), (0, u "java/lang/constant/Constable"), (0, .class_ 1113), (0, u "java/lang/constant/ConstantDesc"), (2, u "serialVersionUID"), (0, u "J"), (3, u "REPL"), (0, u "C"), (2, u "LATIN1"), (1, u "UTF16")] 323

def k7m0 : Method := { name := "<init>", desc := "()V", sig := { parameters := [], returnType := none }, accessFlags := 1, code := none }
def k7c1 : Code := { maxStack := 5, maxLocals := 2, code := jdk_42_method_3_code, exceptionTable := #[], attributes := #[] }
def k7m1 : Method := { name := "<init>", desc := "([C)V", sig := { parameters := [(.array .char)], returnType := none }, accessFlags := 1, code := some k7c1 }
def k7c2 : Code := { maxStack := 1, maxLocals := 1, code := jdk_42_method_126_code, exceptionTable := #[], attributes := #[] }
def k7m2 : Method := { name := "toString", desc := "()Ljava/lang/String;", sig := { parameters := [], returnType := some (.object "java/lang/String") }, accessFlags := 1, code := some k7c2 }
def k7c3 : Code := { maxStack := 1, maxLocals := 1, code := jdk_42_method_129_code, exceptionTable := #[], attributes := #[] }
def k7m3 : Method := { name := "toCharArray", desc := "()[C", sig := { parameters := [], returnType := some (.array .char) }, accessFlags := 1, code := some k7c3 }
def k7c4 : Code := { maxStack := 4, maxLocals := 6, code := jdk_42_method_149_code, exceptionTable := #[], attributes := #[] }
def k7m4 : Method := { name := "<init>", desc := "([CIILjava/lang/Void;)V", sig := { parameters := [(.array .char), .int, .int, (.object "java/lang/Void")], returnType := none }, accessFlags := 2, code := some k7c4 }
def k7c5 : Code := { maxStack := 1, maxLocals := 1, code := jdk_42_method_154_code, exceptionTable := #[], attributes := #[] }
def k7m5 : Method := { name := "isLatin1", desc := "()Z", sig := { parameters := [], returnType := some .boolean }, accessFlags := 0, code := some k7c5 }
def k7c6 : Code := { maxStack := 4, maxLocals := 3, code := jdk_42_method_157_code, exceptionTable := #[], attributes := #[] }
def k7m6 : Method := { name := "checkBoundsOffCount", desc := "(III)I", sig := { parameters := [.int, .int, .int], returnType := some .int }, accessFlags := 8, code := some k7c6 }
/-- java/lang/String -/
def k7 : Class := { plain "java/lang/String" (some 0) with
  accessFlags := 49
  interfaces := #[2, 3, 4, 5, 6]
  cf := some (fileOf pool7 10 #[.nestMembers #[1103]] #[{ accessFlags := 1, nameIndex := 5, descriptorIndex := 6, attributes := #[] }, { accessFlags := 1, nameIndex := 5, descriptorIndex := 1010, attributes := #[] }, { accessFlags := 1, nameIndex := 463, descriptorIndex := 464, attributes := #[] }, { accessFlags := 1, nameIndex := 955, descriptorIndex := 956, attributes := #[] }, { accessFlags := 2, nameIndex := 5, descriptorIndex := 29, attributes := #[] }, { accessFlags := 0, nameIndex := 494, descriptorIndex := 142, attributes := #[] }, { accessFlags := 8, nameIndex := 36, descriptorIndex := 37, attributes := #[] }] 49 2 #[1106, 1108, 575, 1110, 1112] #[{ accessFlags := 18, nameIndex := 13, descriptorIndex := 14, attributes := #[] }, { accessFlags := 18, nameIndex := 17, descriptorIndex := 18, attributes := #[] }, { accessFlags := 2, nameIndex := 21, descriptorIndex := 22, attributes := #[] }, { accessFlags := 2, nameIndex := 25, descriptorIndex := 26, attributes := #[] }, { accessFlags := 26, nameIndex := 1116, descriptorIndex := 1117, attributes := #[] }, { accessFlags := 24, nameIndex := 40, descriptorIndex := 26, attributes := #[] }, { accessFlags := 26, nameIndex := 1101, descriptorIndex := 1102, attributes := #[] }, { accessFlags := 26, nameIndex := 1121, descriptorIndex := 1122, attributes := #[] }, { accessFlags := 25, nameIndex := 599, descriptorIndex := 600, attributes := #[] }, { accessFlags := 24, nameIndex := 1125, descriptorIndex := 18, attributes := #[] }, { accessFlags := 24, nameIndex := 1127, descriptorIndex := 18, attributes := #[] }])
  fields := #[{ name := "value", type := (.array .byte), accessFlags := 18, slot := 0, constantValue := 0 }, { name := "coder", type := .byte, accessFlags := 18, slot := 1, constantValue := 0 }, { name := "hash", type := .int, accessFlags := 2, slot := 2, constantValue := 0 }, { name := "hashIsZero", type := .boolean, accessFlags := 2, slot := 3, constantValue := 0 }, { name := "serialVersionUID", type := .long, accessFlags := 26, slot := 0, constantValue := 0 }, { name := "COMPACT_STRINGS", type := .boolean, accessFlags := 24, slot := 1, constantValue := 0 }, { name := "serialPersistentFields", type := (.array (.object "java/io/ObjectStreamField")), accessFlags := 26, slot := 2, constantValue := 0 }, { name := "REPL", type := .char, accessFlags := 26, slot := 3, constantValue := 0 }, { name := "CASE_INSENSITIVE_ORDER", type := (.object "java/util/Comparator"), accessFlags := 25, slot := 4, constantValue := 0 }, { name := "LATIN1", type := .byte, accessFlags := 24, slot := 5, constantValue := 0 }, { name := "UTF16", type := .byte, accessFlags := 24, slot := 6, constantValue := 0 }]
  methods := #[k7m0, k7m1, k7m2, k7m3, k7m4, k7m5, k7m6]
  instanceTypes := #[(.array .byte), .byte, .int, .boolean]
  staticTypes := #[.long, .boolean, (.array (.object "java/io/ObjectStreamField")), .char, (.object "java/util/Comparator"), .byte, .byte]
  resolved := Array.replicate 1451 none
  statics := some 0 }

def pool8 : Array CpInfo := pool [(3, .class_ 4), (0, u "java/lang/String"), (1, .class_ 8), (1, u "java/lang/Object"), (0, u "<init>"), (0, u "()V"), (0, .methodref 12 13), (0, .class_ 14), (0, .nameAndType 15 16), (0, u "java/lang/StringUTF16"), (0, u "newBytesLength"), (0, u "(I)I"), (3, .integer 1073741823), (23, .fieldref 12 45), (0, .nameAndType 46 47), (0, u "$assertionsDisabled"), (0, u "Z"), (0, .methodref 12 49), (0, .nameAndType 50 51), (0, u "length"), (0, u "([B)I"), (7, .fieldref 12 60), (0, .nameAndType 61 62), (0, u "HI_BYTE_SHIFT"), (0, u "I"), (0, .fieldref 12 64), (0, .nameAndType 65 62), (0, u "LO_BYTE_SHIFT"), (5, .methodref 12 72), (0, .nameAndType 73 74), (0, u "getChar"), (0, u "([BI)C"), (24, u "(II[B)V"), (3, .methodref 12 104), (0, .nameAndType 105 106), (0, u "getChars"), (0, u "([BII[CI)V"), (0, .methodref 12 108), (0, .nameAndType 109 110), (0, u "newBytesFor"), (0, u "(I)[B"), (0, .methodref 12 112), (0, .nameAndType 113 114), (0, u "putChar"), (0, u "([BII)V"), (0, .methodref 12 116), (0, .nameAndType 117 118), (0, u "compress"), (0, u "([CI[BII)I"), (0, .methodref 12 120), (0, .nameAndType 121 122), (0, u "toBytes"), (0, u "([CII)[B"), (50, .methodref 12 174), (0, .nameAndType 175 99), (0, u "checkBoundsOffCount"), (85, u "coderFromArrayLen"), (0, u "([BI)B"), (18, u "(III)I"), (60, u "toChars"), (26, .class_ 371), (1, u "java/lang/StringUTF16$LinesSpliterator"), (47, .methodref 3 420), (0, .nameAndType 175 281), (9, u "MAX_LENGTH"), (23, u "([B)[C"), (172, .class_ 628), (0, u "java/lang/StringUTF16$CodePointsSpliterator"), (0, .class_ 630), (0, u "java/lang/StringUTF16$CharsSpliterator")] 4

def k8m0 : Method := { name := "<init>", desc := "()V", sig := { parameters := [], returnType := none }, accessFlags := 0, code := none }
def k8c1 : Code := { maxStack := 1, maxLocals := 1, code := jdk_52_method_2_code, exceptionTable := #[], attributes := #[] }
def k8m1 : Method := { name := "newBytesFor", desc := "(I)[B", sig := { parameters := [.int], returnType := some (.array .byte) }, accessFlags := 9, code := some k8c1 }
def k8c2 : Code := { maxStack := 4, maxLocals := 1, code := jdk_52_method_3_code, exceptionTable := #[], attributes := #[] }
def k8m2 : Method := { name := "newBytesLength", desc := "(I)I", sig := { parameters := [.int], returnType := some .int }, accessFlags := 9, code := some k8c2 }
def k8c3 : Code := { maxStack := 4, maxLocals := 3, code := jdk_52_method_4_code, exceptionTable := #[], attributes := #[] }
def k8m3 : Method := { name := "putChar", desc := "([BII)V", sig := { parameters := [(.array .byte), .int, .int], returnType := none }, accessFlags := 8, code := some k8c3 }
def k8c4 : Code := { maxStack := 3, maxLocals := 2, code := jdk_52_method_5_code, exceptionTable := #[], attributes := #[] }
def k8m4 : Method := { name := "getChar", desc := "([BI)C", sig := { parameters := [(.array .byte), .int], returnType := some .char }, accessFlags := 8, code := some k8c4 }
def k8c5 : Code := { maxStack := 2, maxLocals := 1, code := jdk_52_method_6_code, exceptionTable := #[], attributes := #[] }
def k8m5 : Method := { name := "length", desc := "([B)I", sig := { parameters := [(.array .byte)], returnType := some .int }, accessFlags := 9, code := some k8c5 }
def k8c6 : Code := { maxStack := 5, maxLocals := 2, code := jdk_52_method_13_code, exceptionTable := #[], attributes := #[] }
def k8m6 : Method := { name := "toChars", desc := "([B)[C", sig := { parameters := [(.array .byte)], returnType := some (.array .char) }, accessFlags := 9, code := some k8c6 }
def k8c7 : Code := { maxStack := 4, maxLocals := 5, code := jdk_52_method_14_code, exceptionTable := #[], attributes := #[] }
def k8m7 : Method := { name := "toBytes", desc := "([CII)[B", sig := { parameters := [(.array .char), .int, .int], returnType := some (.array .byte) }, accessFlags := 9, code := some k8c7 }
def k8c8 : Code := { maxStack := 2, maxLocals := 2, code := jdk_52_method_15_code, exceptionTable := #[], attributes := #[] }
def k8m8 : Method := { name := "coderFromArrayLen", desc := "([BI)B", sig := { parameters := [(.array .byte), .int], returnType := some .byte }, accessFlags := 8, code := some k8c8 }
def k8c9 : Code := { maxStack := 5, maxLocals := 6, code := jdk_52_method_16_code, exceptionTable := #[], attributes := #[] }
def k8m9 : Method := { name := "compress", desc := "([CII)[B", sig := { parameters := [(.array .char), .int, .int], returnType := some (.array .byte) }, accessFlags := 9, code := some k8c9 }
def k8c10 : Code := { maxStack := 3, maxLocals := 7, code := jdk_52_method_21_code, exceptionTable := #[], attributes := #[] }
def k8m10 : Method := { name := "compress", desc := "([CI[BII)I", sig := { parameters := [(.array .char), .int, (.array .byte), .int, .int], returnType := some .int }, accessFlags := 9, code := some k8c10 }
def k8c11 : Code := { maxStack := 4, maxLocals := 6, code := jdk_52_method_26_code, exceptionTable := #[], attributes := #[] }
def k8m11 : Method := { name := "getChars", desc := "([BII[CI)V", sig := { parameters := [(.array .byte), .int, .int, (.array .char), .int], returnType := none }, accessFlags := 9, code := some k8c11 }
def k8c12 : Code := { maxStack := 3, maxLocals := 3, code := jdk_52_method_94_code, exceptionTable := #[], attributes := #[] }
def k8m12 : Method := { name := "checkBoundsOffCount", desc := "(II[B)V", sig := { parameters := [.int, .int, (.array .byte)], returnType := none }, accessFlags := 9, code := some k8c12 }
/-- java/lang/StringUTF16 -/
def k8 : Class := { plain "java/lang/StringUTF16" (some 0) with
  accessFlags := 48
  interfaces := #[]
  cf := some (fileOf pool8 12 #[.nestMembers #[627, 629, 369]] #[{ accessFlags := 0, nameIndex := 9, descriptorIndex := 10, attributes := #[] }, { accessFlags := 9, nameIndex := 109, descriptorIndex := 110, attributes := #[] }, { accessFlags := 9, nameIndex := 15, descriptorIndex := 16, attributes := #[] }, { accessFlags := 8, nameIndex := 113, descriptorIndex := 114, attributes := #[] }, { accessFlags := 8, nameIndex := 73, descriptorIndex := 74, attributes := #[] }, { accessFlags := 9, nameIndex := 50, descriptorIndex := 51, attributes := #[] }, { accessFlags := 9, nameIndex := 342, descriptorIndex := 454, attributes := #[] }, { accessFlags := 9, nameIndex := 121, descriptorIndex := 122, attributes := #[] }, { accessFlags := 8, nameIndex := 261, descriptorIndex := 262, attributes := #[] }, { accessFlags := 9, nameIndex := 117, descriptorIndex := 122, attributes := #[] }, { accessFlags := 9, nameIndex := 117, descriptorIndex := 118, attributes := #[] }, { accessFlags := 9, nameIndex := 105, descriptorIndex := 106, attributes := #[] }, { accessFlags := 9, nameIndex := 175, descriptorIndex := 99, attributes := #[] }] 48 6 #[] #[{ accessFlags := 26, nameIndex := 61, descriptorIndex := 62, attributes := #[] }, { accessFlags := 26, nameIndex := 65, descriptorIndex := 62, attributes := #[] }, { accessFlags := 24, nameIndex := 430, descriptorIndex := 62, attributes := #[] }, { accessFlags := 4120, nameIndex := 46, descriptorIndex := 47, attributes := #[] }])
  fields := #[{ name := "HI_BYTE_SHIFT", type := .int, accessFlags := 26, slot := 0, constantValue := 0 }, { name := "LO_BYTE_SHIFT", type := .int, accessFlags := 26, slot := 1, constantValue := 0 }, { name := "MAX_LENGTH", type := .int, accessFlags := 24, slot := 2, constantValue := 0 }, { name := "$assertionsDisabled", type := .boolean, accessFlags := 4120, slot := 3, constantValue := 0 }]
  methods := #[k8m0, k8m1, k8m2, k8m3, k8m4, k8m5, k8m6, k8m7, k8m8, k8m9, k8m10, k8m11, k8m12]
  instanceTypes := #[]
  staticTypes := #[.int, .int, .int, .boolean]
  resolved := Array.replicate 635 none
  statics := some 1 }

def pool9 : Array CpInfo := pool [(1, .methodref 2 3), (0, .class_ 4), (0, .nameAndType 5 6), (0, u "java/lang/Object"), (0, u "<init>"), (0, u "()V"), (0, .fieldref 8 9), (0, .class_ 10), (0, .nameAndType 11 12), (0, u "backstitch/Needle"), (0, u "units"), (0, u "[C"), (0, .fieldref 8 14), (0, .nameAndType 15 16), (0, u "ofBytes"), (0, u "Z"), (0, .methodref 8 18), (0, .nameAndType 19 20), (0, u "rarity"), (0, u "(C)I"), (0, .methodref 8 22), (0, .nameAndType 23 24), (0, u "anchorAt"), (0, u "(I)Lbackstitch/Needle$Anchor;"), (0, .fieldref 8 26), (0, .nameAndType 27 28), (0, u "anchor"), (0, u "Lbackstitch/Needle$Anchor;"), (0, .methodref 8 30), (0, .nameAndType 31 32), (0, u "listCandidates"), (0, u "()[Lbackstitch/Needle$Anchor;"), (0, .fieldref 8 34), (0, .nameAndType 35 36), (0, u "candidates"), (0, u "[Lbackstitch/Needle$Anchor;"), (2, .methodref 40 41), (0, .class_ 42), (0, .nameAndType 43 44), (0, u "java/lang/Math"), (0, u "min"), (0, u "(II)I"), (0, .fieldref 8 46), (0, .nameAndType 47 48), (0, u "headLength"), (0, u "I"), (2, .fieldref 8 52), (0, .nameAndType 53 54), (0, u "head"), (0, u "J"), (0, .long 18446744073709551615), (1, .fieldref 8 58), (0, .nameAndType 59 54), (0, u "headMask"), (0, .fieldref 8 61), (0, .nameAndType 62 63), (0, u "borders"), (0, u "[I"), (0, .class_ 65), (0, u "backstitch/Needle$Tally"), (0, .methodref 64 3), (0, .methodref 8 68), (0, .nameAndType 69 70), (0, u "advance"), (0, u "(ICLbackstitch/Needle$Tally;)I"), (0, .methodref 8 72), (0, .nameAndType 73 20), (0, u "begin"), (0, .methodref 40 75), (0, .nameAndType 76 44), (0, u "max"), (0, .fieldref 64 78), (0, .nameAndType 79 54), (0, u "extra"), (0, .fieldref 8 81), (0, .nameAndType 82 54), (0, u "tableComparisons"), (0, .fieldref 8 84), (0, .nameAndType 85 16), (0, u "firstOnce"), (0, .interfaceMethodref 87 88), (0, .class_ 89), (0, .nameAndType 90 91), (0, u "java/lang/CharSequence"), (0, u "toString"), (0, u "()Ljava/lang/String;"), (0, .methodref 93 94), (0, .class_ 95), (0, .nameAndType 96 97), (0, u "java/lang/String"), (0, u "toCharArray"), (0, u "()[C"), (0, .methodref 8 99), (0, .nameAndType 5 100), (0, u "([CZ)V"), (6, u "length"), (0, u "()I"), (58, .methodref 168 169), (0, .class_ 63), (0, .nameAndType 170 171), (0, u "clone"), (0, u "()Ljava/lang/Object;"), (0, .methodref 8 173), (0, .nameAndType 174 108), (0, u "lastBorder"), (23, u "()[I"), (6, u "requireKind"), (0, u "(Z)V"), (9, .methodref 217 218), (0, .class_ 219), (0, .nameAndType 220 221), (0, u "backstitch/Needle$Anchor"), (0, u "unit"), (0, u "()C"), (0, .fieldref 8 223), (0, .nameAndType 224 48), (0, u "UNORDINARY"), (2, .integer 65536), (0, .methodref 217 229), (0, .nameAndType 230 108), (0, u "index"), (0, .long 72340172838076673), (1, .methodref 217 234), (0, .nameAndType 5 235), (0, u "(ICJI)V"), (0, .fieldref 8 237), (0, .nameAndType 238 239), (0, u "ASCII_RARITY"), (0, u "[B"), (30, u "EIGHT_BYTES"), (0, u "Ljava/lang/invoke/VarHandle;"), (13, .class_ 287), (1, u "backstitch/Needle$Skipped"), (43, u "EVERY_BYTE_LOW"), (1, u "EVERY_BYTE_HIGH"), (0, u "COMMONEST_FIRST"), (0, u "Ljava/lang/String;"), (0, u "COMMON_ONE_IN"), (5, u "of"), (0, u "(Ljava/lang/CharSequence;)Lbackstitch/Needle;"), (13, u "period")] 60

def k9c0 : Code := { maxStack := 6, maxLocals := 13, code := prog_8_method_1_code, exceptionTable := #[], attributes := #[] }
def k9m0 : Method := { name := "<init>", desc := "([CZ)V", sig := { parameters := [(.array .char), .boolean], returnType := none }, accessFlags := 2, code := some k9c0 }
def k9c1 : Code := { maxStack := 4, maxLocals := 1, code := prog_8_method_2_code, exceptionTable := #[], attributes := #[] }
def k9m1 : Method := { name := "of", desc := "(Ljava/lang/CharSequence;)Lbackstitch/Needle;", sig := { parameters := [(.object "java/lang/CharSequence")], returnType := some (.object "backstitch/Needle") }, accessFlags := 9, code := some k9c1 }
def k9c2 : Code := { maxStack := 1, maxLocals := 1, code := prog_8_method_17_code, exceptionTable := #[], attributes := #[] }
def k9m2 : Method := { name := "borders", desc := "()[I", sig := { parameters := [], returnType := some (.array .int) }, accessFlags := 1, code := some k9c2 }
def k9c3 : Code := { maxStack := 2, maxLocals := 1, code := prog_8_method_18_code, exceptionTable := #[], attributes := #[] }
def k9m3 : Method := { name := "period", desc := "()I", sig := { parameters := [], returnType := some .int }, accessFlags := 1, code := some k9c3 }
def k9c4 : Code := { maxStack := 3, maxLocals := 2, code := prog_8_method_22_code, exceptionTable := #[], attributes := #[] }
def k9m4 : Method := { name := "requireKind", desc := "(Z)V", sig := { parameters := [.boolean], returnType := none }, accessFlags := 0, code := some k9c4 }
def k9c5 : Code := { maxStack := 1, maxLocals := 1, code := prog_8_method_23_code, exceptionTable := #[], attributes := #[] }
def k9m5 : Method := { name := "length", desc := "()I", sig := { parameters := [], returnType := some .int }, accessFlags := 0, code := some k9c5 }
def k9c6 : Code := { maxStack := 3, maxLocals := 1, code := prog_8_method_24_code, exceptionTable := #[], attributes := #[] }
def k9m6 : Method := { name := "lastBorder", desc := "()I", sig := { parameters := [], returnType := some .int }, accessFlags := 0, code := some k9c6 }
def k9c7 : Code := { maxStack := 6, maxLocals := 10, code := prog_8_method_29_code, exceptionTable := #[], attributes := #[] }
def k9m7 : Method := { name := "listCandidates", desc := "()[Lbackstitch/Needle$Anchor;", sig := { parameters := [], returnType := some (.array (.object "backstitch/Needle$Anchor")) }, accessFlags := 2, code := some k9c7 }
def k9c8 : Code := { maxStack := 8, maxLocals := 3, code := prog_8_method_30_code, exceptionTable := #[], attributes := #[] }
def k9m8 : Method := { name := "anchorAt", desc := "(I)Lbackstitch/Needle$Anchor;", sig := { parameters := [.int], returnType := some (.object "backstitch/Needle$Anchor") }, accessFlags := 2, code := some k9c8 }
def k9c9 : Code := { maxStack := 2, maxLocals := 1, code := prog_8_method_31_code, exceptionTable := #[], attributes := #[] }
def k9m9 : Method := { name := "rarity", desc := "(C)I", sig := { parameters := [.char], returnType := some .int }, accessFlags := 10, code := some k9c9 }
def k9c10 : Code := { maxStack := 5, maxLocals := 4, code := prog_8_method_34_code, exceptionTable := #[], attributes := #[] }
def k9m10 : Method := { name := "advance", desc := "(ICLbackstitch/Needle$Tally;)I", sig := { parameters := [.int, .char, (.object "backstitch/Needle$Tally")], returnType := some .int }, accessFlags := 0, code := some k9c10 }
def k9c11 : Code := { maxStack := 2, maxLocals := 2, code := prog_8_method_35_code, exceptionTable := #[], attributes := #[] }
def k9m11 : Method := { name := "begin", desc := "(C)I", sig := { parameters := [.char], returnType := some .int }, accessFlags := 0, code := some k9c11 }
/-- backstitch/Needle -/
def k9 : Class := { plain "backstitch/Needle" (some 0) with
  accessFlags := 49
  interfaces := #[]
  cf := some (fileOf pool9 8 #[.nestMembers #[285, 64, 217]] #[{ accessFlags := 2, nameIndex := 5, descriptorIndex := 100, attributes := #[] }, { accessFlags := 9, nameIndex := 342, descriptorIndex := 343, attributes := #[] }, { accessFlags := 1, nameIndex := 62, descriptorIndex := 198, attributes := #[] }, { accessFlags := 1, nameIndex := 357, descriptorIndex := 108, attributes := #[] }, { accessFlags := 0, nameIndex := 205, descriptorIndex := 206, attributes := #[] }, { accessFlags := 0, nameIndex := 107, descriptorIndex := 108, attributes := #[] }, { accessFlags := 0, nameIndex := 174, descriptorIndex := 108, attributes := #[] }, { accessFlags := 2, nameIndex := 31, descriptorIndex := 32, attributes := #[] }, { accessFlags := 2, nameIndex := 23, descriptorIndex := 24, attributes := #[] }, { accessFlags := 10, nameIndex := 19, descriptorIndex := 20, attributes := #[] }, { accessFlags := 0, nameIndex := 69, descriptorIndex := 70, attributes := #[] }, { accessFlags := 0, nameIndex := 73, descriptorIndex := 20, attributes := #[] }] 49 2 #[] #[{ accessFlags := 26, nameIndex := 270, descriptorIndex := 271, attributes := #[] }, { accessFlags := 26, nameIndex := 331, descriptorIndex := 54, attributes := #[] }, { accessFlags := 26, nameIndex := 333, descriptorIndex := 54, attributes := #[] }, { accessFlags := 26, nameIndex := 334, descriptorIndex := 335, attributes := #[] }, { accessFlags := 26, nameIndex := 224, descriptorIndex := 48, attributes := #[] }, { accessFlags := 26, nameIndex := 238, descriptorIndex := 239, attributes := #[] }, { accessFlags := 24, nameIndex := 336, descriptorIndex := 48, attributes := #[] }, { accessFlags := 18, nameIndex := 11, descriptorIndex := 12, attributes := #[] }, { accessFlags := 18, nameIndex := 15, descriptorIndex := 16, attributes := #[] }, { accessFlags := 18, nameIndex := 62, descriptorIndex := 63, attributes := #[] }, { accessFlags := 18, nameIndex := 82, descriptorIndex := 54, attributes := #[] }, { accessFlags := 18, nameIndex := 27, descriptorIndex := 28, attributes := #[] }, { accessFlags := 18, nameIndex := 35, descriptorIndex := 36, attributes := #[] }, { accessFlags := 18, nameIndex := 47, descriptorIndex := 48, attributes := #[] }, { accessFlags := 18, nameIndex := 53, descriptorIndex := 54, attributes := #[] }, { accessFlags := 18, nameIndex := 59, descriptorIndex := 54, attributes := #[] }, { accessFlags := 18, nameIndex := 85, descriptorIndex := 16, attributes := #[] }])
  fields := #[{ name := "EIGHT_BYTES", type := (.object "java/lang/invoke/VarHandle"), accessFlags := 26, slot := 0, constantValue := 0 }, { name := "EVERY_BYTE_LOW", type := .long, accessFlags := 26, slot := 1, constantValue := 0 }, { name := "EVERY_BYTE_HIGH", type := .long, accessFlags := 26, slot := 2, constantValue := 0 }, { name := "COMMONEST_FIRST", type := (.object "java/lang/String"), accessFlags := 26, slot := 3, constantValue := 0 }, { name := "UNORDINARY", type := .int, accessFlags := 26, slot := 4, constantValue := 0 }, { name := "ASCII_RARITY", type := (.array .byte), accessFlags := 26, slot := 5, constantValue := 0 }, { name := "COMMON_ONE_IN", type := .int, accessFlags := 24, slot := 6, constantValue := 0 }, { name := "units", type := (.array .char), accessFlags := 18, slot := 0, constantValue := 0 }, { name := "ofBytes", type := .boolean, accessFlags := 18, slot := 1, constantValue := 0 }, { name := "borders", type := (.array .int), accessFlags := 18, slot := 2, constantValue := 0 }, { name := "tableComparisons", type := .long, accessFlags := 18, slot := 3, constantValue := 0 }, { name := "anchor", type := (.object "backstitch/Needle$Anchor"), accessFlags := 18, slot := 4, constantValue := 0 }, { name := "candidates", type := (.array (.object "backstitch/Needle$Anchor")), accessFlags := 18, slot := 5, constantValue := 0 }, { name := "headLength", type := .int, accessFlags := 18, slot := 6, constantValue := 0 }, { name := "head", type := .long, accessFlags := 18, slot := 7, constantValue := 0 }, { name := "headMask", type := .long, accessFlags := 18, slot := 8, constantValue := 0 }, { name := "firstOnce", type := .boolean, accessFlags := 18, slot := 9, constantValue := 0 }]
  methods := #[k9m0, k9m1, k9m2, k9m3, k9m4, k9m5, k9m6, k9m7, k9m8, k9m9, k9m10, k9m11]
  instanceTypes := #[(.array .char), .boolean, (.array .int), .long, (.object "backstitch/Needle$Anchor"), (.array (.object "backstitch/Needle$Anchor")), .int, .long, .long, .boolean]
  staticTypes := #[(.object "java/lang/invoke/VarHandle"), .long, .long, (.object "java/lang/String"), .int, (.array .byte), .int]
  resolved := Array.replicate 418 none
  statics := some 2 }

def pool10 : Array CpInfo := pool [(4, .class_ 6), (1, u "java/lang/Object"), (0, u "<init>"), (0, u "()V"), (4, .methodref 14 15), (0, .class_ 16), (0, .nameAndType 17 18), (0, u "java/lang/StringLatin1"), (0, u "inflate"), (0, u "([BI[CII)V"), (102, u "$assertionsDisabled"), (0, u "Z"), (69, u "toChars"), (28, .class_ 223), (1, u "java/lang/StringLatin1$LinesSpliterator"), (44, u "([B)[C"), (121, .class_ 391), (0, u "java/lang/StringLatin1$CharsSpliterator")] 3

def k10m0 : Method := { name := "<init>", desc := "()V", sig := { parameters := [], returnType := none }, accessFlags := 0, code := none }
def k10c1 : Code := { maxStack := 5, maxLocals := 2, code := jdk_43_method_9_code, exceptionTable := #[], attributes := #[] }
def k10m1 : Method := { name := "toChars", desc := "([B)[C", sig := { parameters := [(.array .byte)], returnType := some (.array .char) }, accessFlags := 9, code := some k10c1 }
def k10c2 : Code := { maxStack := 4, maxLocals := 6, code := jdk_43_method_49_code, exceptionTable := #[], attributes := #[] }
def k10m2 : Method := { name := "inflate", desc := "([BI[CII)V", sig := { parameters := [(.array .byte), .int, (.array .char), .int, .int], returnType := none }, accessFlags := 9, code := some k10c2 }
/-- java/lang/StringLatin1 -/
def k10 : Class := { plain "java/lang/StringLatin1" (some 0) with
  accessFlags := 48
  interfaces := #[]
  cf := some (fileOf pool10 14 #[.nestMembers #[390, 221]] #[{ accessFlags := 0, nameIndex := 7, descriptorIndex := 8, attributes := #[] }, { accessFlags := 9, nameIndex := 192, descriptorIndex := 268, attributes := #[] }, { accessFlags := 9, nameIndex := 17, descriptorIndex := 18, attributes := #[] }] 48 4 #[] #[{ accessFlags := 4120, nameIndex := 121, descriptorIndex := 122, attributes := #[] }])
  fields := #[{ name := "$assertionsDisabled", type := .boolean, accessFlags := 4120, slot := 0, constantValue := 0 }]
  methods := #[k10m0, k10m1, k10m2]
  instanceTypes := #[]
  staticTypes := #[.boolean]
  resolved := Array.replicate 395 none
  statics := none }

def pool11 : Array CpInfo := pool [(1, .methodref 2 3), (0, .class_ 4), (0, .nameAndType 5 6), (0, u "java/lang/Object"), (0, u "<init>"), (0, u "()V"), (0, .class_ 8), (0, u "java/lang/Record")] 13

def k11c0 : Code := { maxStack := 1, maxLocals := 1, code := jdk_30_method_1_code, exceptionTable := #[], attributes := #[] }
def k11m0 : Method := { name := "<init>", desc := "()V", sig := { parameters := [], returnType := none }, accessFlags := 4, code := some k11c0 }
/-- java/lang/Record -/
def k11 : Class := { plain "java/lang/Record" (some 0) with
  accessFlags := 1057
  interfaces := #[]
  cf := some (fileOf pool11 7 #[] #[{ accessFlags := 4, nameIndex := 5, descriptorIndex := 6, attributes := #[] }] 1057 2 #[] #[])
  fields := #[]
  methods := #[k11m0]
  instanceTypes := #[]
  staticTypes := #[]
  resolved := Array.replicate 22 none
  statics := none }

def pool12 : Array CpInfo := pool [(1, .methodref 2 3), (0, .class_ 4), (0, .nameAndType 5 6), (0, u "java/lang/Record"), (0, u "<init>"), (0, u "()V"), (0, .fieldref 8 9), (0, .class_ 10), (0, .nameAndType 11 12), (0, u "backstitch/Needle$Anchor"), (0, u "index"), (0, u "I"), (0, .fieldref 8 14), (0, .nameAndType 15 16), (0, u "unit"), (0, u "C"), (0, .fieldref 8 18), (0, .nameAndType 19 20), (0, u "inEveryByte"), (0, u "J"), (0, .fieldref 8 22), (0, .nameAndType 23 12), (0, u "openingExtra"), (12, u "(ICJI)V"), (6, u "()I"), (1, u "()C"), (4, .class_ 51), (0, u "backstitch/Needle")] 22

def k12c0 : Code := { maxStack := 3, maxLocals := 6, code := prog_9_method_1_code, exceptionTable := #[], attributes := #[] }
def k12m0 : Method := { name := "<init>", desc := "(ICJI)V", sig := { parameters := [.int, .char, .long, .int], returnType := none }, accessFlags := 0, code := some k12c0 }
def k12c1 : Code := { maxStack := 1, maxLocals := 1, code := prog_9_method_6_code, exceptionTable := #[], attributes := #[] }
def k12m1 : Method := { name := "index", desc := "()I", sig := { parameters := [], returnType := some .int }, accessFlags := 1, code := some k12c1 }
def k12c2 : Code := { maxStack := 1, maxLocals := 1, code := prog_9_method_7_code, exceptionTable := #[], attributes := #[] }
def k12m2 : Method := { name := "unit", desc := "()C", sig := { parameters := [], returnType := some .char }, accessFlags := 1, code := some k12c2 }
/-- backstitch/Needle$Anchor -/
def k12 : Class := { plain "backstitch/Needle$Anchor" (some 11) with
  accessFlags := 48
  interfaces := #[]
  cf := some (fileOf pool12 8 #[.nestHost 50] #[{ accessFlags := 0, nameIndex := 5, descriptorIndex := 36, attributes := #[] }, { accessFlags := 1, nameIndex := 11, descriptorIndex := 43, attributes := #[] }, { accessFlags := 1, nameIndex := 15, descriptorIndex := 45, attributes := #[] }] 48 2 #[] #[{ accessFlags := 18, nameIndex := 11, descriptorIndex := 12, attributes := #[] }, { accessFlags := 18, nameIndex := 15, descriptorIndex := 16, attributes := #[] }, { accessFlags := 18, nameIndex := 19, descriptorIndex := 20, attributes := #[] }, { accessFlags := 18, nameIndex := 23, descriptorIndex := 12, attributes := #[] }])
  fields := #[{ name := "index", type := .int, accessFlags := 18, slot := 0, constantValue := 0 }, { name := "unit", type := .char, accessFlags := 18, slot := 1, constantValue := 0 }, { name := "inEveryByte", type := .long, accessFlags := 18, slot := 2, constantValue := 0 }, { name := "openingExtra", type := .int, accessFlags := 18, slot := 3, constantValue := 0 }]
  methods := #[k12m0, k12m1, k12m2]
  instanceTypes := #[.int, .char, .long, .int]
  staticTypes := #[]
  resolved := Array.replicate 74 none
  statics := none }

def pool13 : Array CpInfo := pool [(1, .class_ 2), (0, u "java/lang/Math"), (1, .class_ 6), (1, u "java/lang/Object"), (0, u "<init>"), (0, u "()V"), (89, .class_ 100), (1, u "java/lang/Math$RandomNumberGeneratorHolder"), (71, u "negativeZeroFloatBits"), (0, u "J"), (2, u "negativeZeroDoubleBits"), (21, u "max"), (2, u "min"), (43, u "$assertionsDisabled"), (0, u "Z"), (88, u "(II)I"), (2, u "twoToTheDoubleScaleDown"), (0, u "D"), (4, u "twoToTheDoubleScaleUp"), (9, u "E"), (3, u "PI"), (2, u "TAU"), (2, u "DEGREES_TO_RADIANS"), (0, u "RADIANS_TO_DEGREES")] 94

def k13m0 : Method := { name := "<init>", desc := "()V", sig := { parameters := [], returnType := none }, accessFlags := 2, code := none }
def k13c1 : Code := { maxStack := 2, maxLocals := 2, code := jdk_29_method_65_code, exceptionTable := #[], attributes := #[] }
def k13m1 : Method := { name := "max", desc := "(II)I", sig := { parameters := [.int, .int], returnType := some .int }, accessFlags := 9, code := some k13c1 }
def k13c2 : Code := { maxStack := 2, maxLocals := 2, code := jdk_29_method_69_code, exceptionTable := #[], attributes := #[] }
def k13m2 : Method := { name := "min", desc := "(II)I", sig := { parameters := [.int, .int], returnType := some .int }, accessFlags := 9, code := some k13c2 }
/-- java/lang/Math -/
def k13 : Class := { plain "java/lang/Math" (some 0) with
  accessFlags := 49
  interfaces := #[]
  cf := some (fileOf pool13 1 #[.nestMembers #[98]] #[{ accessFlags := 2, nameIndex := 7, descriptorIndex := 8, attributes := #[] }, { accessFlags := 9, nameIndex := 198, descriptorIndex := 335, attributes := #[] }, { accessFlags := 9, nameIndex := 201, descriptorIndex := 335, attributes := #[] }] 49 4 #[] #[{ accessFlags := 25, nameIndex := 354, descriptorIndex := 339, attributes := #[] }, { accessFlags := 25, nameIndex := 358, descriptorIndex := 339, attributes := #[] }, { accessFlags := 25, nameIndex := 361, descriptorIndex := 339, attributes := #[] }, { accessFlags := 26, nameIndex := 364, descriptorIndex := 339, attributes := #[] }, { accessFlags := 26, nameIndex := 365, descriptorIndex := 339, attributes := #[] }, { accessFlags := 26, nameIndex := 172, descriptorIndex := 173, attributes := #[] }, { accessFlags := 26, nameIndex := 176, descriptorIndex := 173, attributes := #[] }, { accessFlags := 8, nameIndex := 344, descriptorIndex := 339, attributes := #[] }, { accessFlags := 8, nameIndex := 338, descriptorIndex := 339, attributes := #[] }, { accessFlags := 4120, nameIndex := 245, descriptorIndex := 246, attributes := #[] }])
  fields := #[{ name := "E", type := .double, accessFlags := 25, slot := 0, constantValue := 0 }, { name := "PI", type := .double, accessFlags := 25, slot := 1, constantValue := 0 }, { name := "TAU", type := .double, accessFlags := 25, slot := 2, constantValue := 0 }, { name := "DEGREES_TO_RADIANS", type := .double, accessFlags := 26, slot := 3, constantValue := 0 }, { name := "RADIANS_TO_DEGREES", type := .double, accessFlags := 26, slot := 4, constantValue := 0 }, { name := "negativeZeroFloatBits", type := .long, accessFlags := 26, slot := 5, constantValue := 0 }, { name := "negativeZeroDoubleBits", type := .long, accessFlags := 26, slot := 6, constantValue := 0 }, { name := "twoToTheDoubleScaleUp", type := .double, accessFlags := 8, slot := 7, constantValue := 0 }, { name := "twoToTheDoubleScaleDown", type := .double, accessFlags := 8, slot := 8, constantValue := 0 }, { name := "$assertionsDisabled", type := .boolean, accessFlags := 4120, slot := 9, constantValue := 0 }]
  methods := #[k13m0, k13m1, k13m2]
  instanceTypes := #[]
  staticTypes := #[.double, .double, .double, .double, .double, .long, .long, .double, .double, .boolean]
  resolved := Array.replicate 460 none
  statics := none }

def pool14 : Array CpInfo := pool [(1, .methodref 2 3), (0, .class_ 4), (0, .nameAndType 5 6), (0, u "java/lang/Object"), (0, u "<init>"), (0, u "()V"), (0, .class_ 8), (0, u "backstitch/Needle$Tally"), (0, u "extra"), (0, u "J"), (5, .class_ 17), (0, u "backstitch/Needle")] 2

def k14c0 : Code := { maxStack := 1, maxLocals := 1, code := prog_11_method_1_code, exceptionTable := #[], attributes := #[] }
def k14m0 : Method := { name := "<init>", desc := "()V", sig := { parameters := [], returnType := none }, accessFlags := 0, code := some k14c0 }
/-- backstitch/Needle$Tally -/
def k14 : Class := { plain "backstitch/Needle$Tally" (some 0) with
  accessFlags := 48
  interfaces := #[]
  cf := some (fileOf pool14 7 #[.nestHost 16] #[{ accessFlags := 0, nameIndex := 5, descriptorIndex := 6, attributes := #[] }] 48 2 #[] #[{ accessFlags := 0, nameIndex := 9, descriptorIndex := 10, attributes := #[] }])
  fields := #[{ name := "extra", type := .long, accessFlags := 0, slot := 0, constantValue := 0 }]
  methods := #[k14m0]
  instanceTypes := #[.long]
  staticTypes := #[]
  resolved := Array.replicate 20 none
  statics := none }

def pool15 : Array CpInfo := pool [(1, .class_ 2), (0, u "java/lang/Cloneable"), (0, .class_ 4), (0, u "java/lang/Object")] 2

/-- java/lang/Cloneable -/
def k15 : Class := { plain "java/lang/Cloneable" (some 0) with
  accessFlags := 1537
  interfaces := #[]
  cf := some (fileOf pool15 1 #[] #[] 1537 3 #[] #[])
  fields := #[]
  methods := #[]
  instanceTypes := #[]
  staticTypes := #[]
  resolved := Array.replicate 7 none
  statics := none }

def pool16 : Array CpInfo := pool [(2, .class_ 4), (1, u "java/lang/Object"), (0, u "<init>"), (0, u "()V"), (17, .class_ 26), (1, u "jdk/internal/util/Preconditions"), (22, u "checkFromIndexSize"), (5, .class_ 56), (0, u "jdk/internal/util/Preconditions$4"), (57, .class_ 115), (0, u "jdk/internal/util/Preconditions$1"), (7, u "SIOOBE_FORMATTER"), (0, u "Ljava/util/function/BiFunction;"), (0, .class_ 126), (0, u "jdk/internal/util/Preconditions$2"), (3, u "AIOOBE_FORMATTER"), (0, .class_ 132), (0, u "jdk/internal/util/Preconditions$3"), (3, u "IOOBE_FORMATTER"), (46, u "(IIILjava/util/function/BiFunction;)I")] 10

def k16m0 : Method := { name := "<init>", desc := "()V", sig := { parameters := [], returnType := none }, accessFlags := 1, code := none }
def k16c1 : Code := { maxStack := 4, maxLocals := 4, code := jdk_41_method_13_code, exceptionTable := #[], attributes := #[] }
def k16m1 : Method := { name := "checkFromIndexSize", desc := "(IIILjava/util/function/BiFunction;)I", sig := { parameters := [.int, .int, .int, (.object "java/util/function/BiFunction")], returnType := some .int }, accessFlags := 9, code := some k16c1 }
/-- jdk/internal/util/Preconditions -/
def k16 : Class := { plain "jdk/internal/util/Preconditions" (some 0) with
  accessFlags := 33
  interfaces := #[]
  cf := some (fileOf pool16 24 #[.nestMembers #[55, 131, 125, 114]] #[{ accessFlags := 1, nameIndex := 5, descriptorIndex := 6, attributes := #[] }, { accessFlags := 9, nameIndex := 49, descriptorIndex := 183, attributes := #[] }] 33 2 #[] #[{ accessFlags := 25, nameIndex := 123, descriptorIndex := 124, attributes := #[] }, { accessFlags := 25, nameIndex := 130, descriptorIndex := 124, attributes := #[] }, { accessFlags := 25, nameIndex := 136, descriptorIndex := 124, attributes := #[] }])
  fields := #[{ name := "SIOOBE_FORMATTER", type := (.object "java/util/function/BiFunction"), accessFlags := 25, slot := 0, constantValue := 0 }, { name := "AIOOBE_FORMATTER", type := (.object "java/util/function/BiFunction"), accessFlags := 25, slot := 1, constantValue := 0 }, { name := "IOOBE_FORMATTER", type := (.object "java/util/function/BiFunction"), accessFlags := 25, slot := 2, constantValue := 0 }]
  methods := #[k16m0, k16m1]
  instanceTypes := #[]
  staticTypes := #[(.object "java/util/function/BiFunction"), (.object "java/util/function/BiFunction"), (.object "java/util/function/BiFunction")]
  resolved := Array.replicate 194 none
  statics := some 3 }

def pool17 : Array CpInfo := pool [(9, u "<init>"), (6, .class_ 18), (1, u "java/lang/Object"), (0, u "()V"), (1, .class_ 23), (1, u "jdk/internal/util/ArraysSupport"), (0, u "LOG2_ARRAY_LONG_INDEX_SCALE"), (0, u "I"), (2, u "U"), (0, u "Ljdk/internal/misc/Unsafe;"), (8, u "BIG_ENDIAN"), (0, u "Z"), (8, u "LOG2_BYTE_BIT_SIZE"), (4, u "LOG2_ARRAY_INT_INDEX_SCALE"), (54, u "JLA"), (0, u "Ljdk/internal/access/JavaLangAccess;"), (11, u "LOG2_ARRAY_BOOLEAN_INDEX_SCALE"), (9, u "LOG2_ARRAY_BYTE_INDEX_SCALE"), (5, u "LOG2_ARRAY_CHAR_INDEX_SCALE"), (5, u "LOG2_ARRAY_SHORT_INDEX_SCALE"), (18, u "LOG2_ARRAY_FLOAT_INDEX_SCALE"), (24, u "LOG2_ARRAY_DOUBLE_INDEX_SCALE"), (89, u "T_BOOLEAN"), (2, u "T_CHAR"), (1, u "T_FLOAT"), (1, u "T_DOUBLE"), (1, u "T_BYTE"), (1, u "T_SHORT"), (1, u "T_INT"), (1, u "T_LONG"), (1, u "SOFT_MAX_ARRAY_LENGTH")] 83

def k17m0 : Method := { name := "<init>", desc := "()V", sig := { parameters := [], returnType := none }, accessFlags := 2, code := none }
/-- jdk/internal/util/ArraysSupport -/
def k17 : Class := { plain "jdk/internal/util/ArraysSupport" (some 0) with
  accessFlags := 33
  interfaces := #[]
  cf := some (fileOf pool17 21 #[] #[{ accessFlags := 2, nameIndex := 9, descriptorIndex := 19, attributes := #[] }] 33 16 #[] #[{ accessFlags := 24, nameIndex := 28, descriptorIndex := 29, attributes := #[] }, { accessFlags := 26, nameIndex := 38, descriptorIndex := 39, attributes := #[] }, { accessFlags := 25, nameIndex := 121, descriptorIndex := 25, attributes := #[] }, { accessFlags := 25, nameIndex := 131, descriptorIndex := 25, attributes := #[] }, { accessFlags := 25, nameIndex := 137, descriptorIndex := 25, attributes := #[] }, { accessFlags := 25, nameIndex := 143, descriptorIndex := 25, attributes := #[] }, { accessFlags := 25, nameIndex := 53, descriptorIndex := 25, attributes := #[] }, { accessFlags := 25, nameIndex := 24, descriptorIndex := 25, attributes := #[] }, { accessFlags := 25, nameIndex := 162, descriptorIndex := 25, attributes := #[] }, { accessFlags := 25, nameIndex := 187, descriptorIndex := 25, attributes := #[] }, { accessFlags := 26, nameIndex := 48, descriptorIndex := 25, attributes := #[] }, { accessFlags := 25, nameIndex := 277, descriptorIndex := 25, attributes := #[] }, { accessFlags := 25, nameIndex := 280, descriptorIndex := 25, attributes := #[] }, { accessFlags := 25, nameIndex := 282, descriptorIndex := 25, attributes := #[] }, { accessFlags := 25, nameIndex := 284, descriptorIndex := 25, attributes := #[] }, { accessFlags := 25, nameIndex := 286, descriptorIndex := 25, attributes := #[] }, { accessFlags := 25, nameIndex := 288, descriptorIndex := 25, attributes := #[] }, { accessFlags := 25, nameIndex := 290, descriptorIndex := 25, attributes := #[] }, { accessFlags := 25, nameIndex := 292, descriptorIndex := 25, attributes := #[] }, { accessFlags := 26, nameIndex := 108, descriptorIndex := 109, attributes := #[] }, { accessFlags := 25, nameIndex := 294, descriptorIndex := 25, attributes := #[] }])
  fields := #[{ name := "U", type := (.object "jdk/internal/misc/Unsafe"), accessFlags := 24, slot := 0, constantValue := 0 }, { name := "BIG_ENDIAN", type := .boolean, accessFlags := 26, slot := 1, constantValue := 0 }, { name := "LOG2_ARRAY_BOOLEAN_INDEX_SCALE", type := .int, accessFlags := 25, slot := 2, constantValue := 0 }, { name := "LOG2_ARRAY_BYTE_INDEX_SCALE", type := .int, accessFlags := 25, slot := 3, constantValue := 0 }, { name := "LOG2_ARRAY_CHAR_INDEX_SCALE", type := .int, accessFlags := 25, slot := 4, constantValue := 0 }, { name := "LOG2_ARRAY_SHORT_INDEX_SCALE", type := .int, accessFlags := 25, slot := 5, constantValue := 0 }, { name := "LOG2_ARRAY_INT_INDEX_SCALE", type := .int, accessFlags := 25, slot := 6, constantValue := 0 }, { name := "LOG2_ARRAY_LONG_INDEX_SCALE", type := .int, accessFlags := 25, slot := 7, constantValue := 0 }, { name := "LOG2_ARRAY_FLOAT_INDEX_SCALE", type := .int, accessFlags := 25, slot := 8, constantValue := 0 }, { name := "LOG2_ARRAY_DOUBLE_INDEX_SCALE", type := .int, accessFlags := 25, slot := 9, constantValue := 0 }, { name := "LOG2_BYTE_BIT_SIZE", type := .int, accessFlags := 26, slot := 10, constantValue := 0 }, { name := "T_BOOLEAN", type := .int, accessFlags := 25, slot := 11, constantValue := 0 }, { name := "T_CHAR", type := .int, accessFlags := 25, slot := 12, constantValue := 0 }, { name := "T_FLOAT", type := .int, accessFlags := 25, slot := 13, constantValue := 0 }, { name := "T_DOUBLE", type := .int, accessFlags := 25, slot := 14, constantValue := 0 }, { name := "T_BYTE", type := .int, accessFlags := 25, slot := 15, constantValue := 0 }, { name := "T_SHORT", type := .int, accessFlags := 25, slot := 16, constantValue := 0 }, { name := "T_INT", type := .int, accessFlags := 25, slot := 17, constantValue := 0 }, { name := "T_LONG", type := .int, accessFlags := 25, slot := 18, constantValue := 0 }, { name := "JLA", type := (.object "jdk/internal/access/JavaLangAccess"), accessFlags := 26, slot := 19, constantValue := 0 }, { name := "SOFT_MAX_ARRAY_LENGTH", type := .int, accessFlags := 25, slot := 20, constantValue := 0 }]
  methods := #[k17m0]
  instanceTypes := #[]
  staticTypes := #[(.object "jdk/internal/misc/Unsafe"), .boolean, .int, .int, .int, .int, .int, .int, .int, .int, .int, .int, .int, .int, .int, .int, .int, .int, .int, (.object "jdk/internal/access/JavaLangAccess"), .int]
  resolved := Array.replicate 378 none
  statics := none }

/-- the primitive byte -/
def k18 : Class := { plain "byte" none with kind := .primitive 'B', accessFlags := 0x411 }
/-- [B -/
def k19 : Class := { plain "[B" (some 0) with kind := .array 18 .byte, interfaces := #[15, 2], accessFlags := 1041 }

/-- the primitive char -/
def k20 : Class := { plain "char" none with kind := .primitive 'C', accessFlags := 0x411 }
/-- [C -/
def k21 : Class := { plain "[C" (some 0) with kind := .array 20 .char, interfaces := #[15, 2], accessFlags := 1041 }

/-- the primitive int -/
def k22 : Class := { plain "int" none with kind := .primitive 'I', accessFlags := 0x411 }
/-- [I -/
def k23 : Class := { plain "[I" (some 0) with kind := .array 22 .int, interfaces := #[15, 2], accessFlags := 1041 }

/-- the primitive long -/
def k24 : Class := { plain "long" none with kind := .primitive 'J', accessFlags := 0x411 }
/-- [J -/
def k25 : Class := { plain "[J" (some 0) with kind := .array 24 .long, interfaces := #[15, 2], accessFlags := 1041 }

/-- [Lbackstitch/Needle$Anchor; -/
def k26 : Class := { plain "[Lbackstitch/Needle$Anchor;" (some 0) with kind := .array 12 (.object "backstitch/Needle$Anchor"), interfaces := #[15, 2], accessFlags := 1041 }

def heap : Heap := #[{ cls := 7, slots := #[.long 0, .int 1, .null, .int 0, .null, .int 0, .int 0], vm := .statics 7 },
  { cls := 8, slots := #[.int 0, .int 8, .int 0, .int 1], vm := .statics 8 },
  { cls := 9, slots := #[.null, .long 0, .long 0, .null, .int 28, .ref 4, .int 0], vm := .statics 9 },
  { cls := 16, slots := #[.null, .null, .null], vm := .statics 16 },
  { cls := 19, slots := #[.int 28, .int 28, .int 28, .int 28, .int 28, .int 28, .int 28, .int 28, .int 28, .int 27, .int 27, .int 28, .int 28, .int 27, .int 28, .int 28, .int 28, .int 28, .int 28, .int 28, .int 28, .int 28, .int 28, .int 28, .int 28, .int 28, .int 28, .int 28, .int 28, .int 28, .int 28, .int 28, .int 0, .int 27, .int 27, .int 27, .int 27, .int 27, .int 27, .int 27, .int 27, .int 27, .int 27, .int 27, .int 27, .int 27, .int 27, .int 27, .int 27, .int 27, .int 27, .int 27, .int 27, .int 27, .int 27, .int 27, .int 27, .int 27, .int 27, .int 27, .int 27, .int 27, .int 27, .int 27, .int 27, .int 27, .int 27, .int 27, .int 27, .int 27, .int 27, .int 27, .int 27, .int 27, .int 27, .int 27, .int 27, .int 27, .int 27, .int 27, .int 27, .int 27, .int 27, .int 27, .int 27, .int 27, .int 27, .int 27, .int 27, .int 27, .int 27, .int 27, .int 27, .int 27, .int 27, .int 27, .int 27, .int 3, .int 20, .int 12, .int 10, .int 1, .int 16, .int 17, .int 8, .int 5, .int 23, .int 22, .int 11, .int 14, .int 6, .int 4, .int 19, .int 25, .int 9, .int 7, .int 2, .int 13, .int 21, .int 15, .int 24, .int 18, .int 26, .int 27, .int 27, .int 27, .int 27, .int 28], vm := .none }]
def classes : Array Class := #[k0, k1, k2, k3, k4, k5, k6, k7, k8, k9, k10, k11, k12, k13, k14, k15, k16, k17, k18, k19, k20, k21, k22, k23, k24, k25, k26]
def interned : List (Array UInt16 × Addr) := []
def slotsUsed : Nat := 149
def theMethod : MethodId := ⟨1, 5⟩
def args0 : Array Value := #[.int 5, .int 6, .int 7, .int 8, .int 9, .int 10]
def aboutOver (below : List Frame) : State where
  vm := { classes := classes, interned := interned.toArray }
  heap := heap
  slotsUsed := slotsUsed
  threads := #[{ frames := .invoking theMethod args0 :: below }]
def below0 : List Frame := [.native { method := ⟨0, 0⟩, args := #[] }]
def about1 : State := aboutOver below0
def p0 : Program := .bare "" "" ""
def e0 : Env := launch0.env 0 0 0
theorem w_frames : about1.frames = Frame.invoking theMethod args0 :: below0 := rfl
set_option maxRecDepth 65536 in
theorem w_args : argsFit about1.vm theMethod args0 = true := by decide +kernel
set_option maxRecDepth 65536 in
theorem w_heap : heapFits about1 = true := by decide +kernel
set_option maxRecDepth 65536 in
theorem w_runnable : about1.curStatus? = some .runnable := by decide +kernel
set_option maxRecDepth 65536 in
theorem w_alone : about1.alone = true := by decide +kernel
set_option maxRecDepth 65536 in
theorem w_named : about1.methodNamed? x = some theMethod := by decide +kernel
set_option maxRecDepth 65536 in
theorem w_hears : about1.hears theMethod below0 = true := by decide +kernel
set_option maxRecDepth 65536 in
theorem w_ripe : about1.ripe theMethod args0 below0 = true := by decide +kernel
theorem w_running : about1.status = .running := rfl
set_option maxRecDepth 65536 in
theorem w_room : about1.hasRoom e0.platform room_1 = true :=
  launch0.hasRoom_least _ room_1 (by decide +kernel) (by decide +kernel) (by decide +kernel) (by decide +kernel) (by decide +kernel) (by decide +kernel)
theorem allAtoms_all (ts : List Jvm.Cond) (a : Array Jvm.Value) (st : Jvm.State) : (allAtoms ts).before a st = ts.all (fun c => c.before a st) := by
  induction ts with
  | nil => rfl
  | cons c t ih =>
    show (Jvm.Cond.and c (allAtoms t)).before a st = _
    rw [Jvm.Cond.before_and, ih, List.all_cons]
def words1 : List Jvm.Cond := Jvm.Cond.code x code maxLocals ret :: tables_1
/-- a 'code' word, met by the world's own term for the bytes: nothing is compared byte by byte -/
theorem code_word {y : MethodName} {bytes : ByteArray} {mx : Nat} {rt : Option FieldType} {a : Array Value} {s : State} {m : MethodId} {meth : Method} {c : Code} (h1 : s.methodNamed? y = some m) (h2 : s.vm.method? m = some meth) (h3 : meth.code = some c) (h4 : c.code = bytes)
    (h5 : (c.maxLocals == mx && c.exceptionTable.isEmpty && decide (c.maxStack ≤ mostOperands) && decide (meth.sig.returnType = rt) && !meth.locks && decide (parseMethodDescriptor y.desc = some meth.sig)) = true) : (Jvm.Cond.code y bytes mx rt).before a s = true := by
  simp only [Bool.and_eq_true, beq_iff_eq, Bool.not_eq_true', decide_eq_true_eq] at h5
  obtain ⟨⟨⟨⟨⟨g1, g2⟩, g3⟩, g4⟩, g5⟩, g6⟩ := h5
  simp [Cond.before, Cond.holds, Cond.value, h1, h2, h3, h4, g1, g2, g3, g4, g5, g6]
def isCode : Jvm.Cond → Bool
  | .code _ _ _ _ => true
  | _ => false
theorem all_split {L : List Jvm.Cond} {P : Jvm.Cond → Bool} (h1 : L.all (fun c => isCode c || P c) = true) (h2 : ∀ c ∈ L.filter isCode, P c = true) : L.all P = true := by
  refine List.all_eq_true.mpr fun c hc => ?_
  have h := List.all_eq_true.mp h1 c hc
  rcases Bool.eq_false_or_eq_true (isCode c) with hi | hi
  · exact h2 c (List.mem_filter.mpr ⟨hc, hi⟩)
  · simpa [hi] using h
set_option maxRecDepth 65536 in
theorem w_c0 : (Jvm.Cond.code x code maxLocals ret).before args0 about1 = true := code_word (m := ⟨1, 5⟩) (meth := k1m5) (c := k1c5) (by decide +kernel) rfl rfl rfl (by decide +kernel)
set_option maxRecDepth 65536 in
theorem w_c1 : (Jvm.Cond.code ({ cls := "backstitch/NeedleOfPinLaw", name := "unit", desc := "(I)C" } : Jvm.MethodName) method_2_code (1 : Nat) (Option.some Jvm.ClassFile.FieldType.char)).before args0 about1 = true := code_word (m := ⟨1, 1⟩) (meth := k1m1) (c := k1c1) (by decide +kernel) rfl rfl rfl (by decide +kernel)
set_option maxRecDepth 65536 in
theorem w_c2 : (Jvm.Cond.code ({ cls := "backstitch/NeedleOfPinLaw", name := "pattern", desc := "(ICCCCC)[C" } : Jvm.MethodName) method_3_code (6 : Nat) (Option.some (Jvm.ClassFile.FieldType.array Jvm.ClassFile.FieldType.char))).before args0 about1 = true := code_word (m := ⟨1, 2⟩) (meth := k1m2) (c := k1c2) (by decide +kernel) rfl rfl rfl (by decide +kernel)
set_option maxRecDepth 65536 in
theorem w_c3 : (Jvm.Cond.code ({ cls := "java/lang/String", name := "<init>", desc := "([C)V" } : Jvm.MethodName) jdk_42_method_3_code (2 : Nat) (Option.none : Option Jvm.ClassFile.FieldType)).before args0 about1 = true := code_word (m := ⟨7, 1⟩) (meth := k7m1) (c := k7c1) (by decide +kernel) rfl rfl rfl (by decide +kernel)
set_option maxRecDepth 65536 in
theorem w_c4 : (Jvm.Cond.code ({ cls := "java/lang/String", name := "<init>", desc := "([CIILjava/lang/Void;)V" } : Jvm.MethodName) jdk_42_method_149_code (6 : Nat) (Option.none : Option Jvm.ClassFile.FieldType)).before args0 about1 = true := code_word (m := ⟨7, 4⟩) (meth := k7m4) (c := k7c4) (by decide +kernel) rfl rfl rfl (by decide +kernel)
set_option maxRecDepth 65536 in
theorem w_c5 : (Jvm.Cond.code ({ cls := "java/lang/Object", name := "<init>", desc := "()V" } : Jvm.MethodName) object_method_1_code (1 : Nat) (Option.none : Option Jvm.ClassFile.FieldType)).before args0 about1 = true := code_word (m := ⟨0, 0⟩) (meth := k0m0) (c := k0c0) (by decide +kernel) rfl rfl rfl (by decide +kernel)
set_option maxRecDepth 65536 in
theorem w_c6 : (Jvm.Cond.code ({ cls := "java/lang/StringUTF16", name := "compress", desc := "([CII)[B" } : Jvm.MethodName) jdk_52_method_16_code (6 : Nat) (Option.some (Jvm.ClassFile.FieldType.array Jvm.ClassFile.FieldType.byte))).before args0 about1 = true := code_word (m := ⟨8, 9⟩) (meth := k8m9) (c := k8c9) (by decide +kernel) rfl rfl rfl (by decide +kernel)
set_option maxRecDepth 65536 in
theorem w_c7 : (Jvm.Cond.code ({ cls := "java/lang/StringUTF16", name := "compress", desc := "([CI[BII)I" } : Jvm.MethodName) jdk_52_method_21_code (7 : Nat) (Option.some Jvm.ClassFile.FieldType.int)).before args0 about1 = true := code_word (m := ⟨8, 10⟩) (meth := k8m10) (c := k8c10) (by decide +kernel) rfl rfl rfl (by decide +kernel)
set_option maxRecDepth 65536 in
theorem w_c8 : (Jvm.Cond.code ({ cls := "java/lang/StringUTF16", name := "coderFromArrayLen", desc := "([BI)B" } : Jvm.MethodName) jdk_52_method_15_code (2 : Nat) (Option.some Jvm.ClassFile.FieldType.byte)).before args0 about1 = true := code_word (m := ⟨8, 8⟩) (meth := k8m8) (c := k8c8) (by decide +kernel) rfl rfl rfl (by decide +kernel)
set_option maxRecDepth 65536 in
theorem w_c9 : (Jvm.Cond.code ({ cls := "backstitch/Needle", name := "of", desc := "(Ljava/lang/CharSequence;)Lbackstitch/Needle;" } : Jvm.MethodName) prog_8_method_2_code (1 : Nat) (Option.some (Jvm.ClassFile.FieldType.object "backstitch/Needle"))).before args0 about1 = true := code_word (m := ⟨9, 1⟩) (meth := k9m1) (c := k9c1) (by decide +kernel) rfl rfl rfl (by decide +kernel)
set_option maxRecDepth 65536 in
theorem w_c10 : (Jvm.Cond.code ({ cls := "java/lang/String", name := "toString", desc := "()Ljava/lang/String;" } : Jvm.MethodName) jdk_42_method_126_code (1 : Nat) (Option.some (Jvm.ClassFile.FieldType.object "java/lang/String"))).before args0 about1 = true := code_word (m := ⟨7, 2⟩) (meth := k7m2) (c := k7c2) (by decide +kernel) rfl rfl rfl (by decide +kernel)
set_option maxRecDepth 65536 in
theorem w_c11 : (Jvm.Cond.code ({ cls := "java/lang/String", name := "toCharArray", desc := "()[C" } : Jvm.MethodName) jdk_42_method_129_code (1 : Nat) (Option.some (Jvm.ClassFile.FieldType.array Jvm.ClassFile.FieldType.char))).before args0 about1 = true := code_word (m := ⟨7, 3⟩) (meth := k7m3) (c := k7c3) (by decide +kernel) rfl rfl rfl (by decide +kernel)
set_option maxRecDepth 65536 in
theorem w_c12 : (Jvm.Cond.code ({ cls := "java/lang/String", name := "isLatin1", desc := "()Z" } : Jvm.MethodName) jdk_42_method_154_code (1 : Nat) (Option.some Jvm.ClassFile.FieldType.boolean)).before args0 about1 = true := code_word (m := ⟨7, 5⟩) (meth := k7m5) (c := k7c5) (by decide +kernel) rfl rfl rfl (by decide +kernel)
set_option maxRecDepth 65536 in
theorem w_c13 : (Jvm.Cond.code ({ cls := "java/lang/StringLatin1", name := "toChars", desc := "([B)[C" } : Jvm.MethodName) jdk_43_method_9_code (2 : Nat) (Option.some (Jvm.ClassFile.FieldType.array Jvm.ClassFile.FieldType.char))).before args0 about1 = true := code_word (m := ⟨10, 1⟩) (meth := k10m1) (c := k10c1) (by decide +kernel) rfl rfl rfl (by decide +kernel)
set_option maxRecDepth 65536 in
theorem w_c14 : (Jvm.Cond.code ({ cls := "java/lang/StringLatin1", name := "inflate", desc := "([BI[CII)V" } : Jvm.MethodName) jdk_43_method_49_code (6 : Nat) (Option.none : Option Jvm.ClassFile.FieldType)).before args0 about1 = true := code_word (m := ⟨10, 2⟩) (meth := k10m2) (c := k10c2) (by decide +kernel) rfl rfl rfl (by decide +kernel)
set_option maxRecDepth 65536 in
theorem w_c15 : (Jvm.Cond.code ({ cls := "backstitch/Needle", name := "<init>", desc := "([CZ)V" } : Jvm.MethodName) prog_8_method_1_code (13 : Nat) (Option.none : Option Jvm.ClassFile.FieldType)).before args0 about1 = true := code_word (m := ⟨9, 0⟩) (meth := k9m0) (c := k9c0) (by decide +kernel) rfl rfl rfl (by decide +kernel)
set_option maxRecDepth 65536 in
theorem w_c16 : (Jvm.Cond.code ({ cls := "backstitch/Needle", name := "rarity", desc := "(C)I" } : Jvm.MethodName) prog_8_method_31_code (1 : Nat) (Option.some Jvm.ClassFile.FieldType.int)).before args0 about1 = true := code_word (m := ⟨9, 9⟩) (meth := k9m9) (c := k9c9) (by decide +kernel) rfl rfl rfl (by decide +kernel)
set_option maxRecDepth 65536 in
theorem w_c17 : (Jvm.Cond.code ({ cls := "backstitch/Needle", name := "anchorAt", desc := "(I)Lbackstitch/Needle$Anchor;" } : Jvm.MethodName) prog_8_method_30_code (3 : Nat) (Option.some (Jvm.ClassFile.FieldType.object "backstitch/Needle$Anchor"))).before args0 about1 = true := code_word (m := ⟨9, 8⟩) (meth := k9m8) (c := k9c8) (by decide +kernel) rfl rfl rfl (by decide +kernel)
set_option maxRecDepth 65536 in
theorem w_c18 : (Jvm.Cond.code ({ cls := "backstitch/Needle$Anchor", name := "<init>", desc := "(ICJI)V" } : Jvm.MethodName) prog_9_method_1_code (6 : Nat) (Option.none : Option Jvm.ClassFile.FieldType)).before args0 about1 = true := code_word (m := ⟨12, 0⟩) (meth := k12m0) (c := k12c0) (by decide +kernel) rfl rfl rfl (by decide +kernel)
set_option maxRecDepth 65536 in
theorem w_c19 : (Jvm.Cond.code ({ cls := "java/lang/Record", name := "<init>", desc := "()V" } : Jvm.MethodName) jdk_30_method_1_code (1 : Nat) (Option.none : Option Jvm.ClassFile.FieldType)).before args0 about1 = true := code_word (m := ⟨11, 0⟩) (meth := k11m0) (c := k11c0) (by decide +kernel) rfl rfl rfl (by decide +kernel)
set_option maxRecDepth 65536 in
theorem w_c20 : (Jvm.Cond.code ({ cls := "backstitch/Needle", name := "listCandidates", desc := "()[Lbackstitch/Needle$Anchor;" } : Jvm.MethodName) prog_8_method_29_code (10 : Nat) (Option.some (Jvm.ClassFile.FieldType.array (Jvm.ClassFile.FieldType.object "backstitch/Needle$Anchor")))).before args0 about1 = true := code_word (m := ⟨9, 7⟩) (meth := k9m7) (c := k9c7) (by decide +kernel) rfl rfl rfl (by decide +kernel)
set_option maxRecDepth 65536 in
theorem w_c21 : (Jvm.Cond.code ({ cls := "backstitch/Needle$Anchor", name := "unit", desc := "()C" } : Jvm.MethodName) prog_9_method_7_code (1 : Nat) (Option.some Jvm.ClassFile.FieldType.char)).before args0 about1 = true := code_word (m := ⟨12, 2⟩) (meth := k12m2) (c := k12c2) (by decide +kernel) rfl rfl rfl (by decide +kernel)
set_option maxRecDepth 65536 in
theorem w_c22 : (Jvm.Cond.code ({ cls := "java/lang/Math", name := "min", desc := "(II)I" } : Jvm.MethodName) jdk_29_method_69_code (2 : Nat) (Option.some Jvm.ClassFile.FieldType.int)).before args0 about1 = true := code_word (m := ⟨13, 2⟩) (meth := k13m2) (c := k13c2) (by decide +kernel) rfl rfl rfl (by decide +kernel)
set_option maxRecDepth 65536 in
theorem w_c23 : (Jvm.Cond.code ({ cls := "backstitch/Needle$Tally", name := "<init>", desc := "()V" } : Jvm.MethodName) prog_11_method_1_code (1 : Nat) (Option.none : Option Jvm.ClassFile.FieldType)).before args0 about1 = true := code_word (m := ⟨14, 0⟩) (meth := k14m0) (c := k14c0) (by decide +kernel) rfl rfl rfl (by decide +kernel)
set_option maxRecDepth 65536 in
theorem w_c24 : (Jvm.Cond.code ({ cls := "backstitch/Needle", name := "begin", desc := "(C)I" } : Jvm.MethodName) prog_8_method_35_code (2 : Nat) (Option.some Jvm.ClassFile.FieldType.int)).before args0 about1 = true := code_word (m := ⟨9, 11⟩) (meth := k9m11) (c := k9c11) (by decide +kernel) rfl rfl rfl (by decide +kernel)
set_option maxRecDepth 65536 in
theorem w_c25 : (Jvm.Cond.code ({ cls := "java/lang/Math", name := "max", desc := "(II)I" } : Jvm.MethodName) jdk_29_method_65_code (2 : Nat) (Option.some Jvm.ClassFile.FieldType.int)).before args0 about1 = true := code_word (m := ⟨13, 1⟩) (meth := k13m1) (c := k13c1) (by decide +kernel) rfl rfl rfl (by decide +kernel)
set_option maxRecDepth 65536 in
theorem w_c26 : (Jvm.Cond.code ({ cls := "backstitch/Needle", name := "requireKind", desc := "(Z)V" } : Jvm.MethodName) prog_8_method_22_code (2 : Nat) (Option.none : Option Jvm.ClassFile.FieldType)).before args0 about1 = true := code_word (m := ⟨9, 4⟩) (meth := k9m4) (c := k9c4) (by decide +kernel) rfl rfl rfl (by decide +kernel)
set_option maxRecDepth 65536 in
theorem w_c27 : (Jvm.Cond.code ({ cls := "backstitch/Needle", name := "length", desc := "()I" } : Jvm.MethodName) prog_8_method_23_code (1 : Nat) (Option.some Jvm.ClassFile.FieldType.int)).before args0 about1 = true := code_word (m := ⟨9, 5⟩) (meth := k9m5) (c := k9c5) (by decide +kernel) rfl rfl rfl (by decide +kernel)
set_option maxRecDepth 65536 in
theorem w_c28 : (Jvm.Cond.code ({ cls := "backstitch/Needle", name := "borders", desc := "()[I" } : Jvm.MethodName) prog_8_method_17_code (1 : Nat) (Option.some (Jvm.ClassFile.FieldType.array Jvm.ClassFile.FieldType.int))).before args0 about1 = true := code_word (m := ⟨9, 2⟩) (meth := k9m2) (c := k9c2) (by decide +kernel) rfl rfl rfl (by decide +kernel)
set_option maxRecDepth 65536 in
theorem w_c29 : (Jvm.Cond.code ({ cls := "backstitch/NeedleOfPinLaw", name := "border", desc := "([CI)I" } : Jvm.MethodName) method_5_code (2 : Nat) (Option.some Jvm.ClassFile.FieldType.int)).before args0 about1 = true := code_word (m := ⟨1, 4⟩) (meth := k1m4) (c := k1c4) (by decide +kernel) rfl rfl rfl (by decide +kernel)
set_option maxRecDepth 65536 in
theorem w_c30 : (Jvm.Cond.code ({ cls := "backstitch/NeedleOfPinLaw", name := "same", desc := "([CII)Z" } : Jvm.MethodName) method_4_code (3 : Nat) (Option.some Jvm.ClassFile.FieldType.boolean)).before args0 about1 = true := code_word (m := ⟨1, 3⟩) (meth := k1m3) (c := k1c3) (by decide +kernel) rfl rfl rfl (by decide +kernel)
set_option maxRecDepth 65536 in
theorem w_c31 : (Jvm.Cond.code ({ cls := "backstitch/Needle", name := "period", desc := "()I" } : Jvm.MethodName) prog_8_method_18_code (1 : Nat) (Option.some Jvm.ClassFile.FieldType.int)).before args0 about1 = true := code_word (m := ⟨9, 3⟩) (meth := k9m3) (c := k9c3) (by decide +kernel) rfl rfl rfl (by decide +kernel)
set_option maxRecDepth 65536 in
theorem w_c32 : (Jvm.Cond.code ({ cls := "backstitch/Needle", name := "lastBorder", desc := "()I" } : Jvm.MethodName) prog_8_method_24_code (1 : Nat) (Option.some Jvm.ClassFile.FieldType.int)).before args0 about1 = true := code_word (m := ⟨9, 6⟩) (meth := k9m6) (c := k9c6) (by decide +kernel) rfl rfl rfl (by decide +kernel)
set_option maxRecDepth 65536 in
theorem w_c33 : (Jvm.Cond.code ({ cls := "backstitch/Needle", name := "advance", desc := "(ICLbackstitch/Needle$Tally;)I" } : Jvm.MethodName) prog_8_method_34_code (4 : Nat) (Option.some Jvm.ClassFile.FieldType.int)).before args0 about1 = true := code_word (m := ⟨9, 10⟩) (meth := k9m10) (c := k9c10) (by decide +kernel) rfl rfl rfl (by decide +kernel)
set_option maxRecDepth 65536 in
theorem w_c34 : (Jvm.Cond.code ({ cls := "java/lang/StringUTF16", name := "toBytes", desc := "([CII)[B" } : Jvm.MethodName) jdk_52_method_14_code (5 : Nat) (Option.some (Jvm.ClassFile.FieldType.array Jvm.ClassFile.FieldType.byte))).before args0 about1 = true := code_word (m := ⟨8, 7⟩) (meth := k8m7) (c := k8c7) (by decide +kernel) rfl rfl rfl (by decide +kernel)
set_option maxRecDepth 65536 in
theorem w_c35 : (Jvm.Cond.code ({ cls := "java/lang/StringUTF16", name := "newBytesFor", desc := "(I)[B" } : Jvm.MethodName) jdk_52_method_2_code (1 : Nat) (Option.some (Jvm.ClassFile.FieldType.array Jvm.ClassFile.FieldType.byte))).before args0 about1 = true := code_word (m := ⟨8, 1⟩) (meth := k8m1) (c := k8c1) (by decide +kernel) rfl rfl rfl (by decide +kernel)
set_option maxRecDepth 65536 in
theorem w_c36 : (Jvm.Cond.code ({ cls := "java/lang/StringUTF16", name := "newBytesLength", desc := "(I)I" } : Jvm.MethodName) jdk_52_method_3_code (1 : Nat) (Option.some Jvm.ClassFile.FieldType.int)).before args0 about1 = true := code_word (m := ⟨8, 2⟩) (meth := k8m2) (c := k8c2) (by decide +kernel) rfl rfl rfl (by decide +kernel)
set_option maxRecDepth 65536 in
theorem w_c37 : (Jvm.Cond.code ({ cls := "java/lang/StringUTF16", name := "putChar", desc := "([BII)V" } : Jvm.MethodName) jdk_52_method_4_code (3 : Nat) (Option.none : Option Jvm.ClassFile.FieldType)).before args0 about1 = true := code_word (m := ⟨8, 3⟩) (meth := k8m3) (c := k8c3) (by decide +kernel) rfl rfl rfl (by decide +kernel)
set_option maxRecDepth 65536 in
theorem w_c38 : (Jvm.Cond.code ({ cls := "java/lang/StringUTF16", name := "getChar", desc := "([BI)C" } : Jvm.MethodName) jdk_52_method_5_code (2 : Nat) (Option.some Jvm.ClassFile.FieldType.char)).before args0 about1 = true := code_word (m := ⟨8, 4⟩) (meth := k8m4) (c := k8c4) (by decide +kernel) rfl rfl rfl (by decide +kernel)
set_option maxRecDepth 65536 in
theorem w_c39 : (Jvm.Cond.code ({ cls := "java/lang/StringUTF16", name := "toChars", desc := "([B)[C" } : Jvm.MethodName) jdk_52_method_13_code (2 : Nat) (Option.some (Jvm.ClassFile.FieldType.array Jvm.ClassFile.FieldType.char))).before args0 about1 = true := code_word (m := ⟨8, 6⟩) (meth := k8m6) (c := k8c6) (by decide +kernel) rfl rfl rfl (by decide +kernel)
set_option maxRecDepth 65536 in
theorem w_c40 : (Jvm.Cond.code ({ cls := "java/lang/StringUTF16", name := "getChars", desc := "([BII[CI)V" } : Jvm.MethodName) jdk_52_method_26_code (6 : Nat) (Option.none : Option Jvm.ClassFile.FieldType)).before args0 about1 = true := code_word (m := ⟨8, 11⟩) (meth := k8m11) (c := k8c11) (by decide +kernel) rfl rfl rfl (by decide +kernel)
set_option maxRecDepth 65536 in
theorem w_c41 : (Jvm.Cond.code ({ cls := "java/lang/StringUTF16", name := "checkBoundsOffCount", desc := "(II[B)V" } : Jvm.MethodName) jdk_52_method_94_code (3 : Nat) (Option.none : Option Jvm.ClassFile.FieldType)).before args0 about1 = true := code_word (m := ⟨8, 12⟩) (meth := k8m12) (c := k8c12) (by decide +kernel) rfl rfl rfl (by decide +kernel)
set_option maxRecDepth 65536 in
theorem w_c42 : (Jvm.Cond.code ({ cls := "java/lang/StringUTF16", name := "length", desc := "([B)I" } : Jvm.MethodName) jdk_52_method_6_code (1 : Nat) (Option.some Jvm.ClassFile.FieldType.int)).before args0 about1 = true := code_word (m := ⟨8, 5⟩) (meth := k8m5) (c := k8c5) (by decide +kernel) rfl rfl rfl (by decide +kernel)
set_option maxRecDepth 65536 in
theorem w_c43 : (Jvm.Cond.code ({ cls := "java/lang/String", name := "checkBoundsOffCount", desc := "(III)I" } : Jvm.MethodName) jdk_42_method_157_code (3 : Nat) (Option.some Jvm.ClassFile.FieldType.int)).before args0 about1 = true := code_word (m := ⟨7, 6⟩) (meth := k7m6) (c := k7c6) (by decide +kernel) rfl rfl rfl (by decide +kernel)
set_option maxRecDepth 65536 in
theorem w_c44 : (Jvm.Cond.code ({ cls := "jdk/internal/util/Preconditions", name := "checkFromIndexSize", desc := "(IIILjava/util/function/BiFunction;)I" } : Jvm.MethodName) jdk_41_method_13_code (4 : Nat) (Option.some Jvm.ClassFile.FieldType.int)).before args0 about1 = true := code_word (m := ⟨16, 1⟩) (meth := k16m1) (c := k16c1) (by decide +kernel) rfl rfl rfl (by decide +kernel)
set_option maxRecDepth 65536 in
theorem w_c45 : (Jvm.Cond.code ({ cls := "backstitch/Needle$Anchor", name := "index", desc := "()I" } : Jvm.MethodName) prog_9_method_6_code (1 : Nat) (Option.some Jvm.ClassFile.FieldType.int)).before args0 about1 = true := code_word (m := ⟨12, 1⟩) (meth := k12m1) (c := k12c1) (by decide +kernel) rfl rfl rfl (by decide +kernel)
def codes1 : List Jvm.Cond := [Jvm.Cond.code x code maxLocals ret, Jvm.Cond.code ({ cls := "backstitch/NeedleOfPinLaw", name := "unit", desc := "(I)C" } : Jvm.MethodName) method_2_code (1 : Nat) (Option.some Jvm.ClassFile.FieldType.char), Jvm.Cond.code ({ cls := "backstitch/NeedleOfPinLaw", name := "pattern", desc := "(ICCCCC)[C" } : Jvm.MethodName) method_3_code (6 : Nat) (Option.some (Jvm.ClassFile.FieldType.array Jvm.ClassFile.FieldType.char)), Jvm.Cond.code ({ cls := "java/lang/String", name := "<init>", desc := "([C)V" } : Jvm.MethodName) jdk_42_method_3_code (2 : Nat) (Option.none : Option Jvm.ClassFile.FieldType), Jvm.Cond.code ({ cls := "java/lang/String", name := "<init>", desc := "([CIILjava/lang/Void;)V" } : Jvm.MethodName) jdk_42_method_149_code (6 : Nat) (Option.none : Option Jvm.ClassFile.FieldType), Jvm.Cond.code ({ cls := "java/lang/Object", name := "<init>", desc := "()V" } : Jvm.MethodName) object_method_1_code (1 : Nat) (Option.none : Option Jvm.ClassFile.FieldType), Jvm.Cond.code ({ cls := "java/lang/StringUTF16", name := "compress", desc := "([CII)[B" } : Jvm.MethodName) jdk_52_method_16_code (6 : Nat) (Option.some (Jvm.ClassFile.FieldType.array Jvm.ClassFile.FieldType.byte)), Jvm.Cond.code ({ cls := "java/lang/StringUTF16", name := "compress", desc := "([CI[BII)I" } : Jvm.MethodName) jdk_52_method_21_code (7 : Nat) (Option.some Jvm.ClassFile.FieldType.int), Jvm.Cond.code ({ cls := "java/lang/StringUTF16", name := "coderFromArrayLen", desc := "([BI)B" } : Jvm.MethodName) jdk_52_method_15_code (2 : Nat) (Option.some Jvm.ClassFile.FieldType.byte), Jvm.Cond.code ({ cls := "backstitch/Needle", name := "of", desc := "(Ljava/lang/CharSequence;)Lbackstitch/Needle;" } : Jvm.MethodName) prog_8_method_2_code (1 : Nat) (Option.some (Jvm.ClassFile.FieldType.object "backstitch/Needle")), Jvm.Cond.code ({ cls := "java/lang/String", name := "toString", desc := "()Ljava/lang/String;" } : Jvm.MethodName) jdk_42_method_126_code (1 : Nat) (Option.some (Jvm.ClassFile.FieldType.object "java/lang/String")), Jvm.Cond.code ({ cls := "java/lang/String", name := "toCharArray", desc := "()[C" } : Jvm.MethodName) jdk_42_method_129_code (1 : Nat) (Option.some (Jvm.ClassFile.FieldType.array Jvm.ClassFile.FieldType.char)), Jvm.Cond.code ({ cls := "java/lang/String", name := "isLatin1", desc := "()Z" } : Jvm.MethodName) jdk_42_method_154_code (1 : Nat) (Option.some Jvm.ClassFile.FieldType.boolean), Jvm.Cond.code ({ cls := "java/lang/StringLatin1", name := "toChars", desc := "([B)[C" } : Jvm.MethodName) jdk_43_method_9_code (2 : Nat) (Option.some (Jvm.ClassFile.FieldType.array Jvm.ClassFile.FieldType.char)), Jvm.Cond.code ({ cls := "java/lang/StringLatin1", name := "inflate", desc := "([BI[CII)V" } : Jvm.MethodName) jdk_43_method_49_code (6 : Nat) (Option.none : Option Jvm.ClassFile.FieldType), Jvm.Cond.code ({ cls := "backstitch/Needle", name := "<init>", desc := "([CZ)V" } : Jvm.MethodName) prog_8_method_1_code (13 : Nat) (Option.none : Option Jvm.ClassFile.FieldType), Jvm.Cond.code ({ cls := "backstitch/Needle", name := "rarity", desc := "(C)I" } : Jvm.MethodName) prog_8_method_31_code (1 : Nat) (Option.some Jvm.ClassFile.FieldType.int), Jvm.Cond.code ({ cls := "backstitch/Needle", name := "anchorAt", desc := "(I)Lbackstitch/Needle$Anchor;" } : Jvm.MethodName) prog_8_method_30_code (3 : Nat) (Option.some (Jvm.ClassFile.FieldType.object "backstitch/Needle$Anchor")), Jvm.Cond.code ({ cls := "backstitch/Needle$Anchor", name := "<init>", desc := "(ICJI)V" } : Jvm.MethodName) prog_9_method_1_code (6 : Nat) (Option.none : Option Jvm.ClassFile.FieldType), Jvm.Cond.code ({ cls := "java/lang/Record", name := "<init>", desc := "()V" } : Jvm.MethodName) jdk_30_method_1_code (1 : Nat) (Option.none : Option Jvm.ClassFile.FieldType), Jvm.Cond.code ({ cls := "backstitch/Needle", name := "listCandidates", desc := "()[Lbackstitch/Needle$Anchor;" } : Jvm.MethodName) prog_8_method_29_code (10 : Nat) (Option.some (Jvm.ClassFile.FieldType.array (Jvm.ClassFile.FieldType.object "backstitch/Needle$Anchor"))), Jvm.Cond.code ({ cls := "backstitch/Needle$Anchor", name := "unit", desc := "()C" } : Jvm.MethodName) prog_9_method_7_code (1 : Nat) (Option.some Jvm.ClassFile.FieldType.char), Jvm.Cond.code ({ cls := "java/lang/Math", name := "min", desc := "(II)I" } : Jvm.MethodName) jdk_29_method_69_code (2 : Nat) (Option.some Jvm.ClassFile.FieldType.int), Jvm.Cond.code ({ cls := "backstitch/Needle$Tally", name := "<init>", desc := "()V" } : Jvm.MethodName) prog_11_method_1_code (1 : Nat) (Option.none : Option Jvm.ClassFile.FieldType), Jvm.Cond.code ({ cls := "backstitch/Needle", name := "begin", desc := "(C)I" } : Jvm.MethodName) prog_8_method_35_code (2 : Nat) (Option.some Jvm.ClassFile.FieldType.int), Jvm.Cond.code ({ cls := "java/lang/Math", name := "max", desc := "(II)I" } : Jvm.MethodName) jdk_29_method_65_code (2 : Nat) (Option.some Jvm.ClassFile.FieldType.int), Jvm.Cond.code ({ cls := "backstitch/Needle", name := "requireKind", desc := "(Z)V" } : Jvm.MethodName) prog_8_method_22_code (2 : Nat) (Option.none : Option Jvm.ClassFile.FieldType), Jvm.Cond.code ({ cls := "backstitch/Needle", name := "length", desc := "()I" } : Jvm.MethodName) prog_8_method_23_code (1 : Nat) (Option.some Jvm.ClassFile.FieldType.int), Jvm.Cond.code ({ cls := "backstitch/Needle", name := "borders", desc := "()[I" } : Jvm.MethodName) prog_8_method_17_code (1 : Nat) (Option.some (Jvm.ClassFile.FieldType.array Jvm.ClassFile.FieldType.int)), Jvm.Cond.code ({ cls := "backstitch/NeedleOfPinLaw", name := "border", desc := "([CI)I" } : Jvm.MethodName) method_5_code (2 : Nat) (Option.some Jvm.ClassFile.FieldType.int), Jvm.Cond.code ({ cls := "backstitch/NeedleOfPinLaw", name := "same", desc := "([CII)Z" } : Jvm.MethodName) method_4_code (3 : Nat) (Option.some Jvm.ClassFile.FieldType.boolean), Jvm.Cond.code ({ cls := "backstitch/Needle", name := "period", desc := "()I" } : Jvm.MethodName) prog_8_method_18_code (1 : Nat) (Option.some Jvm.ClassFile.FieldType.int), Jvm.Cond.code ({ cls := "backstitch/Needle", name := "lastBorder", desc := "()I" } : Jvm.MethodName) prog_8_method_24_code (1 : Nat) (Option.some Jvm.ClassFile.FieldType.int), Jvm.Cond.code ({ cls := "backstitch/Needle", name := "advance", desc := "(ICLbackstitch/Needle$Tally;)I" } : Jvm.MethodName) prog_8_method_34_code (4 : Nat) (Option.some Jvm.ClassFile.FieldType.int), Jvm.Cond.code ({ cls := "java/lang/StringUTF16", name := "toBytes", desc := "([CII)[B" } : Jvm.MethodName) jdk_52_method_14_code (5 : Nat) (Option.some (Jvm.ClassFile.FieldType.array Jvm.ClassFile.FieldType.byte)), Jvm.Cond.code ({ cls := "java/lang/StringUTF16", name := "newBytesFor", desc := "(I)[B" } : Jvm.MethodName) jdk_52_method_2_code (1 : Nat) (Option.some (Jvm.ClassFile.FieldType.array Jvm.ClassFile.FieldType.byte)), Jvm.Cond.code ({ cls := "java/lang/StringUTF16", name := "newBytesLength", desc := "(I)I" } : Jvm.MethodName) jdk_52_method_3_code (1 : Nat) (Option.some Jvm.ClassFile.FieldType.int), Jvm.Cond.code ({ cls := "java/lang/StringUTF16", name := "putChar", desc := "([BII)V" } : Jvm.MethodName) jdk_52_method_4_code (3 : Nat) (Option.none : Option Jvm.ClassFile.FieldType), Jvm.Cond.code ({ cls := "java/lang/StringUTF16", name := "getChar", desc := "([BI)C" } : Jvm.MethodName) jdk_52_method_5_code (2 : Nat) (Option.some Jvm.ClassFile.FieldType.char), Jvm.Cond.code ({ cls := "java/lang/StringUTF16", name := "toChars", desc := "([B)[C" } : Jvm.MethodName) jdk_52_method_13_code (2 : Nat) (Option.some (Jvm.ClassFile.FieldType.array Jvm.ClassFile.FieldType.char)), Jvm.Cond.code ({ cls := "java/lang/StringUTF16", name := "getChars", desc := "([BII[CI)V" } : Jvm.MethodName) jdk_52_method_26_code (6 : Nat) (Option.none : Option Jvm.ClassFile.FieldType), Jvm.Cond.code ({ cls := "java/lang/StringUTF16", name := "checkBoundsOffCount", desc := "(II[B)V" } : Jvm.MethodName) jdk_52_method_94_code (3 : Nat) (Option.none : Option Jvm.ClassFile.FieldType), Jvm.Cond.code ({ cls := "java/lang/StringUTF16", name := "length", desc := "([B)I" } : Jvm.MethodName) jdk_52_method_6_code (1 : Nat) (Option.some Jvm.ClassFile.FieldType.int), Jvm.Cond.code ({ cls := "java/lang/String", name := "checkBoundsOffCount", desc := "(III)I" } : Jvm.MethodName) jdk_42_method_157_code (3 : Nat) (Option.some Jvm.ClassFile.FieldType.int), Jvm.Cond.code ({ cls := "jdk/internal/util/Preconditions", name := "checkFromIndexSize", desc := "(IIILjava/util/function/BiFunction;)I" } : Jvm.MethodName) jdk_41_method_13_code (4 : Nat) (Option.some Jvm.ClassFile.FieldType.int), Jvm.Cond.code ({ cls := "backstitch/Needle$Anchor", name := "index", desc := "()I" } : Jvm.MethodName) prog_9_method_6_code (1 : Nat) (Option.some Jvm.ClassFile.FieldType.int)]
set_option maxRecDepth 65536 in
theorem codes_eq : words1.filter isCode = codes1 := rfl
theorem w_codes : ∀ c ∈ words1.filter isCode, c.before args0 about1 = true := by
  rw [codes_eq]
  intro c hc
  simp only [codes1, List.mem_cons, List.not_mem_nil, or_false] at hc
  rcases hc with rfl | rfl | rfl | rfl | rfl | rfl | rfl | rfl | rfl | rfl | rfl | rfl | rfl | rfl | rfl | rfl | rfl | rfl | rfl | rfl | rfl | rfl | rfl | rfl | rfl | rfl | rfl | rfl | rfl | rfl | rfl | rfl | rfl | rfl | rfl | rfl | rfl | rfl | rfl | rfl | rfl | rfl | rfl | rfl | rfl | rfl
  · exact w_c0
  · exact w_c1
  · exact w_c2
  · exact w_c3
  · exact w_c4
  · exact w_c5
  · exact w_c6
  · exact w_c7
  · exact w_c8
  · exact w_c9
  · exact w_c10
  · exact w_c11
  · exact w_c12
  · exact w_c13
  · exact w_c14
  · exact w_c15
  · exact w_c16
  · exact w_c17
  · exact w_c18
  · exact w_c19
  · exact w_c20
  · exact w_c21
  · exact w_c22
  · exact w_c23
  · exact w_c24
  · exact w_c25
  · exact w_c26
  · exact w_c27
  · exact w_c28
  · exact w_c29
  · exact w_c30
  · exact w_c31
  · exact w_c32
  · exact w_c33
  · exact w_c34
  · exact w_c35
  · exact w_c36
  · exact w_c37
  · exact w_c38
  · exact w_c39
  · exact w_c40
  · exact w_c41
  · exact w_c42
  · exact w_c43
  · exact w_c44
  · exact w_c45
set_option maxRecDepth 65536 in
theorem w_t1 : (words1.take 24).all (fun c => isCode c || c.before args0 about1) = true := by decide +kernel
set_option maxRecDepth 65536 in
theorem w_t2 : ((words1.drop 24).take 24).all (fun c => isCode c || c.before args0 about1) = true := by decide +kernel
set_option maxRecDepth 65536 in
theorem w_t3 : (((words1.drop 24).drop 24).take 24).all (fun c => isCode c || c.before args0 about1) = true := by decide +kernel
set_option maxRecDepth 65536 in
theorem w_t4 : ((((words1.drop 24).drop 24).drop 24).take 24).all (fun c => isCode c || c.before args0 about1) = true := by decide +kernel
set_option maxRecDepth 65536 in
theorem w_t5 : (((((words1.drop 24).drop 24).drop 24).drop 24).take 24).all (fun c => isCode c || c.before args0 about1) = true := by decide +kernel
set_option maxRecDepth 65536 in
theorem w_t6 : ((((((words1.drop 24).drop 24).drop 24).drop 24).drop 24).take 24).all (fun c => isCode c || c.before args0 about1) = true := by decide +kernel
set_option maxRecDepth 65536 in
theorem w_t7 : (((((((words1.drop 24).drop 24).drop 24).drop 24).drop 24).drop 24).take 24).all (fun c => isCode c || c.before args0 about1) = true := by decide +kernel
set_option maxRecDepth 65536 in
theorem w_t8 : ((((((((words1.drop 24).drop 24).drop 24).drop 24).drop 24).drop 24).drop 24).take 24).all (fun c => isCode c || c.before args0 about1) = true := by decide +kernel
set_option maxRecDepth 65536 in
theorem w_t9 : (((((((((words1.drop 24).drop 24).drop 24).drop 24).drop 24).drop 24).drop 24).drop 24).take 24).all (fun c => isCode c || c.before args0 about1) = true := by decide +kernel
set_option maxRecDepth 65536 in
theorem w_t10 : ((((((((((words1.drop 24).drop 24).drop 24).drop 24).drop 24).drop 24).drop 24).drop 24).drop 24).take 24).all (fun c => isCode c || c.before args0 about1) = true := by decide +kernel
set_option maxRecDepth 65536 in
theorem w_t11 : ((((((((((words1.drop 24).drop 24).drop 24).drop 24).drop 24).drop 24).drop 24).drop 24).drop 24).drop 24).all (fun c => isCode c || c.before args0 about1) = true := by decide +kernel
theorem w_tables : (allAtoms (Jvm.Cond.code x code maxLocals ret :: tables_1)).before args0 about1 = true := by
  rw [allAtoms_all]
  show words1.all (fun c => c.before args0 about1) = true
  refine all_split ?_ w_codes
  rw [← List.take_append_drop 24 words1, List.all_append, w_t1, ← List.take_append_drop 24 (words1.drop 24), List.all_append, w_t2, ← List.take_append_drop 24 ((words1.drop 24).drop 24), List.all_append, w_t3, ← List.take_append_drop 24 (((words1.drop 24).drop 24).drop 24), List.all_append, w_t4, ← List.take_append_drop 24 ((((words1.drop 24).drop 24).drop 24).drop 24), List.all_append, w_t5, ← List.take_append_drop 24 (((((words1.drop 24).drop 24).drop 24).drop 24).drop 24), List.all_append, w_t6, ← List.take_append_drop 24 ((((((words1.drop 24).drop 24).drop 24).drop 24).drop 24).drop 24), List.all_append, w_t7, ← List.take_append_drop 24 (((((((words1.drop 24).drop 24).drop 24).drop 24).drop 24).drop 24).drop 24), List.all_append, w_t8, ← List.take_append_drop 24 ((((((((words1.drop 24).drop 24).drop 24).drop 24).drop 24).drop 24).drop 24).drop 24), List.all_append, w_t9, ← List.take_append_drop 24 (((((((((words1.drop 24).drop 24).drop 24).drop 24).drop 24).drop 24).drop 24).drop 24).drop 24), List.all_append, w_t10, w_t11]
  rfl
set_option maxRecDepth 65536 in
theorem w_rest : rest_1_c.before args0 about1 = true := by decide +kernel
set_option maxRecDepth 65536 in
theorem w_case : (Jvm.Cond.and given_1 narrow_1).before args0 about1 = true := by decide +kernel
set_option maxRecDepth 65536 in
theorem w_consts : constsHeld consts_1 about1 := Jvm.Lit.constsHeldB_iff.mp (by decide +kernel)
theorem w_applies : (headSpec (Jvm.Cond.code x code maxLocals ret :: tables_1) room_1).applies x e0.platform about1 = true :=
  (Spec.applies_iff w_frames).mpr ⟨w_running, w_runnable, w_alone, w_named, w_hears, w_ripe, w_room, w_tables⟩
theorem atStart : AtStart classFile x code maxLocals ret World_1 tables_1 room_1 Calls_1 rest_1 Pre_1 launch0 p0 e0 about1 theMethod args0 below0 :=
  ⟨lists_1, trivial, launch0.admits_env _ _ _, launch0.least_env, fairChoices_fair.cas, fairChoices_fair.clock, w_frames, w_args, w_heap, w_applies, ⟨w_consts, trivial⟩, w_rest, w_case⟩
end start1
theorem witness_1 : WitnessClaimed_1 := ⟨start1.p0, start1.e0, start1.about1, start1.theMethod, start1.args0, start1.below0, start1.atStart⟩
end Jvm.Pilot.@@N@@
