import JvmDerived
import JvmDerived.Pilot.@@N@@Statement
import JvmDerived.Pilot.@@N@@Code
set_option linter.unusedVariables false
set_option linter.unusedSimpArgs false
@@BLOCK:NumsL.lean.txt@@
/- laws to paste: Road.backV, Road.eqW (cut by pick.py; bodies as the Statement names them) -/
namespace Jvm.Pilot.@@N@@
namespace StrChars
open Jvm Sem ClassFile Op Lib Jvm.Stand Jvm.Free.XT Jvm.Free.ALB Jvm.Free.JM Jvm.Free
open Jvm.Lib.Cold (StaticIs)
/-- a char array whose places are chars -/
def Ch (a : Addr) (A : Cell) (U : State) : Prop := Arr .char a A U ∧ Typed .char A
theorem Ch.mv {a : Addr} {A : Cell} {U U' : State} (h : Ch a A U) (hal : U.vm.Alike U'.vm) (hh : U'.heap = U.heap) : Ch a A U' := ⟨h.1.mv hal hh, h.2⟩
theorem Ch.keep {a : Addr} {A : Cell} {U U' : State} (h : Ch a A U) (hal : U.vm.Alike U'.vm) (hk : U'.heap[a]? = some A) : Ch a A U' := ⟨h.1.keep hal hk, h.2⟩
/-- what place i of a char[]'s cell holds -/
def cv (A : Cell) (i : Nat) : Int32 := match A.slots[i]? with | some (.int x) => x | _ => 0
theorem Ch.get {a : Addr} {A : Cell} {U : State} (h : Ch a A U) {i : Nat} (hi : i < A.slots.size) : A.slots[i]? = some (.int (cv A i)) := by
  have e := Array.getElem?_eq_getElem hi
  have f := h.2 i _ e
  unfold cv; rw [e]
  generalize A.slots[i] = v at f
  cases v <;> simp [fits] at f ⊢
/-- the byte that i2b leaves of a char -/
def lo8 (x : Int32) : Int32 := x.toInt8.toInt32
theorem fits_lo8 (y : Int32) : fits .byte (.int (lo8 y)) = true := by
  have h1 := y.toInt8.le_toInt
  have h2 := y.toInt8.toInt_lt
  simp only [lo8, fits, Bool.and_eq_true, decide_eq_true_eq, Int32.le_iff_toInt_le, Int8.toInt_toInt32, show (-128 : Int32).toInt = -128 from by decide, show (127 : Int32).toInt = 127 from by decide]
  omega
/-- A' is A but that each place j of lo .. hi - 1 holds f j -/
def Laid (A A' : Cell) (lo hi : Nat) (f : Nat → Value) : Prop := A'.cls = A.cls ∧ A'.vm = A.vm ∧ A'.slots.size = A.slots.size ∧ ∀ i, A'.slots[i]? = if lo ≤ i ∧ i < hi then some (f i) else A.slots[i]?
theorem Laid.zero (A : Cell) (lo : Nat) (f : Nat → Value) : Laid A A lo (lo + 0) f := ⟨rfl, rfl, rfl, fun i => by rw [if_neg (by omega)]⟩
theorem Laid.step {A Ak : Cell} {lo k : Nat} {f : Nat → Value} {v : Value} (h : Laid A Ak lo k f) (hlo : lo ≤ k) (hk : k < Ak.slots.size) (hv : v = f k) : Laid A (Ak.setSlot k v) lo (k + 1) f := by
  refine ⟨h.1, h.2.1, by simpa [Cell.setSlot] using h.2.2.1, fun i => ?_⟩
  by_cases e : k = i
  · subst e; rw [Cell.slots_setSlot_self v hk, if_pos (by omega), hv]
  · rw [Cell.slots_setSlot_ne v e, h.2.2.2 i]
    by_cases q : lo ≤ i ∧ i < k
    · rw [if_pos q, if_pos (by omega)]
    · rw [if_neg q, if_neg (by omega)]
def U16 : String := "java/lang/StringUTF16"
namespace Cmp5
def yN : MethodName := ⟨"java/lang/StringUTF16", "compress", "([CI[BII)I"⟩
abbrev yB : ByteArray := jdk_52_method_21_code
theorem d0 : decode yB 0 = .ok (.iconst 0, 1) := by decide +kernel
theorem d1 : decode yB 1 = .ok (.istore 5, 2) := by decide +kernel
theorem d3 : decode yB 3 = .ok (.iload 5, 2) := by decide +kernel
theorem d5 : decode yB 5 = .ok (.iload 4, 2) := by decide +kernel
theorem d7 : decode yB 7 = .ok (.if_icmp (.ge) 37, 3) := by decide +kernel
theorem d10 : decode yB 10 = .ok (.aload_n 0, 1) := by decide +kernel
theorem d11 : decode yB 11 = .ok (.iload_n 1, 1) := by decide +kernel
theorem d12 : decode yB 12 = .ok (.caload, 1) := by decide +kernel
theorem d13 : decode yB 13 = .ok (.istore 6, 2) := by decide +kernel
theorem d15 : decode yB 15 = .ok (.iload 6, 2) := by decide +kernel
theorem d17 : decode yB 17 = .ok (.sipush 255, 3) := by decide +kernel
theorem d20 : decode yB 20 = .ok (.if_icmp (.le) 6, 3) := by decide +kernel
theorem d26 : decode yB 26 = .ok (.aload_n 2, 1) := by decide +kernel
theorem d27 : decode yB 27 = .ok (.iload_n 3, 1) := by decide +kernel
theorem d28 : decode yB 28 = .ok (.iload 6, 2) := by decide +kernel
theorem d30 : decode yB 30 = .ok (.i2b, 1) := by decide +kernel
theorem d31 : decode yB 31 = .ok (.bastore, 1) := by decide +kernel
theorem d32 : decode yB 32 = .ok (.iinc 1 1, 3) := by decide +kernel
theorem d35 : decode yB 35 = .ok (.iinc 3 1, 3) := by decide +kernel
theorem d38 : decode yB 38 = .ok (.iinc 5 1, 3) := by decide +kernel
theorem d41 : decode yB 41 = .ok (.goto (-38), 3) := by decide +kernel
theorem d44 : decode yB 44 = .ok (.iload 4, 2) := by decide +kernel
theorem d46 : decode yB 46 = .ok (.ireturn, 1) := by decide +kernel
def site : List Cond := []
def tab : Cond := tabOf yN yB 7 (some .int) site
def P (b : Addr) (A : Cell) (d : Addr) (B : Cell) (o q len : Nat) (args : Array Value) (s : State) : Prop := args = #[.ref b, .int (Int32.ofNat o), .ref d, .int (Int32.ofNat q), .int (Int32.ofNat len)] ∧ Ch b A s ∧ Arr .byte d B s ∧ b ≠ d ∧ o + len ≤ A.slots.size ∧ q + len ≤ B.slots.size ∧ ∀ i, i < len → ¬ 255 < cv A (o + i)
def E (b : Addr) (A : Cell) (d : Addr) (B : Cell) (o q len : Nat) (r : Option Value) (s u : State) : Prop := r = some (.int (Int32.ofNat len)) ∧ ∃ B', Put d B' s u ∧ Laid B B' q (q + len) (fun j => Value.int (lo8 (cv A (o + (j - q)))))
/-- no char of the range above 255: len; the places written hold each char's low byte -/
theorem law (l : Launch) (b : Addr) (A : Cell) (d : Addr) (B : Cell) (o q len : Nat) : Law l yN 5 5 0 0 yB 7 (some .int) site (P b A d B o q len) (E b A d B o q len) (copyLocs d q len) 0 0 := by
  refine Law.of_walk (plainFor_of_name (by decide +kernel)) (by decide +kernel) (by decide +kernel) (by decide) (fun _ _ h => by rw [h.1]; rfl) (fun _ U U' hal hh h => ⟨h.1, h.2.1.mv hal hh, h.2.2.1.mv hal hh, h.2.2.2⟩) (fun r U U' V V' h1 hal h2 h => ⟨h.1, h.2.elim fun B' q => ⟨B', q.1.mv h1 h2, q.2⟩⟩) ?_
  intro p e s m args below meth c s₁ X0 hexec hbytes hml hret hlk hnm hown hh0 W hP
  obtain ⟨rfl, hA, hB, hne, l1, l2, hp⟩ := hP
  have c1 : Steps p.tables e below (s₁.setTop (entryFrame m #[.ref b, .int (Int32.ofNat o), .ref d, .int (Int32.ofNat q), .int (Int32.ofNat len)] 7)) (s₁.setTop (mkF m 0 #[.val (.ref b), .val (.int (Int32.ofNat o)), .val (.ref d), .val (.int (Int32.ofNat q)), .val (.int (Int32.ofNat len)), .unset, .unset] [])) := entry rfl
  have hA0 := hA.1.mv X0.warmed.alike hh0
  have hB0 := hB.mv X0.warmed.alike hh0
  have a31 := hA.1.2.2.2
  have c2 : Steps p.tables e below (s₁.setTop (entryFrame m #[.ref b, .int (Int32.ofNat o), .ref d, .int (Int32.ofNat q), .int (Int32.ofNat len)] 7)) (s₁.setTop (mkF m 3 #[.val (.ref b), .val (.int (Int32.ofNat o)), .val (.ref d), .val (.int (Int32.ofNat q)), .val (.int (Int32.ofNat len)), .val (.int 0), .unset] [])) := c1.trans (by
    refine iconstV X0.here hexec rfl 0 (hb hbytes d0) (by decide) ?_
    refine XS.istore X0.here hexec rfl (hb hbytes d1) rfl rfl ?_
    exact Steps.refl _)
  have loop : ∀ (r i : Nat), i + r = len → ∀ (z : Slot), (z = .unset ∨ ∃ w, z = .val w ∧ w.category = 1) → ∀ (Tl : State) (Bk : Cell), Stand p l e { frames := 0, locals := 0, cells := 0, slots := 0 } s m #[.ref b, .int (Int32.ofNat o), .ref d, .int (Int32.ofNat q), .int (Int32.ofNat len)] below meth c Tl ([] ++ copyLocs d q i) 0 0 → Put d Bk s₁ Tl → Laid B Bk q (q + i) (fun j => Value.int (lo8 (cv A (o + (j - q))))) →
      Steps p.tables e below (s₁.setTop (entryFrame m #[.ref b, .int (Int32.ofNat o), .ref d, .int (Int32.ofNat q), .int (Int32.ofNat len)] 7)) (Tl.setTop (mkF m 3 #[.val (.ref b), .val (.int (Int32.ofNat (o + i))), .val (.ref d), .val (.int (Int32.ofNat (q + i))), .val (.int (Int32.ofNat len)), .val (.int (Int32.ofNat i)), z] [])) → ∃ (T' : State) (B' : Cell) (z' : Slot), Stand p l e { frames := 0, locals := 0, cells := 0, slots := 0 } s m #[.ref b, .int (Int32.ofNat o), .ref d, .int (Int32.ofNat q), .int (Int32.ofNat len)] below meth c T' ([] ++ copyLocs d q len) 0 0 ∧ Put d B' s₁ T' ∧ Laid B B' q (q + len) (fun j => Value.int (lo8 (cv A (o + (j - q))))) ∧
      Steps p.tables e below (s₁.setTop (entryFrame m #[.ref b, .int (Int32.ofNat o), .ref d, .int (Int32.ofNat q), .int (Int32.ofNat len)] 7)) (T'.setTop (mkF m 3 #[.val (.ref b), .val (.int (Int32.ofNat (o + len))), .val (.ref d), .val (.int (Int32.ofNat (q + len))), .val (.int (Int32.ofNat len)), .val (.int (Int32.ofNat len)), z'] [])) := by
    intro r
    induction r with
    | zero =>
      intro i hi z hz Tl Bk Xl pl fl cl
      have hil : i = len := by omega
      rw [hil] at Xl fl cl
      exact ⟨Tl, Bk, z, Xl, pl, fl, cl⟩
    | succ r ih =>
      intro i hi z hz Tl Bk Xl pl fl cl
      have all := X0.warmed.alike.symm.trans Xl.warmed.alike
      have hAl := hA0.keep all (pl.other hne hA0.1)
      have hBk := hB0.like all pl.1 fl.1 fl.2.1 fl.2.2.1
      have hlt : q + i < Bk.slots.size := by rw [fl.2.2.1]; omega
      have c3 : Steps p.tables e below (s₁.setTop (entryFrame m #[.ref b, .int (Int32.ofNat o), .ref d, .int (Int32.ofNat q), .int (Int32.ofNat len)] 7)) (Tl.setTop (mkF m 12 #[.val (.ref b), .val (.int (Int32.ofNat (o + i))), .val (.ref d), .val (.int (Int32.ofNat (q + i))), .val (.int (Int32.ofNat len)), .val (.int (Int32.ofNat i)), z] [.int (Int32.ofNat (o + i)), .ref b])) := cl.trans (by
        refine XS.iload Xl.here hexec rfl (hb hbytes d3) rfl ?_
        refine XS.iload Xl.here hexec rfl (hb hbytes d5) rfl ?_
        refine XS.icmpNo Xl.here hexec rfl (hb hbytes d7) rfl (ii_ge_f (lt32 (by omega) (by omega))) ?_
        refine XS.aloadN Xl.here hexec rfl (hb hbytes d10) rfl rfl ?_
        refine XS.iloadN Xl.here hexec rfl (hb hbytes d11) rfl ?_
        exact Steps.refl _)
      have c4 : Steps p.tables e below (s₁.setTop (entryFrame m #[.ref b, .int (Int32.ofNat o), .ref d, .int (Int32.ofNat q), .int (Int32.ofNat len)] 7)) (Tl.setTop (mkF m 13 #[.val (.ref b), .val (.int (Int32.ofNat (o + i))), .val (.ref d), .val (.int (Int32.ofNat (q + i))), .val (.int (Int32.ofNat len)), .val (.int (Int32.ofNat i)), z] [.int (cv A (o + i))])) := c3.trans (by
        refine Xl.aget hexec hAl rfl (hA.get (i := o + i) (by omega)) rfl rfl (hb hbytes d12) ?_
        exact Steps.refl _)
      have c5 : Steps p.tables e below (s₁.setTop (entryFrame m #[.ref b, .int (Int32.ofNat o), .ref d, .int (Int32.ofNat q), .int (Int32.ofNat len)] 7)) (Tl.setTop (mkF m 15 #[.val (.ref b), .val (.int (Int32.ofNat (o + i))), .val (.ref d), .val (.int (Int32.ofNat (q + i))), .val (.int (Int32.ofNat len)), .val (.int (Int32.ofNat i)), .val (.int (cv A (o + i)))] [])) := c4.trans (by
        refine XS.istoreS Xl.here hexec rfl (hb hbytes d13) rfl rfl hz ?_
        exact Steps.refl _)
      have c6 : Steps p.tables e below (s₁.setTop (entryFrame m #[.ref b, .int (Int32.ofNat o), .ref d, .int (Int32.ofNat q), .int (Int32.ofNat len)] 7)) (Tl.setTop (mkF m 31 #[.val (.ref b), .val (.int (Int32.ofNat (o + i))), .val (.ref d), .val (.int (Int32.ofNat (q + i))), .val (.int (Int32.ofNat len)), .val (.int (Int32.ofNat i)), .val (.int (cv A (o + i)))] [.int (lo8 (cv A (o + i))), .int (Int32.ofNat (q + i)), .ref d])) := c5.trans (by
        refine XS.iload Xl.here hexec rfl (hb hbytes d15) rfl ?_
        refine sipushV Xl.here hexec rfl 255 (hb hbytes d17) (by decide) ?_
        refine XS.icmpYes Xl.here hexec rfl (pc0 := 20) rfl (hb hbytes d20) rfl (ii_le_t (hp i (by omega))) (by decide) rfl ?_
        refine XS.aloadN Xl.here hexec rfl (hb hbytes d26) rfl rfl ?_
        refine XS.iloadN Xl.here hexec rfl (hb hbytes d27) rfl ?_
        refine XS.iload Xl.here hexec rfl (hb hbytes d28) rfl ?_
        refine i2b Xl.here hexec rfl (hb hbytes d30) rfl ?_
        exact Steps.refl _)
      obtain ⟨T7, X7, p7, st7⟩ := Xl.aput hexec hBk rfl hlt rfl (fits_lo8 (cv A (o + i))) (g := (mkF m 31 #[.val (.ref b), .val (.int (Int32.ofNat (o + i))), .val (.ref d), .val (.int (Int32.ofNat (q + i))), .val (.int (Int32.ofNat len)), .val (.int (Int32.ofNat i)), .val (.int (cv A (o + i)))] [.int (lo8 (cv A (o + i))), .int (Int32.ofNat (q + i)), .ref d])) rfl (rest := []) rfl (hb hbytes d31)
      have c8 : Steps p.tables e below (s₁.setTop (entryFrame m #[.ref b, .int (Int32.ofNat o), .ref d, .int (Int32.ofNat q), .int (Int32.ofNat len)] 7)) (T7.setTop (mkF m 32 #[.val (.ref b), .val (.int (Int32.ofNat (o + i))), .val (.ref d), .val (.int (Int32.ofNat (q + i))), .val (.int (Int32.ofNat len)), .val (.int (Int32.ofNat i)), .val (.int (cv A (o + i)))] [])) := c6.trans (st7 _ (Steps.refl _))
      have c9 : Steps p.tables e below (s₁.setTop (entryFrame m #[.ref b, .int (Int32.ofNat o), .ref d, .int (Int32.ofNat q), .int (Int32.ofNat len)] 7)) (T7.setTop (mkF m 3 #[.val (.ref b), .val (.int (Int32.ofNat (o + i) + 1)), .val (.ref d), .val (.int (Int32.ofNat (q + i) + 1)), .val (.int (Int32.ofNat len)), .val (.int (Int32.ofNat i + 1)), .val (.int (cv A (o + i)))] [])) := c8.trans (by
        refine iincV X7.here hexec rfl 1 (hb hbytes d32) (by decide) rfl rfl ?_
        refine iincV X7.here hexec rfl 1 (hb hbytes d35) (by decide) rfl rfl ?_
        refine iincV X7.here hexec rfl 1 (hb hbytes d38) (by decide) rfl rfl ?_
        refine XS.goto X7.here hexec rfl (pc0 := 41) rfl (hb hbytes d41) (by decide) rfl ?_
        exact Steps.refl _)
      have c10 : Steps p.tables e below (s₁.setTop (entryFrame m #[.ref b, .int (Int32.ofNat o), .ref d, .int (Int32.ofNat q), .int (Int32.ofNat len)] 7)) (T7.setTop (mkF m 3 #[.val (.ref b), .val (.int (Int32.ofNat (o + (i + 1)))), .val (.ref d), .val (.int (Int32.ofNat (q + (i + 1)))), .val (.int (Int32.ofNat len)), .val (.int (Int32.ofNat (i + 1))), .val (.int (cv A (o + i)))] [])) := by
        have := c9
        rw [succ32, succ32, succ32] at this
        exact this
      exact ih (i + 1) (by omega) _ (Or.inr ⟨_, rfl, rfl⟩) T7 _ (by rw [copyLocs_step, ← List.append_assoc]; exact X7) (pl.trans p7) (fl.step (by omega) hlt (by simp)) c10
  obtain ⟨T9, B9, z9, X9, p9, f9, g9⟩ := loop len 0 (by omega) .unset (Or.inl rfl) s₁ B (by simpa [copyLocs] using X0) ⟨hB0.1, fun _ _ => rfl, rfl⟩ (Laid.zero _ _ _) c2
  have c11 : Steps p.tables e below (s₁.setTop (entryFrame m #[.ref b, .int (Int32.ofNat o), .ref d, .int (Int32.ofNat q), .int (Int32.ofNat len)] 7)) (T9.setTop (mkF m 46 #[.val (.ref b), .val (.int (Int32.ofNat (o + len))), .val (.ref d), .val (.int (Int32.ofNat (q + len))), .val (.int (Int32.ofNat len)), .val (.int (Int32.ofNat len)), z9] [.int (Int32.ofNat len)])) := g9.trans (by
    refine XS.iload X9.here hexec rfl (hb hbytes d3) rfl ?_
    refine XS.iload X9.here hexec rfl (hb hbytes d5) rfl ?_
    refine XS.icmpYes X9.here hexec rfl (pc0 := 7) rfl (hb hbytes d7) rfl (ii_ge_t (nlt32 (by omega) (Nat.le_refl _))) (by decide) rfl ?_
    refine XS.iload X9.here hexec rfl (hb hbytes d44) rfl ?_
    exact Steps.refl _)
  exact ⟨T9, some (.int (Int32.ofNat len)), _, _, _, X9, by simp, rfl, rfl, (fun h => by cases h), ⟨rfl, B9, p9.from hh0, f9⟩, fun fs hl => c11.trans (X9.ireturnOut hexec hret rfl (Or.inl rfl) (hb hbytes d46) hl)⟩
end Cmp5
namespace Cmp3
def yN : MethodName := ⟨"java/lang/StringUTF16", "compress", "([CII)[B"⟩
abbrev yB : ByteArray := jdk_52_method_16_code
theorem d0 : decode yB 0 = .ok (.iload_n 2, 1) := by decide +kernel
theorem d1 : decode yB 1 = .ok (.newarray .byte, 2) := by decide +kernel
theorem d3 : decode yB 3 = .ok (.astore_n 3, 1) := by decide +kernel
theorem d4 : decode yB 4 = .ok (.aload_n 0, 1) := by decide +kernel
theorem d5 : decode yB 5 = .ok (.iload_n 1, 1) := by decide +kernel
theorem d6 : decode yB 6 = .ok (.aload_n 3, 1) := by decide +kernel
theorem d7 : decode yB 7 = .ok (.iconst 0, 1) := by decide +kernel
theorem d8 : decode yB 8 = .ok (.iload_n 2, 1) := by decide +kernel
theorem d9 : decode yB 9 = .ok (.invokestatic 115, 3) := by decide +kernel
theorem d12 : decode yB 12 = .ok (.istore 4, 2) := by decide +kernel
theorem d14 : decode yB 14 = .ok (.iload 4, 2) := by decide +kernel
theorem d16 : decode yB 16 = .ok (.iload_n 2, 1) := by decide +kernel
theorem d17 : decode yB 17 = .ok (.if_icmp (.eq) 40, 3) := by decide +kernel
theorem d57 : decode yB 57 = .ok (.aload_n 3, 1) := by decide +kernel
theorem d58 : decode yB 58 = .ok (.areturn, 1) := by decide +kernel
def site : List Cond := [.arrayClass .byte, Cmp5.tab] ++ staticW U16 115 Cmp5.yN
def tab : Cond := tabOf yN yB 6 (some (.array .byte)) site
def P (b : Addr) (A : Cell) (o len : Nat) (args : Array Value) (s : State) : Prop := args = #[.ref b, .int (Int32.ofNat o), .int (Int32.ofNat len)] ∧ Ch b A s ∧ o + len ≤ A.slots.size ∧ len ≤ 536870912 ∧ ∀ i, i < len → ¬ 255 < cv A (o + i)
def E (b : Addr) (A : Cell) (o len : Nat) (r : Option Value) (s u : State) : Prop := NewArr .byte "[B" len (fun j => .int (lo8 (cv A (o + j)))) r s u ∧ u.heap.size = s.heap.size + 1
/-- no char of the range above 255: a new byte[] of their low bytes -/
theorem law (l : Launch) (b : Addr) (A : Cell) (o len : Nat) : Law l yN 3 3 1 18 yB 6 (some (.array .byte)) site (P b A o len) (E b A o len) [] 1 len := by
  refine Law.of_walk (plainFor_of_name (by decide +kernel)) (by decide +kernel) (by decide +kernel) (by decide) (fun _ _ h => by rw [h.1]; rfl) (fun _ U U' hal hh h => ⟨h.1, h.2.1.mv hal hh, h.2.2⟩) (fun r U U' V V' h1 hal h2 h => ⟨NewArr.mv r U U' V V' h1 hal h2 h.1, by rw [h1, h2]; exact h.2⟩) ?_
  intro p e s m args below meth c s₁ X0 hexec hbytes hml hret hlk hnm hown hh0 W hP
  obtain ⟨rfl, hA, l1, l2, hp⟩ := hP
  have a31 := hA.1.2.2.2
  have c1 : Steps p.tables e below (s₁.setTop (entryFrame m #[.ref b, .int (Int32.ofNat o), .int (Int32.ofNat len)] 6)) (s₁.setTop (mkF m 0 #[.val (.ref b), .val (.int (Int32.ofNat o)), .val (.int (Int32.ofNat len)), .unset, .unset, .unset] [])) := entry rfl
  have c2 : Steps p.tables e below (s₁.setTop (entryFrame m #[.ref b, .int (Int32.ofNat o), .int (Int32.ofNat len)] 6)) (s₁.setTop (mkF m 1 #[.val (.ref b), .val (.int (Int32.ofNat o)), .val (.int (Int32.ofNat len)), .unset, .unset, .unset] [.int (Int32.ofNat len)])) := c1.trans (by
    refine XS.iloadN X0.here hexec rfl (hb hbytes d0) rfl ?_
    exact Steps.refl _)
  obtain ⟨T3, B3, X3, ba3, bs3, bv3, bh3, bf3, st3⟩ := X0.anew hexec (atype := .byte) (wk W (.arrayClass .byte)) rfl (by show len * 1 ≤ _; omega) (by omega) (g := (mkF m 1 #[.val (.ref b), .val (.int (Int32.ofNat o)), .val (.int (Int32.ofNat len)), .unset, .unset, .unset] [.int (Int32.ofNat len)])) rfl (hb hbytes d1) (rest := []) rfl (Nat.le_refl _) (by show 0 + len ≤ len; omega)
  rw [hh0] at ba3 st3
  have kp3 : XT.Kept s T3 := (XT.Kept.of_eq hh0).push bh3
  have hA3 := hA.keep X3.warmed.alike (kp3 _ _ hA.1.1)
  have hne : b ≠ s.heap.size := hA.1.ne
  have c4 : Steps p.tables e below (s₁.setTop (entryFrame m #[.ref b, .int (Int32.ofNat o), .int (Int32.ofNat len)] 6)) (T3.setTop (mkF m 3 #[.val (.ref b), .val (.int (Int32.ofNat o)), .val (.int (Int32.ofNat len)), .unset, .unset, .unset] [.ref s.heap.size])) := c2.trans (st3 _ (Steps.refl _))
  have c5 : Steps p.tables e below (s₁.setTop (entryFrame m #[.ref b, .int (Int32.ofNat o), .int (Int32.ofNat len)] 6)) (T3.setTop (mkF m 9 #[.val (.ref b), .val (.int (Int32.ofNat o)), .val (.int (Int32.ofNat len)), .val (.ref s.heap.size), .unset, .unset] [.int (Int32.ofNat len), .int 0, .ref s.heap.size, .int (Int32.ofNat o), .ref b])) := c4.trans (by
    refine XS.astoreN X3.here hexec rfl (hb hbytes d3) rfl rfl rfl ?_
    refine XS.aloadN X3.here hexec rfl (hb hbytes d4) rfl rfl ?_
    refine XS.iloadN X3.here hexec rfl (hb hbytes d5) rfl ?_
    refine XS.aloadN X3.here hexec rfl (hb hbytes d6) rfl rfl ?_
    refine iconstV X3.here hexec rfl 0 (hb hbytes d7) (by decide) ?_
    refine XS.iloadN X3.here hexec rfl (hb hbytes d8) rfl ?_
    exact Steps.refl _)
  obtain ⟨v6, T6, X6, E6, g6⟩ := X3.callS hexec (Cmp5.law l b A s.heap.size B3 o 0 len) hown (wks W (staticW U16 115 Cmp5.yN)) (wk W Cmp5.tab) (W := 0) (Nat.le_of_ble_eq_true rfl) (Nat.le_of_ble_eq_true rfl) (Nat.le_refl _) (by show 0 + len + 0 ≤ len; omega) (g := (mkF m 9 #[.val (.ref b), .val (.int (Int32.ofNat o)), .val (.int (Int32.ofNat len)), .val (.ref s.heap.size), .unset, .unset] [.int (Int32.ofNat len), .int (Int32.ofNat 0), .ref s.heap.size, .int (Int32.ofNat o), .ref b])) rfl (by rw [hml]; rfl) c5 (argsL := [.ref b, .int (Int32.ofNat o), .ref s.heap.size, .int (Int32.ofNat 0), .int (Int32.ofNat len)]) (rest := []) rfl rfl (by show 2 * 0 + 0 ≤ _; decide) (hb hbytes d9) (⟨rfl, hA3, ba3, hne, l1, by rw [bs3]; simp, hp⟩)
  obtain ⟨rfl, B6, p6, f6⟩ := E6
  have c7 : Steps p.tables e below (s₁.setTop (entryFrame m #[.ref b, .int (Int32.ofNat o), .int (Int32.ofNat len)] 6)) (T6.setTop (mkF m 12 #[.val (.ref b), .val (.int (Int32.ofNat o)), .val (.int (Int32.ofNat len)), .val (.ref s.heap.size), .unset, .unset] [.int (Int32.ofNat len)])) := g6
  have c8 : Steps p.tables e below (s₁.setTop (entryFrame m #[.ref b, .int (Int32.ofNat o), .int (Int32.ofNat len)] 6)) (T6.setTop (mkF m 58 #[.val (.ref b), .val (.int (Int32.ofNat o)), .val (.int (Int32.ofNat len)), .val (.ref s.heap.size), .val (.int (Int32.ofNat len)), .unset] [.ref s.heap.size])) := c7.trans (by
    refine XS.istore X6.here hexec rfl (hb hbytes d12) rfl rfl ?_
    refine XS.iload X6.here hexec rfl (hb hbytes d14) rfl ?_
    refine XS.iloadN X6.here hexec rfl (hb hbytes d16) rfl ?_
    refine XS.icmpYes X6.here hexec rfl (pc0 := 17) rfl (hb hbytes d17) rfl (ii_eq_t rfl) (by decide) rfl ?_
    refine XS.aloadN X6.here hexec rfl (hb hbytes d57) rfl rfl ?_
    exact Steps.refl _)
  have X8 := X6.wide (L' := []) (cells' := 1) (slots' := len) (fun x hx hlt => by
    simp only [List.nil_append, copyLocs, List.mem_map, List.mem_range] at hx
    obtain ⟨i, -, rfl⟩ := hx
    exact absurd hlt (Nat.lt_irrefl _)) (Nat.le_refl _) (by omega)
  exact ⟨T6, some (.ref s.heap.size), _, _, _, X8, rfl, rfl, rfl, (fun h => by cases h), ⟨⟨rfl, B6, ba3.like (X3.warmed.alike.symm.trans X6.warmed.alike) p6.1 f6.1 f6.2.1 f6.2.2.1, f6.2.1.trans bv3, by rw [X6.warmed.alike.findClass, f6.1]; exact bf3, by rw [f6.2.2.1, bs3]; simp, fun j hj => by rw [f6.2.2.2 j, if_pos (by omega)]; rfl, kp3.put p6 (Nat.le_refl _)⟩, by rw [p6.2.2, bh3, hh0]; simp⟩, fun fs hl => c8.trans (X8.areturnOut hexec rfl hret rfl (hb hbytes d58) hl)⟩
end Cmp3
namespace CodL
def yN : MethodName := ⟨"java/lang/StringUTF16", "coderFromArrayLen", "([BI)B"⟩
abbrev yB : ByteArray := jdk_52_method_15_code
theorem d0 : decode yB 0 = .ok (.iload_n 1, 1) := by decide +kernel
theorem d1 : decode yB 1 = .ok (.aload_n 0, 1) := by decide +kernel
theorem d2 : decode yB 2 = .ok (.arraylength, 1) := by decide +kernel
theorem d3 : decode yB 3 = .ok (.isub, 1) := by decide +kernel
theorem d4 : decode yB 4 = .ok (.bipush 31, 2) := by decide +kernel
theorem d6 : decode yB 6 = .ok (.iushr, 1) := by decide +kernel
theorem d7 : decode yB 7 = .ok (.i2b, 1) := by decide +kernel
theorem d8 : decode yB 8 = .ok (.ireturn, 1) := by decide +kernel
def site : List Cond := []
def tab : Cond := tabOf yN yB 2 (some .byte) site
def P (d : Addr) (B : Cell) (args : Array Value) (s : State) : Prop := args = #[.ref d, .int (Int32.ofNat B.slots.size)] ∧ Arr .byte d B s
def E (r : Option Value) (s u : State) : Prop := XT.PureE (some (.int 0)) r s u
/-- an array as long as the number of chars: LATIN1 -/
theorem law (l : Launch) (d : Addr) (B : Cell) : Law l yN 2 2 0 0 yB 2 (some .byte) site (P d B) E [] 0 0 := by
  refine Law.of_walk (plainFor_of_name (by decide +kernel)) (by decide +kernel) (by decide +kernel) (by decide) (fun _ _ h => by rw [h.1]; rfl) (fun _ U U' hal hh h => ⟨h.1, h.2.mv hal hh⟩) (fun r U U' V V' h1 hal h2 h => XT.PureE.mv r U U' V V' h1 hal h2 h) ?_
  intro p e s m args below meth c s₁ X0 hexec hbytes hml hret hlk hnm hown hh0 W hP
  obtain ⟨rfl, hB⟩ := hP
  have hB0 := hB.mv X0.warmed.alike hh0
  have c1 : Steps p.tables e below (s₁.setTop (entryFrame m #[.ref d, .int (Int32.ofNat B.slots.size)] 2)) (s₁.setTop (mkF m 0 #[.val (.ref d), .val (.int (Int32.ofNat B.slots.size))] [])) := entry rfl
  have c2 : Steps p.tables e below (s₁.setTop (entryFrame m #[.ref d, .int (Int32.ofNat B.slots.size)] 2)) (s₁.setTop (mkF m 2 #[.val (.ref d), .val (.int (Int32.ofNat B.slots.size))] [.ref d, .int (Int32.ofNat B.slots.size)])) := c1.trans (by
    refine XS.iloadN X0.here hexec rfl (hb hbytes d0) rfl ?_
    refine XS.aloadN X0.here hexec rfl (hb hbytes d1) rfl rfl ?_
    exact Steps.refl _)
  have c3 : Steps p.tables e below (s₁.setTop (entryFrame m #[.ref d, .int (Int32.ofNat B.slots.size)] 2)) (s₁.setTop (mkF m 8 #[.val (.ref d), .val (.int (Int32.ofNat B.slots.size))] [.int (lo8 (ushr (Int32.ofNat B.slots.size - Int32.ofNat B.slots.size) 31))])) := c2.trans (by
    refine X0.alen hexec hB0 rfl rfl (hb hbytes d2) ?_
    refine XS.isub X0.here hexec rfl (hb hbytes d3) rfl ?_
    refine bipushV X0.here hexec rfl 31 (hb hbytes d4) (by decide) ?_
    refine iushr X0.here hexec rfl (hb hbytes d6) rfl ?_
    refine i2b X0.here hexec rfl (hb hbytes d7) rfl ?_
    exact Steps.refl _)
  have e0 : lo8 (ushr (Int32.ofNat B.slots.size - Int32.ofNat B.slots.size) 31) = 0 := by rw [Int32.sub_self]; decide
  rw [e0] at c3
  exact ⟨s₁, some (.int 0), _, _, _, X0, rfl, rfl, rfl, (fun h => by cases h), ⟨rfl, hh0⟩, fun fs hl => c3.trans (X0.ireturnOut hexec hret rfl (Or.inr (Or.inr (Or.inl rfl))) (hb hbytes d8) hl)⟩
end CodL
/-- the String at a is Latin-1 over a new byte[] (the heap's one new cell): the low bytes of the len chars of A from o on; every cell but a is kept -/
def Got (a : Addr) (D : Cell) (fV fC : Field) (A : Cell) (o len : Nat) (r : Option Value) (s u : State) : Prop := r = none ∧ ∃ D' V : Cell, Blank "java/lang/String" a D' u ∧ Same D D' [fV.slot, fC.slot] ∧ D'.slots[fV.slot]? = some (.ref s.heap.size) ∧ D'.slots[fC.slot]? = some (.int 0) ∧ Arr .byte s.heap.size V u ∧ V.vm = .none ∧ u.vm.findClass "[B" = some V.cls ∧ V.slots.size = len ∧ (∀ j, j < len → V.slots[j]? = some (.int (lo8 (cv A (o + j))))) ∧ (∀ (y : Addr) (c : Cell), y ≠ a → s.heap[y]? = some c → u.heap[y]? = some c) ∧ u.heap.size = s.heap.size + 1
theorem Got.mv {a : Addr} {D A : Cell} {fV fC : Field} {o len : Nat} : ∀ r (U U' V V' : State), U'.heap = U.heap → V.vm.Alike V'.vm → V'.heap = V.heap → Got a D fV fC A o len r U V → Got a D fV fC A o len r U' V' :=
  fun r U U' V V' h1 hal h2 ⟨e0, D', X, a1, a2, a3, a4, a5, a6, a7, a8, a9, a10, a11⟩ => ⟨e0, D', X, a1.mv hal h2, a2, by rw [h1]; exact a3, a4, by rw [h1]; exact a5.mv hal h2, a6, by rw [hal.findClass]; exact a7, a8, a9, by rw [h1, h2]; exact a10, by rw [h1, h2]; exact a11⟩
namespace New4
def yN : MethodName := ⟨"java/lang/String", "<init>", "([CIILjava/lang/Void;)V"⟩
abbrev yB : ByteArray := jdk_42_method_149_code
theorem d0 : decode yB 0 = .ok (.aload_n 0, 1) := by decide +kernel
theorem d1 : decode yB 1 = .ok (.invokespecial 1, 3) := by decide +kernel
theorem d4 : decode yB 4 = .ok (.iload_n 3, 1) := by decide +kernel
theorem d5 : decode yB 5 = .ok (.ifCond (.ne) 22, 3) := by decide +kernel
theorem d27 : decode yB 27 = .ok (.getstatic 38, 3) := by decide +kernel
theorem d30 : decode yB 30 = .ok (.ifCond (.eq) 28, 3) := by decide +kernel
theorem d33 : decode yB 33 = .ok (.aload_n 1, 1) := by decide +kernel
theorem d34 : decode yB 34 = .ok (.iload_n 2, 1) := by decide +kernel
theorem d35 : decode yB 35 = .ok (.iload_n 3, 1) := by decide +kernel
theorem d36 : decode yB 36 = .ok (.invokestatic 177, 3) := by decide +kernel
theorem d39 : decode yB 39 = .ok (.astore 5, 2) := by decide +kernel
theorem d41 : decode yB 41 = .ok (.aload_n 0, 1) := by decide +kernel
theorem d42 : decode yB 42 = .ok (.aload 5, 2) := by decide +kernel
theorem d44 : decode yB 44 = .ok (.iload_n 3, 1) := by decide +kernel
theorem d45 : decode yB 45 = .ok (.invokestatic 47, 3) := by decide +kernel
theorem d48 : decode yB 48 = .ok (.putfield 15, 3) := by decide +kernel
theorem d51 : decode yB 51 = .ok (.aload_n 0, 1) := by decide +kernel
theorem d52 : decode yB 52 = .ok (.aload 5, 2) := by decide +kernel
theorem d54 : decode yB 54 = .ok (.putfield 9, 3) := by decide +kernel
theorem d57 : decode yB 57 = .ok (.return_, 1) := by decide +kernel
def site : List Cond := [.fieldLink "java/lang/String" 38 "java/lang/String" "COMPACT_STRINGS" "Z", Cmp3.tab, CodL.tab, .laysFinal "java/lang/String" "java/lang/String" "value" "[B", .fieldLink "java/lang/String" 9 "java/lang/String" "value" "[B", .laysFinal "java/lang/String" "java/lang/String" "coder" "B", .fieldLink "java/lang/String" 15 "java/lang/String" "coder" "B"] ++ objW "java/lang/String" 1 ++ staticW "java/lang/String" 177 Cmp3.yN ++ staticW "java/lang/String" 47 CodL.yN
def tab : Cond := tabOf yN yB 6 none site
def P (a : Addr) (D : Cell) (fV fC : Field) (b : Addr) (A : Cell) (z : Int32) (o len : Nat) (args : Array Value) (s : State) : Prop := args = #[.ref a, .ref b, .int (Int32.ofNat o), .int (Int32.ofNat len), .null] ∧ Blank "java/lang/String" a D s ∧ Found "java/lang/String" "value" "[B" fV s ∧ Found "java/lang/String" "coder" "B" fC s ∧ Ch b A s ∧ StaticIs s "java/lang/String" "COMPACT_STRINGS" "Z" (.int z) ∧ ¬ z = 0 ∧ 0 < len ∧ o + len ≤ A.slots.size ∧ len ≤ 536870912 ∧ ∀ i, i < len → ¬ 255 < cv A (o + i)
def E (a : Addr) (D : Cell) (fV fC : Field) (A : Cell) (o len : Nat) (r : Option Value) (s u : State) : Prop := Got a D fV fC A o len r s u
/-- len > 0, no char of the range above 255: a Latin-1 String of their low bytes -/
theorem law (l : Launch) (a : Addr) (D : Cell) (fV fC : Field) (b : Addr) (A : Cell) (z : Int32) (o len : Nat) : Law l yN 5 4 2 35 yB 6 none site (P a D fV fC b A z o len) (E a D fV fC A o len) [⟨a, fC.slot⟩, ⟨a, fV.slot⟩] 1 len := by
  refine Law.of_walk (plainFor_of_name (by decide +kernel)) (by decide +kernel) (by decide +kernel) (by decide) (fun _ _ h => by rw [h.1]; rfl) (fun _ U U' hal hh h => ⟨h.1, h.2.1.mv hal hh, h.2.2.1.al hal, h.2.2.2.1.al hal, h.2.2.2.2.1.mv hal hh, h.2.2.2.2.2.1.there hal hh, h.2.2.2.2.2.2⟩) (fun r U U' V V' h1 hal h2 h => Got.mv r U U' V V' h1 hal h2 h) ?_
  intro p e s m args below meth c s₁ X0 hexec hbytes hml hret hlk hnm hown hh0 W hP
  obtain ⟨rfl, hB, f1, f2, hA, s1, hz, l0, l1, l2, hp⟩ := hP
  have a31 := hA.1.2.2.2
  have c1 : Steps p.tables e below (s₁.setTop (entryFrame m #[.ref a, .ref b, .int (Int32.ofNat o), .int (Int32.ofNat len), .null] 6)) (s₁.setTop (mkF m 0 #[.val (.ref a), .val (.ref b), .val (.int (Int32.ofNat o)), .val (.int (Int32.ofNat len)), .val .null, .unset] [])) := entry rfl
  have c2 : Steps p.tables e below (s₁.setTop (entryFrame m #[.ref a, .ref b, .int (Int32.ofNat o), .int (Int32.ofNat len), .null] 6)) (s₁.setTop (mkF m 1 #[.val (.ref a), .val (.ref b), .val (.int (Int32.ofNat o)), .val (.int (Int32.ofNat len)), .val .null, .unset] [.ref a])) := c1.trans (by
    refine XS.aloadN X0.here hexec rfl (hb hbytes d0) rfl rfl ?_
    exact Steps.refl _)
  obtain ⟨T3, X3, q3, st3⟩ := X0.oinit hexec hown (wks W (objW "java/lang/String" 1)) (g := (mkF m 1 #[.val (.ref a), .val (.ref b), .val (.int (Int32.ofNat o)), .val (.int (Int32.ofNat len)), .val .null, .unset] [.ref a])) rfl (by rw [hml]; rfl) (rest := []) rfl (hb hbytes d1) (W := 0) (by show 2 * 0 + 0 ≤ _; decide) (Nat.le_of_ble_eq_true rfl) (Nat.le_of_ble_eq_true rfl)
  have hh3 := q3.trans hh0
  have c4 : Steps p.tables e below (s₁.setTop (entryFrame m #[.ref a, .ref b, .int (Int32.ofNat o), .int (Int32.ofNat len), .null] 6)) (T3.setTop (mkF m 27 #[.val (.ref a), .val (.ref b), .val (.int (Int32.ofNat o)), .val (.int (Int32.ofNat len)), .val .null, .unset] [])) := (c2.trans (st3 _ (Steps.refl _))).trans (by
    refine XS.iloadN X3.here hexec rfl (hb hbytes d4) rfl ?_
    refine XS.ifYes X3.here hexec rfl (pc0 := 5) rfl (hb hbytes d5) rfl (i0_ne_t (nz32 (by omega) l0)) (by decide) rfl ?_
    exact Steps.refl _)
  obtain ⟨T5, X5, q5, st5⟩ := X3.sget hexec hown (wk W (.fieldLink "java/lang/String" 38 "java/lang/String" "COMPACT_STRINGS" "Z")) s1 (fun _ _ h => by rw [hh3]; exact h) (g := (mkF m 27 #[.val (.ref a), .val (.ref b), .val (.int (Int32.ofNat o)), .val (.int (Int32.ofNat len)), .val .null, .unset] [])) rfl (hb hbytes d27)
  have hh5 := q5.trans hh3
  have c6 : Steps p.tables e below (s₁.setTop (entryFrame m #[.ref a, .ref b, .int (Int32.ofNat o), .int (Int32.ofNat len), .null] 6)) (T5.setTop (mkF m 30 #[.val (.ref a), .val (.ref b), .val (.int (Int32.ofNat o)), .val (.int (Int32.ofNat len)), .val .null, .unset] [.int z])) := c4.trans (st5 _ (Steps.refl _))
  have c7 : Steps p.tables e below (s₁.setTop (entryFrame m #[.ref a, .ref b, .int (Int32.ofNat o), .int (Int32.ofNat len), .null] 6)) (T5.setTop (mkF m 36 #[.val (.ref a), .val (.ref b), .val (.int (Int32.ofNat o)), .val (.int (Int32.ofNat len)), .val .null, .unset] [.int (Int32.ofNat len), .int (Int32.ofNat o), .ref b])) := c6.trans (by
    refine XS.ifNo X5.here hexec rfl (hb hbytes d30) rfl (i0_eq_f hz) ?_
    refine XS.aloadN X5.here hexec rfl (hb hbytes d33) rfl rfl ?_
    refine XS.iloadN X5.here hexec rfl (hb hbytes d34) rfl ?_
    refine XS.iloadN X5.here hexec rfl (hb hbytes d35) rfl ?_
    exact Steps.refl _)
  obtain ⟨v8, T8, X8, E8, g8⟩ := X5.callS hexec (Cmp3.law l b A o len) hown (wks W (staticW "java/lang/String" 177 Cmp3.yN)) (wk W Cmp3.tab) (W := 0) (Nat.le_of_ble_eq_true rfl) (Nat.le_of_ble_eq_true rfl) (Nat.le_refl _) (by show 0 + len ≤ len; omega) (g := (mkF m 36 #[.val (.ref a), .val (.ref b), .val (.int (Int32.ofNat o)), .val (.int (Int32.ofNat len)), .val .null, .unset] [.int (Int32.ofNat len), .int (Int32.ofNat o), .ref b])) rfl (by rw [hml]; rfl) c7 (argsL := [.ref b, .int (Int32.ofNat o), .int (Int32.ofNat len)]) (rest := []) rfl rfl (by show 2 * 0 + 0 ≤ _; decide) (hb hbytes d36) (⟨rfl, hA.mv X5.warmed.alike hh5, l1, l2, hp⟩)
  obtain ⟨e8, z8⟩ := E8
  obtain ⟨rfl, N, n1, n2, n3, n4, n5, n6⟩ := NewArr.mv _ T5 s _ _ hh5.symm (Vm.Alike.refl _) rfl e8
  rw [hh5] at z8
  have hB1 := hB.keep X8.warmed.alike (n6 _ _ hB.1)
  have hne : s.heap.size ≠ a := (Nat.ne_of_lt (Array.getElem?_eq_some_iff.mp hB.1).1).symm
  have c9 : Steps p.tables e below (s₁.setTop (entryFrame m #[.ref a, .ref b, .int (Int32.ofNat o), .int (Int32.ofNat len), .null] 6)) (T8.setTop (mkF m 39 #[.val (.ref a), .val (.ref b), .val (.int (Int32.ofNat o)), .val (.int (Int32.ofNat len)), .val .null, .unset] [.ref s.heap.size])) := g8
  have c10 : Steps p.tables e below (s₁.setTop (entryFrame m #[.ref a, .ref b, .int (Int32.ofNat o), .int (Int32.ofNat len), .null] 6)) (T8.setTop (mkF m 45 #[.val (.ref a), .val (.ref b), .val (.int (Int32.ofNat o)), .val (.int (Int32.ofNat len)), .val .null, .val (.ref s.heap.size)] [.int (Int32.ofNat N.slots.size), .ref s.heap.size, .ref a])) := by
    have hc : Steps p.tables e below (s₁.setTop (entryFrame m #[.ref a, .ref b, .int (Int32.ofNat o), .int (Int32.ofNat len), .null] 6)) (T8.setTop (mkF m 45 #[.val (.ref a), .val (.ref b), .val (.int (Int32.ofNat o)), .val (.int (Int32.ofNat len)), .val .null, .val (.ref s.heap.size)] [.int (Int32.ofNat len), .ref s.heap.size, .ref a])) := c9.trans (by
      refine XS.astore X8.here hexec rfl (hb hbytes d39) rfl rfl rfl ?_
      refine XS.aloadN X8.here hexec rfl (hb hbytes d41) rfl rfl ?_
      refine XS.aload X8.here hexec rfl (hb hbytes d42) rfl rfl ?_
      refine XS.iloadN X8.here hexec rfl (hb hbytes d44) rfl ?_
      exact Steps.refl _)
    rw [n4]; exact hc
  obtain ⟨v11, T11, X11, E11, g11⟩ := X8.callS hexec (CodL.law l s.heap.size N) hown (wks W (staticW "java/lang/String" 47 CodL.yN)) (wk W CodL.tab) (W := 1) (Nat.le_of_ble_eq_true rfl) (Nat.le_of_ble_eq_true rfl) (Nat.le_refl _) (by show 0 + len + 0 ≤ len; omega) (g := (mkF m 45 #[.val (.ref a), .val (.ref b), .val (.int (Int32.ofNat o)), .val (.int (Int32.ofNat len)), .val .null, .val (.ref s.heap.size)] [.int (Int32.ofNat N.slots.size), .ref s.heap.size, .ref a])) rfl (by rw [hml]; rfl) c10 (argsL := [.ref s.heap.size, .int (Int32.ofNat N.slots.size)]) (rest := [.ref a]) rfl rfl (by show 2 * 0 + (1 + 0) ≤ _; decide) (hb hbytes d45) (⟨rfl, n1⟩)
  obtain ⟨rfl, q11⟩ := E11
  have hB11 := hB1.mv (X8.warmed.alike.symm.trans X11.warmed.alike) q11
  have c12 : Steps p.tables e below (s₁.setTop (entryFrame m #[.ref a, .ref b, .int (Int32.ofNat o), .int (Int32.ofNat len), .null] 6)) (T11.setTop (mkF m 48 #[.val (.ref a), .val (.ref b), .val (.int (Int32.ofNat o)), .val (.int (Int32.ofNat len)), .val .null, .val (.ref s.heap.size)] [.int 0, .ref a])) := g11
  obtain ⟨T13, X13, p13, bl13, sl13, st13⟩ := X11.finit hexec hown (wk W (.fieldLink "java/lang/String" 15 "java/lang/String" "coder" "B")) (Or.inr ⟨_, (wk W (.laysFinal "java/lang/String" "java/lang/String" "coder" "B"))⟩) (Or.inl ⟨rfl, hnm⟩) f2 (Or.inl rfl) hB11 (t := .byte) (by decide +kernel) rfl (g := (mkF m 48 #[.val (.ref a), .val (.ref b), .val (.int (Int32.ofNat o)), .val (.int (Int32.ofNat len)), .val .null, .val (.ref s.heap.size)] [.int 0, .ref a])) rfl (rest := []) rfl (hb hbytes d48)
  have c14 : Steps p.tables e below (s₁.setTop (entryFrame m #[.ref a, .ref b, .int (Int32.ofNat o), .int (Int32.ofNat len), .null] 6)) (T13.setTop (mkF m 54 #[.val (.ref a), .val (.ref b), .val (.int (Int32.ofNat o)), .val (.int (Int32.ofNat len)), .val .null, .val (.ref s.heap.size)] [.ref s.heap.size, .ref a])) := (c12.trans (st13 _ (Steps.refl _))).trans (by
    refine XS.aloadN X13.here hexec rfl (hb hbytes d51) rfl rfl ?_
    refine XS.aload X13.here hexec rfl (hb hbytes d52) rfl rfl ?_
    exact Steps.refl _)
  obtain ⟨T15, X15, p15, bl15, sl15, st15⟩ := X13.finit hexec hown (wk W (.fieldLink "java/lang/String" 9 "java/lang/String" "value" "[B")) (Or.inr ⟨_, (wk W (.laysFinal "java/lang/String" "java/lang/String" "value" "[B"))⟩) (Or.inl ⟨rfl, hnm⟩) f1 (Or.inl rfl) bl13 (t := (.array .byte)) (by decide +kernel) rfl (g := (mkF m 54 #[.val (.ref a), .val (.ref b), .val (.int (Int32.ofNat o)), .val (.int (Int32.ofNat len)), .val .null, .val (.ref s.heap.size)] [.ref s.heap.size, .ref a])) rfl (rest := []) rfl (hb hbytes d54)
  have c16 : Steps p.tables e below (s₁.setTop (entryFrame m #[.ref a, .ref b, .int (Int32.ofNat o), .int (Int32.ofNat len), .null] 6)) (T15.setTop (mkF m 57 #[.val (.ref a), .val (.ref b), .val (.int (Int32.ofNat o)), .val (.int (Int32.ofNat len)), .val .null, .val (.ref s.heap.size)] [])) := c14.trans (st15 _ (Steps.refl _))
  have ap := apart (Or.inr ⟨_, (wk W (.laysFinal "java/lang/String" "java/lang/String" "value" "[B"))⟩) (Or.inr ⟨_, (wk W (.laysFinal "java/lang/String" "java/lang/String" "coder" "B"))⟩) f1 f2 (t₁ := .array .byte) (t₂ := .byte) (by decide +kernel) (by decide +kernel) (by decide)
  have al := X8.warmed.alike.symm.trans X15.warmed.alike
  have n7 : T11.heap[s.heap.size]? = some N := by rw [q11]; exact n1.1
  exact ⟨T15, none, _, _, _, X15, by simp, rfl, by omega, (fun _ => rfl), ⟨rfl, _, N, bl15, ((Same.refl D _).set _ (by simp)).set _ (by simp), sl15, (Cell.slots_setSlot_ne _ ap).trans sl13, n1.keep al (p15.other hne (p13.other hne n7)), n2, by rw [al.findClass]; exact n3, n4, n5, fun y c h1 h2 => p15.other h1 (p13.other h1 (by rw [q11]; exact n6 y c h2)), by rw [p15.2.2, p13.2.2, q11]; exact z8⟩, fun fs hl => c16.trans (X15.returnOut hexec hret (hb hbytes d57) hl)⟩
end New4
namespace New1
def yN : MethodName := ⟨"java/lang/String", "<init>", "([C)V"⟩
abbrev yB : ByteArray := jdk_42_method_3_code
theorem d0 : decode yB 0 = .ok (.aload_n 0, 1) := by decide +kernel
theorem d1 : decode yB 1 = .ok (.aload_n 1, 1) := by decide +kernel
theorem d2 : decode yB 2 = .ok (.iconst 0, 1) := by decide +kernel
theorem d3 : decode yB 3 = .ok (.aload_n 1, 1) := by decide +kernel
theorem d4 : decode yB 4 = .ok (.arraylength, 1) := by decide +kernel
theorem d5 : decode yB 5 = .ok (.aconst_null, 1) := by decide +kernel
theorem d6 : decode yB 6 = .ok (.invokespecial 27, 3) := by decide +kernel
theorem d9 : decode yB 9 = .ok (.return_, 1) := by decide +kernel
def site : List Cond := [New4.tab] ++ initW "java/lang/String" 27 New4.yN
def tab : Cond := tabOf yN yB 2 none site
def P (a : Addr) (D : Cell) (fV fC : Field) (b : Addr) (A : Cell) (z : Int32) (args : Array Value) (s : State) : Prop := args = #[.ref a, .ref b] ∧ Blank "java/lang/String" a D s ∧ Found "java/lang/String" "value" "[B" fV s ∧ Found "java/lang/String" "coder" "B" fC s ∧ Ch b A s ∧ StaticIs s "java/lang/String" "COMPACT_STRINGS" "Z" (.int z) ∧ ¬ z = 0 ∧ 0 < A.slots.size ∧ A.slots.size ≤ 536870912 ∧ ∀ i, i < A.slots.size → ¬ 255 < cv A i
def E (a : Addr) (D : Cell) (fV fC : Field) (A : Cell) (r : Option Value) (s u : State) : Prop := Got a D fV fC A 0 A.slots.size r s u
/-- new String(chars), not empty, no char above 255: a Latin-1 String of their low bytes -/
theorem law (l : Launch) (a : Addr) (D : Cell) (fV fC : Field) (b : Addr) (A : Cell) (z : Int32) : Law l yN 2 1 3 52 yB 2 none site (P a D fV fC b A z) (E a D fV fC A) [⟨a, fC.slot⟩, ⟨a, fV.slot⟩] 1 A.slots.size := by
  refine Law.of_walk (plainFor_of_name (by decide +kernel)) (by decide +kernel) (by decide +kernel) (by decide) (fun _ _ h => by rw [h.1]; rfl) (fun _ U U' hal hh h => ⟨h.1, h.2.1.mv hal hh, h.2.2.1.al hal, h.2.2.2.1.al hal, h.2.2.2.2.1.mv hal hh, h.2.2.2.2.2.1.there hal hh, h.2.2.2.2.2.2⟩) (fun r U U' V V' h1 hal h2 h => Got.mv r U U' V V' h1 hal h2 h) ?_
  intro p e s m args below meth c s₁ X0 hexec hbytes hml hret hlk hnm hown hh0 W hP
  obtain ⟨rfl, hB, f1, f2, hA, s1, hz, l0, l2, hp⟩ := hP
  have c1 : Steps p.tables e below (s₁.setTop (entryFrame m #[.ref a, .ref b] 2)) (s₁.setTop (mkF m 0 #[.val (.ref a), .val (.ref b)] [])) := entry rfl
  have c2 : Steps p.tables e below (s₁.setTop (entryFrame m #[.ref a, .ref b] 2)) (s₁.setTop (mkF m 6 #[.val (.ref a), .val (.ref b)] [.null, .int (Int32.ofNat A.slots.size), .int 0, .ref b, .ref a])) := c1.trans (by
    refine XS.aloadN X0.here hexec rfl (hb hbytes d0) rfl rfl ?_
    refine XS.aloadN X0.here hexec rfl (hb hbytes d1) rfl rfl ?_
    refine iconstV X0.here hexec rfl 0 (hb hbytes d2) (by decide) ?_
    refine XS.aloadN X0.here hexec rfl (hb hbytes d3) rfl rfl ?_
    refine X0.alen hexec (hA.1.mv X0.warmed.alike hh0) rfl rfl (hb hbytes d4) ?_
    refine XS.aconstNull X0.here hexec rfl (hb hbytes d5) ?_
    exact Steps.refl _)
  obtain ⟨v3, T3, X3, E3, g3⟩ := X0.callN hexec (New4.law l a D fV fC b A z 0 A.slots.size) rfl hown (wks W (initW "java/lang/String" 27 New4.yN)) (W New4.tab (by simp only [site, List.mem_cons, List.mem_append, true_or, or_true])) (W := 0) (Nat.le_of_ble_eq_true rfl) (Nat.le_of_ble_eq_true rfl) (Nat.le_refl _) (by show 0 + A.slots.size ≤ A.slots.size; omega) (g := (mkF m 6 #[.val (.ref a), .val (.ref b)] [.null, .int (Int32.ofNat A.slots.size), .int (Int32.ofNat 0), .ref b, .ref a])) rfl (by rw [hml]; rfl) c2 (argsL := [.ref b, .int (Int32.ofNat 0), .int (Int32.ofNat A.slots.size), .null]) (rest := []) rfl rfl (by show 2 * 0 + 0 ≤ _; decide) (hb hbytes d6) (⟨rfl, hB.mv X0.warmed.alike hh0, f1.al X0.warmed.alike, f2.al X0.warmed.alike, hA.mv X0.warmed.alike hh0, s1.there X0.warmed.alike hh0, hz, l0, by omega, l2, fun i hi => by rw [Nat.zero_add]; exact hp i hi⟩)
  have e0 := Got.mv _ s₁ s _ _ hh0.symm (Vm.Alike.refl _) rfl E3
  obtain rfl := e0.1
  have c4 : Steps p.tables e below (s₁.setTop (entryFrame m #[.ref a, .ref b] 2)) (T3.setTop (mkF m 9 #[.val (.ref a), .val (.ref b)] [])) := g3
  exact ⟨T3, none, _, _, _, X3, by simp, rfl, by omega, (fun _ => rfl), e0, fun fs hl => c4.trans (X3.returnOut hexec hret (hb hbytes d9) hl)⟩
theorem pays {l : Launch} {R : Room} {p : Program} {e : Env} {below : List Frame} {s : State} {sargs : Array Value} {len W : Nat} (a : Addr) (D : Cell) (fV fC : Field) (b : Addr) (A : Cell) (z : Int32) (htab : tab.before sargs s = true) (hfr : 4 ≤ R.frames) (hlo : W + 65 ≤ R.locals) :
    Back l R p e below s sargs yN len W (fun A₁ a₁ => A₁.cells + 1 ≤ R.cells ∧ A₁.slots + A.slots.size ≤ R.slots ∧ P a D fV fC b A z a₁ A₁.U) (fun A₁ _ v₁ B₁ => E a D fV fC A v₁ A₁.U B₁.U ∧ B₁.locs = A₁.locs ++ [⟨a, fC.slot⟩, ⟨a, fV.slot⟩] ∧ B₁.cells = A₁.cells + 1 ∧ B₁.slots = A₁.slots + A.slots.size) :=
  (law l a D fV fC b A z).pays htab hfr (by omega)
end New1
/-- the byte, read back as charAt reads it, is the char -/
theorem lo8_mask {x : Int32} (h0 : ¬ x < 0) (h1 : ¬ 255 < x) : lo8 x &&& 255 = x := by
  have t : ∀ k : Fin 256, lo8 (Int32.ofNat k.val) &&& 255 = Int32.ofNat k.val := by decide +kernel
  rw [Int32.lt_iff_toInt_lt] at h0 h1
  have e0 : (0 : Int32).toInt = 0 := rfl
  have e1 : (255 : Int32).toInt = 255 := rfl
  obtain ⟨k, hk⟩ : ∃ k : Nat, x.toInt = k := ⟨x.toInt.toNat, by omega⟩
  have hx : x = Int32.ofNat k := Int32.toInt_inj.mp (by rw [hk, Int32.toInt_ofNat_small (by omega)])
  rw [hx]
  exact t ⟨k, by omega⟩
end StrChars
namespace StrChars.Road
open Jvm Sem ClassFile Op Lib Jvm.Stand Jvm.Free Jvm.Free.XT
open Jvm.Lib.Cold (StaticIs)
abbrev ST : String := "java/lang/String"
/-- every table word that New1's law asks, flat -/
abbrev words : List Jvm.Cond := [.code New1.yN New1.yB 2 none, .initialized ST, .methodLink ST 27 New4.yN, .instanceMethod New4.yN,
  .code New4.yN New4.yB 6 none, .fieldLink ST 38 ST "COMPACT_STRINGS" "Z", .laysFinal ST ST "value" "[B", .fieldLink ST 9 ST "value" "[B", .laysFinal ST ST "coder" "B", .fieldLink ST 15 ST "coder" "B",
  .methodLink ST 1 Lib.objectInit, .instanceMethod Lib.objectInit, .code Lib.objectInit ⟨#[0xb1]⟩ 1 none, .methodLink ST 177 Cmp3.yN, .static Cmp3.yN, .methodLink ST 47 CodL.yN, .static CodL.yN,
  .code Cmp3.yN Cmp3.yB 6 (some (.array .byte)), .initialized U16, .arrayClass .byte, .methodLink U16 115 Cmp5.yN, .static Cmp5.yN, .code Cmp5.yN Cmp5.yB 7 (some .int), .code CodL.yN CodL.yB 2 (some .byte)]
theorem tab_of {a : Array Value} {s : State} (h : ∀ w ∈ words, w.before a s = true) : New1.tab.before a s = true := by
  have h5 : Cmp5.tab.before a s = true := unparts (wk h (.code Cmp5.yN Cmp5.yB 7 (some .int))) (wks h (.initialized Cmp5.yN.cls :: Cmp5.site))
  have hc : CodL.tab.before a s = true := unparts (wk h (.code CodL.yN CodL.yB 2 (some .byte))) (wks h (.initialized CodL.yN.cls :: CodL.site))
  have q5 : ∀ w ∈ Cmp5.tab :: words, w.before a s = true := fun w hw => (List.mem_cons.mp hw).elim (fun e => e ▸ h5) (h w)
  have h3 : Cmp3.tab.before a s = true := unparts (wk q5 (.code Cmp3.yN Cmp3.yB 6 (some (.array .byte)))) (wks q5 (.initialized Cmp3.yN.cls :: Cmp3.site))
  have q3 : ∀ w ∈ Cmp3.tab :: CodL.tab :: words, w.before a s = true := fun w hw => (List.mem_cons.mp hw).elim (fun e => e ▸ h3) fun hw => (List.mem_cons.mp hw).elim (fun e => e ▸ hc) (h w)
  have h4 : New4.tab.before a s = true := unparts (wk q3 (.code New4.yN New4.yB 6 none)) (wks q3 (.initialized New4.yN.cls :: New4.site))
  have q4 : ∀ w ∈ New4.tab :: words, w.before a s = true := fun w hw => (List.mem_cons.mp hw).elim (fun e => e ▸ h4) (h w)
  exact unparts (wk q4 (.code New1.yN New1.yB 2 none)) (wks q4 (.initialized New1.yN.cls :: New1.site))
/-- the words ride from the start Z to the walk's own state -/
theorem moved {Z s : State} {a0 args : Array Value} (hZ : Z.Warmed39 s.vm) (hw : ∀ d ∈ words, d.before a0 Z = true) : ∀ d ∈ words, d.before args s = true := fun d hd => by
  have q := hw d hd
  have t : ∀ d ∈ words, d = .arrayClass .byte ∨ (d.onTables && d.keepsFace) = true := by decide +kernel
  rcases t d hd with rfl | t
  · exact RoadKit.mvA hZ q
  · exact RoadKit.mv hZ q t
/-- WHAT COMES BACK, over the tables of the start Z: h the heap at the call, h' behind it -/
def Q (Z : State) (x : Addr) (A : Cell) (h : Heap) (v : Option Value) (h' : Heap) (L : List Loc) : Prop := v = none ∧ (∀ y ∈ L, y.base = x) ∧ RoadKit.Keep h h' [x] ∧ h'.size = h.size + 1 ∧ RoadKit.Exa Z h' x ST ∧ RoadKit.Fld Z h' x ST "value" "[B" (.ref h.size) ∧ RoadKit.Fld Z h' x ST "coder" "B" (.int 0) ∧
  (∃ V : Cell, RoadKit.Arr Z h' h.size V .byte ∧ V.vm = .none ∧ Z.vm.findClass "[B" = some V.cls ∧ V.slots.size = A.slots.size ∧ ∀ j, j < A.slots.size → V.slots[j]? = some (.int (lo8 (cv A j)))) ∧
  ∀ (O n d : String) (w : Value), RoadKit.Fld Z h x O n d w → RoadKit.slotOf Z O n d ≠ RoadKit.slotOf Z ST "value" "[B" → RoadKit.slotOf Z O n d ≠ RoadKit.slotOf Z ST "coder" "B" → RoadKit.Fld Z h' x O n d w
/-- **new String(chars) AT A CALL, IN THE ROAD'S FORM**: for specialBack behind newO: x the fresh String, b the char[] with the cell A -/
theorem back {p : Program} {l : Launch} {e : Env} {R : Room} {s : State} {args : Array Value} {below : List Frame} {len W : Nat} {Z : State} {a0 : Array Value} {h : Heap} (hZ : Z.Warmed39 s.vm) (hw : ∀ d ∈ words, d.before a0 Z = true) {kI : Nat} (wi : (Jvm.Cond.instantiable ST kI).before a0 Z = true)
    {x b : Addr} {A : Cell} {z : Int32} {v0 c0 : Value} (E : RoadKit.Exa Z h x ST) (V : RoadKit.Fld Z h x ST "value" "[B" v0) (C : RoadKit.Fld Z h x ST "coder" "B" c0) (K : RoadKit.Arr Z h b A .char) (hty : Typed .char A) (S : RoadKit.Sta Z h ST "COMPACT_STRINGS" "Z" (.int z)) (hz : ¬ z = 0)
    (l0 : 0 < A.slots.size) (l2 : A.slots.size ≤ 536870912) (hp : ∀ i, i < A.slots.size → ¬ 255 < cv A i) (hfr : 4 ≤ R.frames) (hlo : W + 65 ≤ R.locals) :
    Back l R p e below s args New1.yN len W (fun P a => a = #[.ref x, .ref b] ∧ P.U.heap = h ∧ P.cells + 1 ≤ R.cells ∧ P.slots + A.slots.size ≤ R.slots)
      (fun P _ v B => ∃ L, Q Z x A h v B.U.heap L ∧ B.locs = P.locs ++ L ∧ B.cells = P.cells + 1 ∧ B.slots = P.slots + A.slots.size) := by
  intro m meth c P g ig mk a X hg hsize hdg hW hn hp'
  obtain ⟨rfl, rfl, r1, r2⟩ := hp'
  have al : Z.vm.Alike P.U.vm := hZ.alike.trans X.warmed.alike
  obtain ⟨D, cfV, kV, iV, fV, hD, gV, stV, knV, obV, asV, slV⟩ := id V
  obtain ⟨D', cfC, kC, iC, fC, hD', gC, stC, -, -, asC, slC⟩ := id C
  cases hD.symm.trans hD'
  obtain ⟨D2, kD, e1, e2, e3, e4, e5⟩ := id E
  cases hD.symm.trans e1
  obtain ⟨c2, k2, i1, i2, i3, -⟩ := Cond.instantiable_spec wi
  cases e2.symm.trans i1
  cases e3.symm.trans i2
  obtain ⟨kU, u1, u2⟩ := al.2.2 _ _ e3
  have hB : Blank ST x D P.U := ⟨hD, ⟨knV, fun q hq => by rw [hq] at obV; cases obV⟩, by rw [al.findClass]; exact e2, kU, u1, by rw [u2]; exact i3, by rw [u2]; exact e5 i3⟩
  have F1 : Found ST "value" "[B" fV P.U := ⟨SBG.found_only al ⟨cfV, kV, iV, gV⟩, stV⟩
  have F2 : Found ST "coder" "B" fC P.U := ⟨SBG.found_only al ⟨cfC, kC, iC, gC⟩, stC⟩
  have hA : Ch b A P.U := ⟨⟨K.1, State.isArrayOf_alike al K.2.1, K.2.2, by omega⟩, hty⟩
  have hS : StaticIs P.U ST "COMPACT_STRINGS" "Z" (.int z) := by
    obtain ⟨cfS, iS, kS, fS, st, cS, t1, t2, t3, t4, t5, t6, t7⟩ := S
    exact StaticIs.there (s := { Z with heap := P.U.heap }) ⟨cfS, iS, kS, fS, st, cS, t1, t2, t3, t4, t5, (fun q => by rw [q] at t6; cases t6), t7⟩ al rfl
  obtain ⟨v, B, X', ⟨⟨hv, E', V', q1, q2, q3, q4, q5, q6, q7, q8, q9, q10, q11⟩, hl, hc, hs⟩, st⟩ := New1.pays x D fV fC b A z (tab_of (moved hZ hw)) hfr hlo m meth c P g ig mk _ X hg hsize hdg hW hn ⟨r1, r2, rfl, hB, F1, F2, hA, hS, hz, l0, l2, hp⟩
  have al' : Z.vm.Alike B.U.vm := hZ.alike.trans X'.warmed.alike
  have hsz : E'.slots.size = D.slots.size := by
    obtain ⟨-, -, -, kB, w1, w2, w3⟩ := q1
    obtain ⟨kB', y1, y2⟩ := al'.2.2 _ _ e3
    rw [q2.2.1] at w1
    cases w1.symm.trans y1
    rw [w3, e5 i3, y2]
  refine ⟨v, B, X', ⟨_, ⟨hv, ?_, ⟨by omega, fun y cy hy hn' => q10 y cy (by simpa using hn') hy, fun y cy hy => ?_⟩, q11, ⟨E', _, q1.1, by rw [q2.2.1]; exact e2, by rw [q2.2.1]; exact e3, by rw [q2.1]; exact obV, fun _ => by rw [hsz]; exact e5 i3⟩,
    ⟨E', cfV, kV, iV, fV, q1.1, gV, stV, by rw [q2.1]; exact knV, by rw [q2.1]; exact obV, by rw [q2.2.1]; exact asV, q3⟩, ⟨E', cfC, kC, iC, fC, q1.1, gC, stC, by rw [q2.1]; exact knV, by rw [q2.1]; exact obV, by rw [q2.2.1]; exact asC, q4⟩,
    ⟨V', ⟨q5.1, State.isArrayOf_alike al'.symm q5.2.1, q5.2.2.1⟩, q6, by rw [← al'.findClass]; exact q7, q8, fun j hj => by have := q9 j hj; rwa [Nat.zero_add] at this⟩, fun O n d w F n1 n2 => ?_⟩, hl, hc, hs⟩, st⟩
  · intro y hy
    simp only [List.mem_cons, List.not_mem_nil, or_false] at hy
    rcases hy with rfl | rfl <;> rfl
  · by_cases q : y = x
    · subst q
      cases hD.symm.trans hy
      exact ⟨E', q1.1, q2.2.1, q2.1, hsz⟩
    · exact ⟨cy, q10 y cy q hy, rfl, rfl, rfl⟩
  · obtain ⟨D3, cf, k, i, f, g1, g2, g3, g4, g5, g6, g7⟩ := F
    cases hD.symm.trans g1
    simp only [RoadKit.slotOf, g2, gV, gC, Option.map_some, Option.getD_some] at n1 n2
    exact ⟨E', cf, k, i, f, q1.1, g2, g3, by rw [q2.1]; exact g4, by rw [q2.1]; exact g5, by rw [q2.2.1]; exact g6, by rw [q2.2.2 f.slot (by simp [n1, n2])]; exact g7⟩
end StrChars.Road
namespace StrChars.Road
open Jvm Sem ClassFile Op Lib Jvm.Stand Jvm.Free Jvm.Free.XT
/-- WHAT COMES BACK, the byte[] as a list of values -/
def QA (Z : State) (x : Addr) (zn : Int32) (cs : List Int32) (h : Heap) (v : Option Value) (h' : Heap) (L : List Loc) : Prop := v = none ∧ (∀ y ∈ L, y.base = x) ∧ RoadKit.Keep h h' [x] ∧ h'.size = h.size + 1 ∧ RoadKit.Exa Z h' x ST ∧ RoadKit.Fld Z h' x ST "value" "[B" (.ref h.size) ∧ RoadKit.Fld Z h' x ST "coder" "B" (.int 0) ∧
  (∃ kb, Z.vm.findClass "[B" = some kb ∧ RoadKit.Arv Z h' h.size kb .byte zn (cs.map fun c => .int (lo8 c)) (.int 0)) ∧
  ∀ (O n d : String) (w : Value), RoadKit.Fld Z h x O n d w → RoadKit.slotOf Z O n d ≠ RoadKit.slotOf Z ST "value" "[B" → RoadKit.slotOf Z O n d ≠ RoadKit.slotOf Z ST "coder" "B" → RoadKit.Fld Z h' x O n d w
/-- **new String(chars) AT A CALL, THE ARRAYS AS LISTS**: the char[] at b holds cs, not empty, no char above 255 -/
theorem backArv {p : Program} {l : Launch} {e : Env} {R : Room} {s : State} {args : Array Value} {below : List Frame} {len W : Nat} {Z : State} {a0 : Array Value} {h : Heap} (hZ : Z.Warmed39 s.vm) (hw : ∀ d ∈ words, d.before a0 Z = true) {kI : Nat} (wi : (Jvm.Cond.instantiable ST kI).before a0 Z = true)
    {x b : Addr} {k : ClassId} {zn z : Int32} {cs : List Int32} {dv v0 c0 : Value} (E : RoadKit.Exa Z h x ST) (V : RoadKit.Fld Z h x ST "value" "[B" v0) (C : RoadKit.Fld Z h x ST "coder" "B" c0) (K : RoadKit.Arv Z h b k .char zn (cs.map Value.int) dv) (S : RoadKit.Sta Z h ST "COMPACT_STRINGS" "Z" (.int z)) (hz : ¬ z = 0)
    (hlen : zn.toNatClampNeg = cs.length) (h0 : 0 < cs.length) (hbig : cs.length ≤ 536870912) (hall : ∀ c ∈ cs, ¬ 255 < c) (hfr : 4 ≤ R.frames) (hlo : W + 65 ≤ R.locals) :
    Back l R p e below s args New1.yN len W (fun P a => a = #[.ref x, .ref b] ∧ P.U.heap = h ∧ P.cells + 1 ≤ R.cells ∧ P.slots + cs.length ≤ R.slots)
      (fun P _ v B => ∃ L, QA Z x zn cs h v B.U.heap L ∧ B.locs = P.locs ++ L ∧ B.cells = P.cells + 1 ∧ B.slots = P.slots + cs.length) := by
  obtain ⟨A, K1, K2, K3, K4, K5, K6⟩ := K
  have e : A.slots.size = cs.length := K3.trans hlen
  have hat : ∀ (i : Nat) (hi : i < cs.length), A.slots[i]? = some (.int cs[i]) := fun i hi => by rw [K5 i (by omega)]; simp [List.getD_eq_getElem?_getD, hi]
  have hcv : ∀ (i : Nat) (hi : i < cs.length), cv A i = cs[i] := fun i hi => by unfold cv; rw [hat i hi]
  have hty : Typed .char A := fun i v hv => by
    have hi : i < A.slots.size := (Array.getElem?_eq_some_iff.mp hv).1
    have q := K5 i hi
    rw [hv] at q
    rw [Option.some.inj q]
    exact K6 i hi
  refine Back.mono (back hZ hw wi E V C K1 hty S hz (by omega) (by omega) (fun i hi => by rw [hcv i (by omega)]; exact hall _ (List.getElem_mem _)) hfr hlo) (fun P a hp => ⟨hp.1, hp.2.1, hp.2.2.1, by rw [e]; exact hp.2.2.2⟩) (fun P a v B hp hq => ?_)
  obtain ⟨L, ⟨q1, q2, q3, q4, q5, q6, q7, ⟨V', v1, v2, v3, v4, v5⟩, q9⟩, hl, hc, hs⟩ := hq
  refine ⟨L, ⟨q1, q2, q3, q4, q5, q6, q7, ⟨V'.cls, v3, V', v1, rfl, by rw [v4, e, hlen], K4, fun i hi => ?_, fun i hi => ?_⟩, q9⟩, hl, hc, by rw [hs, e]⟩
  · have hi' : i < cs.length := by omega
    rw [v5 i (by omega), hcv i hi']; simp [List.getD_eq_getElem?_getD, hi']
  · have hi' : i < cs.length := by omega
    simp only [List.getD_eq_getElem?_getD, List.getElem?_map, List.getElem?_eq_getElem hi', Option.map_some, Option.getD_some]
    exact fits_lo8 _
end StrChars.Road
namespace StrChars.Road
open Jvm Sem ClassFile Op Lib Jvm.Stand Jvm.Free Jvm.Free.XT
/-- WHAT COMES BACK, in the writer's own shape -/
def QV (Z : State) (x : Addr) (N : Int32) (bs : List Int32) (h : Heap) (n0 : Nat) (v : Option Value) (h' : Heap) (L : List Loc) : Prop := v = none ∧ RoadKit.Fr n0 L ∧ RoadKit.Keep h h' [x] ∧ RoadKit.Exa Z h' x ST ∧ RoadKit.Fld Z h' x ST "coder" "B" (.int 0) ∧
  ∃ (t : Addr) (kb : ClassId), n0 ≤ t ∧ h.size ≤ t ∧ ¬ t = x ∧ RoadKit.Fld Z h' x ST "value" "[B" (.ref t) ∧ RoadKit.Arv Z h' t kb .byte N (bs.map Value.int) (.int 0)
/-- **new String(chars) AT A CALL, FOR THE WRITER**: a char[] of n known ints, each 0 to 255 -/
theorem backV {p : Program} {l : Launch} {e : Env} {R : Room} {s : State} {args : Array Value} {below : List Frame} {len W : Nat} {Z : State} {a0 : Array Value} {h : Heap} (hZ : Z.Warmed39 s.vm) (hw : ∀ d ∈ words, d.before a0 Z = true) {kI : Nat} (wi : (Jvm.Cond.instantiable ST kI).before a0 Z = true)
    {x b : Addr} {kC : ClassId} {cs bs : List Int32} {d v0 c0 : Value} {z N : Int32} {n n0 : Nat} (hx0 : n0 ≤ x) (hh0 : n0 ≤ h.size) (E : RoadKit.Exa Z h x ST) (V : RoadKit.Fld Z h x ST "value" "[B" v0) (C : RoadKit.Fld Z h x ST "coder" "B" c0) (K : RoadKit.Arv Z h b kC .char N (cs.map Value.int) d) (S : RoadKit.Sta Z h ST "COMPACT_STRINGS" "Z" (.int z)) (hz : ¬ z = 0)
    (hn : cs.length = n) (hN : N = Int32.ofNat n) (l0 : 0 < n) (l2 : n ≤ 4000) (hp : ∀ c ∈ cs, ¬ c < 0 ∧ ¬ (255 : Int32) < c) (hb : bs = cs.map (fun c => c.toInt8.toInt32)) (hfr : 4 ≤ R.frames) (hlo : W + 65 ≤ R.locals) :
    Back l R p e below s args (⟨"java/lang/String", "<init>", "([C)V"⟩ : MethodName) len W (fun P a => a = #[.ref x, .ref b] ∧ P.U.heap = h ∧ P.cells + 1 ≤ R.cells ∧ P.slots + n ≤ R.slots)
      (fun P _ v B => ∃ L, QV Z x N bs h n0 v B.U.heap L ∧ B.locs = P.locs ++ L ∧ B.cells = P.cells + 1 ∧ B.slots = P.slots + n) := by
  subst hn hN hb
  refine Back.mono (backArv hZ hw wi E V C K S hz (n32 (by omega)) l0 (by omega) (fun c hc => (hp c hc).2) hfr hlo) (fun P a hp => hp) (fun P a v B hp hq => ?_)
  obtain ⟨L, ⟨q1, q2, q3, q4, q5, q6, q7, ⟨kb, v1, v2⟩, q9⟩, hl, hc, hs⟩ := hq
  exact ⟨L, ⟨q1, fun y hy => by rw [q2 y hy]; exact hx0, q3, q5, q7, h.size, kb, hh0, Nat.le_refl _, Nat.ne_of_gt E.lt, q6, by rw [List.map_map]; exact v2⟩, hl, hc, hs⟩
end StrChars.Road
namespace StrChars
open Jvm Sem ClassFile Op Lib Jvm.Stand Jvm.Free.XT Jvm.Free.ALB Jvm.Free.JM Jvm.Free
open Jvm.Lib.Cold (StaticIs)
def hi8 (x : Int32) : Int32 := lo8 (x >>> ((8 : Int32) &&& 31))
/-- what StringUTF16.getChar makes of two bytes -/
def pairCh (u v : Int32) : Int32 := (((u &&& 255) <<< ((0 : Int32) &&& 31)) ||| ((v &&& 255) <<< ((8 : Int32) &&& 31))).toUInt32.toUInt16.toUInt32.toInt32
theorem lo8_and (x : Int32) : (lo8 x &&& 255).toBitVec.toNat = x.toBitVec.toNat % 256 := by
  have h : (lo8 x).toBitVec = (x.toBitVec.signExtend 8).signExtend 32 := by rw [lo8, Int8.toBitVec_toInt32, Int32.toBitVec_toInt8]
  rw [Int32.toBitVec_and, BitVec.toNat_and, h]
  have e : ((x.toBitVec.signExtend 8).signExtend 32).toNat % 256 = x.toBitVec.toNat % 256 := by
    rw [BitVec.toNat_signExtend]
    have hlt := x.toBitVec.isLt
    simp only [BitVec.toNat_setWidth, BitVec.toNat_signExtend]
    split <;> split <;> omega
  rw [← e]
  exact Nat.and_two_pow_sub_one_eq_mod _ 8
theorem pair_says {c : Int32} (h0 : ¬ c < 0) (h1 : ¬ 65535 < c) : pairCh (lo8 c) (hi8 c) = c := by
  rw [Int32.lt_iff_toInt_lt] at h0 h1
  have e0 : (0 : Int32).toInt = 0 := rfl
  have e1 : (65535 : Int32).toInt = 65535 := rfl
  have hc : c.toInt = c.toBitVec.toNat := by
    have := c.toBitVec.isLt
    have e : c.toInt = c.toBitVec.toInt := rfl
    rw [e] at h0 h1
    rw [e]
    rw [BitVec.toInt_eq_toNat_cond] at h0 h1 ⊢
    split at h0 <;> split <;> omega
  have hn : c.toBitVec.toNat < 65536 := by omega
  have a1 := lo8_and c
  have a2 : (hi8 c &&& 255).toBitVec.toNat = c.toBitVec.toNat / 256 := by
    rw [hi8, lo8_and]
    have e : ((8 : Int32) &&& 31) = 8 := by decide
    rw [e, Int32.toBitVec_shiftRight]
    have e2 : ((8 : Int32).toBitVec.smod 32) = 8#32 := by decide
    rw [e2, BitVec.sshiftRight_eq', BitVec.toNat_sshiftRight_of_msb_false (by rw [BitVec.msb_eq_false_iff_two_mul_lt]; omega)]
    show c.toBitVec.toNat >>> 8 % 256 = _
    rw [Nat.shiftRight_eq_div_pow]
    omega
  unfold pairCh
  apply Int32.toBitVec_inj.mp
  apply BitVec.eq_of_toNat_eq
  have f0 : ((0 : Int32) &&& 31) = 0 := by decide
  have f8 : ((8 : Int32) &&& 31) = 8 := by decide
  rw [f0, f8]
  have g : (((lo8 c &&& 255) <<< (0 : Int32)) ||| ((hi8 c &&& 255) <<< (8 : Int32))).toBitVec.toNat = c.toBitVec.toNat := by
    rw [Int32.toBitVec_or, Int32.toBitVec_shiftLeft, Int32.toBitVec_shiftLeft]
    have s0 : ((0 : Int32).toBitVec.smod 32) = 0#32 := by decide
    have s8 : ((8 : Int32).toBitVec.smod 32) = 8#32 := by decide
    rw [s0, s8, BitVec.toNat_or]
    simp only [BitVec.shiftLeft_eq', BitVec.toNat_shiftLeft, a1, a2]
    show (c.toBitVec.toNat % 256) <<< 0 % 2 ^ 32 ||| (c.toBitVec.toNat / 256) <<< 8 % 2 ^ 32 = _
    rw [Nat.shiftLeft_zero, Nat.mod_eq_of_lt (show c.toBitVec.toNat % 256 < 2 ^ 32 by omega), Nat.mod_eq_of_lt (show (c.toBitVec.toNat / 256) <<< 8 < 2 ^ 32 by rw [Nat.shiftLeft_eq]; omega), Nat.or_comm, ← Nat.shiftLeft_add_eq_or_of_lt (by omega), Nat.shiftLeft_eq]
    omega
  show BitVec.toNat (((((lo8 c &&& 255) <<< (0 : Int32)) ||| ((hi8 c &&& 255) <<< (8 : Int32))).toBitVec.setWidth 16).setWidth 32) = _
  rw [BitVec.toNat_setWidth, BitVec.toNat_setWidth, g]
  omega
end StrChars
namespace StrChars
open Jvm Sem ClassFile Op Lib Jvm.Stand Jvm.Free.XT Jvm.Free.ALB Jvm.Free.JM Jvm.Free
open Jvm.Lib.Cold (StaticIs)
/-- the array's cell V codes the n chars f 0 .. f (n - 1) by the coder cd, as the JDK does: coder 1 just where some char is above 255 -/
def Cod (cd : Int32) (n : Nat) (f : Nat → Int32) (V : Cell) : Prop := (cd = 0 ∧ V.slots.size = n ∧ ∀ j, j < n → V.slots[j]? = some (.int (lo8 (f j))) ∧ ¬ 255 < f j) ∨ (cd = 1 ∧ V.slots.size = 2 * n ∧ (∀ j, j < n → V.slots[2 * j]? = some (.int (lo8 (f j))) ∧ V.slots[2 * j + 1]? = some (.int (hi8 (f j)))) ∧ ∃ j, j < n ∧ 255 < f j)
/-- **x is a String of the n chars f 0 .. f (n - 1)**, Latin-1 or UTF-16; its array at t has the cell V -/
def Txt (x t : Addr) (V : Cell) (cd : Int32) (n : Nat) (f : Nat → Int32) (U : State) : Prop := Exact "java/lang/String" x U ∧ Has x "java/lang/String" "value" "[B" (.ref t) U ∧ Has x "java/lang/String" "coder" "B" (.int cd) U ∧ XT.Arr .byte t V U ∧ Cod cd n f V ∧ ∀ j, j < n → ¬ f j < 0 ∧ ¬ 65535 < f j
theorem Txt.mv {x t : Addr} {V : Cell} {cd : Int32} {n : Nat} {f : Nat → Int32} {U U' : State} (h : Txt x t V cd n f U) (hal : U.vm.Alike U'.vm) (hh : U'.heap = U.heap) : Txt x t V cd n f U' := ⟨h.1.mv hal hh, h.2.1.mv hal hh, h.2.2.1.mv hal hh, h.2.2.2.1.mv hal hh, h.2.2.2.2⟩
end StrChars
namespace StrChars.Road
open Jvm Sem ClassFile Op Lib Jvm.Stand Jvm.Free Jvm.Free.XT
open Jvm.Lib.Cold (StaticIs)
theorem consq {a : Array Value} {s : State} {c : Jvm.Cond} {L : List Jvm.Cond} (h0 : c.before a s = true) (h : ∀ w ∈ L, w.before a s = true) : ∀ w ∈ c :: L, w.before a s = true := fun w hw => (List.mem_cons.mp hw).elim (fun e => e ▸ h0) (h w)
/-- the bytes of the chars cs, low before high -/
def wideBytes : List Int32 → List Value
  | [] => []
  | c :: cs => .int (lo8 c) :: .int (hi8 c) :: wideBytes cs
theorem wide_lo (d : Value) : ∀ (cs : List Int32) (j : Nat), j < cs.length → (wideBytes cs).getD (2 * j) d = .int (lo8 (cs.getD j 0))
  | [], j, h => absurd h (Nat.not_lt_zero j)
  | c :: cs, 0, _ => rfl
  | c :: cs, j + 1, h => by
    have q := wide_lo d cs j (by simpa using h)
    rw [show 2 * (j + 1) = 2 * j + 1 + 1 from by omega]
    simpa [wideBytes] using q
theorem wide_hi (d : Value) : ∀ (cs : List Int32) (j : Nat), j < cs.length → (wideBytes cs).getD (2 * j + 1) d = .int (hi8 (cs.getD j 0))
  | [], j, h => absurd h (Nat.not_lt_zero j)
  | c :: cs, 0, _ => rfl
  | c :: cs, j + 1, h => by
    have q := wide_hi d cs j (by simpa using h)
    rw [show 2 * (j + 1) + 1 = 2 * j + 1 + 1 + 1 from by omega]
    simpa [wideBytes] using q
theorem low_at (d : Value) (cs : List Int32) (j : Nat) (h : j < cs.length) : (cs.map fun c => Value.int (lo8 c)).getD j d = .int (lo8 (cs.getD j 0)) := by
  simp [List.getD_eq_getElem?_getD, h]
/-- an array of N2 bytes vs codes the chars cs by the coder cd -/
def CodA (cs : List Int32) (cd N2 : Int32) (vs : List Value) : Prop := (cd = 0 ∧ N2 = Int32.ofNat cs.length ∧ vs = (cs.map fun c => Value.int (lo8 c)) ∧ ∀ c ∈ cs, ¬ 255 < c) ∨ (cd = 1 ∧ N2 = Int32.ofNat (2 * cs.length) ∧ vs = wideBytes cs ∧ ∃ c ∈ cs, 255 < c)
theorem CodA.cod {cs : List Int32} {cd N2 : Int32} {vs : List Value} {V : Cell} (h : CodA cs cd N2 vs) (hn : 2 * cs.length < 2 ^ 31) (hs : V.slots.size = N2.toNatClampNeg) (hv : RoadKit.Has V vs (.int 0)) : Cod cd cs.length (fun j => cs.getD j 0) V := by
  rcases h with ⟨rfl, rfl, rfl, h⟩ | ⟨rfl, rfl, rfl, c, hc, hw⟩
  · rw [n32 (by omega)] at hs
    exact Or.inl ⟨rfl, hs, fun j hj => ⟨by rw [hv j (by omega), low_at _ _ _ hj], by
      have e : cs.getD j 0 = cs[j] := by simp [List.getD_eq_getElem?_getD, hj]
      show ¬ 255 < cs.getD j 0
      rw [e]; exact h _ (List.getElem_mem _)⟩⟩
  · rw [n32 (by omega)] at hs
    obtain ⟨j, hj, rfl⟩ := List.getElem_of_mem hc
    exact Or.inr ⟨rfl, hs, fun j hj => ⟨by rw [hv _ (by omega), wide_lo _ _ _ hj], by rw [hv _ (by omega), wide_hi _ _ _ hj]⟩, j, hj, by
      have e : cs.getD j 0 = cs[j] := by simp [List.getD_eq_getElem?_getD, hj]
      show 255 < cs.getD j 0
      rw [e]; exact hw⟩
/-- an object of exactly java/lang/String, its two fields found: as the laws ask it -/
theorem strObj {Z U : State} {a0 : Array Value} {kI : Nat} (wi : (Jvm.Cond.instantiable ST kI).before a0 Z = true) (al : Z.vm.Alike U.vm) {x : Addr} {v0 c0 : Value} (E : RoadKit.Exa Z U.heap x ST) (V : RoadKit.Fld Z U.heap x ST "value" "[B" v0) (C : RoadKit.Fld Z U.heap x ST "coder" "B" c0) :
    ∃ (D : Cell) (fV fC : Field), Blank ST x D U ∧ Found ST "value" "[B" fV U ∧ Found ST "coder" "B" fC U ∧ D.slots[fV.slot]? = some v0 ∧ D.slots[fC.slot]? = some c0 ∧ RoadKit.slotOf Z ST "value" "[B" = fV.slot ∧ RoadKit.slotOf Z ST "coder" "B" = fC.slot := by
  obtain ⟨D, cfV, kV, iV, fV, hD, gV, stV, knV, obV, asV, slV⟩ := V
  obtain ⟨D', cfC, kC, iC, fC, hD', gC, stC, -, -, asC, slC⟩ := C
  cases hD.symm.trans hD'
  obtain ⟨D2, kD, e1, e2, e3, e4, e5⟩ := E
  cases hD.symm.trans e1
  obtain ⟨c2, k2, i1, i2, i3, -⟩ := Cond.instantiable_spec wi
  cases e2.symm.trans i1
  cases e3.symm.trans i2
  obtain ⟨kU, u1, u2⟩ := al.2.2 _ _ e3
  exact ⟨D, fV, fC, ⟨hD, ⟨knV, fun q hq => by rw [hq] at obV; cases obV⟩, by rw [al.findClass]; exact e2, kU, u1, by rw [u2]; exact i3, by rw [u2]; exact e5 i3⟩, ⟨SBG.found_only al ⟨cfV, kV, iV, gV⟩, stV⟩, ⟨SBG.found_only al ⟨cfC, kC, iC, gC⟩, stC⟩, slV, slC, by simp [RoadKit.slotOf, gV], by simp [RoadKit.slotOf, gC]⟩
theorem sta_is {Z U : State} (al : Z.vm.Alike U.vm) {C n d : String} {v : Value} (S : RoadKit.Sta Z U.heap C n d v) : StaticIs U C n d v := by
  obtain ⟨cfS, iS, kS, fS, st, cS, t1, t2, t3, t4, t5, t6, t7⟩ := S
  exact StaticIs.there (s := { Z with heap := U.heap }) ⟨cfS, iS, kS, fS, st, cS, t1, t2, t3, t4, t5, (fun q => by rw [q] at t6; cases t6), t7⟩ al rfl
end StrChars.Road
namespace StrChars
open Jvm Sem ClassFile Op Lib Jvm.Stand Jvm.Free.XT Jvm.Free.ALB Jvm.Free.JM Jvm.Free
open Jvm.Lib.Cold (StaticIs)
/-- what place i of a byte[]'s cell holds -/
def yv (A : Cell) (i : Nat) : Int32 := match A.slots[i]? with | some (.int x) => x | _ => 0
theorem yv_get {a : Addr} {A : Cell} {U : State} (h : XT.Arr .byte a A U) (ht : Typed .byte A) {i : Nat} (hi : i < A.slots.size) : A.slots[i]? = some (.int (yv A i)) := by
  have e := Array.getElem?_eq_getElem hi
  have f := ht i _ e
  unfold yv; rw [e]
  generalize A.slots[i] = v at f
  cases v <;> simp [fits] at f ⊢
/-- the two arrays are equal, place for place -/
def EqC (A B : Cell) : Prop := A.slots.size = B.slots.size ∧ ∀ i, i < A.slots.size → yv A i = yv B i
/-- a boolean that says whether p -/
def Says01 (q : Prop) (r : Option Value) (s u : State) : Prop := ∃ v : Int32, r = some (.int v) ∧ u.heap = s.heap ∧ ((v = 1 ∧ q) ∨ (v = 0 ∧ ¬ q))
theorem Says01.mv {q : Prop} : ∀ r (U U' V V' : State), U'.heap = U.heap → V.vm.Alike V'.vm → V'.heap = V.heap → Says01 q r U V → Says01 q r U' V' :=
  fun r U U' V V' h1 _ h2 ⟨v, a, b, c⟩ => ⟨v, a, by rw [h1, h2]; exact b, c⟩
namespace LEq
def yN : MethodName := ⟨"java/lang/StringLatin1", "equals", "([B[B)Z"⟩
abbrev yB : ByteArray := jdk_43_method_13_code
theorem d0 : decode yB 0 = .ok (.aload_n 0, 1) := by decide +kernel
theorem d1 : decode yB 1 = .ok (.arraylength, 1) := by decide +kernel
theorem d2 : decode yB 2 = .ok (.aload_n 1, 1) := by decide +kernel
theorem d3 : decode yB 3 = .ok (.arraylength, 1) := by decide +kernel
theorem d4 : decode yB 4 = .ok (.if_icmp (.ne) 30, 3) := by decide +kernel
theorem d7 : decode yB 7 = .ok (.iconst 0, 1) := by decide +kernel
theorem d8 : decode yB 8 = .ok (.istore_n 2, 1) := by decide +kernel
theorem d9 : decode yB 9 = .ok (.iload_n 2, 1) := by decide +kernel
theorem d10 : decode yB 10 = .ok (.aload_n 0, 1) := by decide +kernel
theorem d11 : decode yB 11 = .ok (.arraylength, 1) := by decide +kernel
theorem d12 : decode yB 12 = .ok (.if_icmp (.ge) 20, 3) := by decide +kernel
theorem d15 : decode yB 15 = .ok (.aload_n 0, 1) := by decide +kernel
theorem d16 : decode yB 16 = .ok (.iload_n 2, 1) := by decide +kernel
theorem d17 : decode yB 17 = .ok (.baload, 1) := by decide +kernel
theorem d18 : decode yB 18 = .ok (.aload_n 1, 1) := by decide +kernel
theorem d19 : decode yB 19 = .ok (.iload_n 2, 1) := by decide +kernel
theorem d20 : decode yB 20 = .ok (.baload, 1) := by decide +kernel
theorem d21 : decode yB 21 = .ok (.if_icmp (.eq) 5, 3) := by decide +kernel
theorem d24 : decode yB 24 = .ok (.iconst 0, 1) := by decide +kernel
theorem d25 : decode yB 25 = .ok (.ireturn, 1) := by decide +kernel
theorem d26 : decode yB 26 = .ok (.iinc 2 1, 3) := by decide +kernel
theorem d29 : decode yB 29 = .ok (.goto (-20), 3) := by decide +kernel
theorem d32 : decode yB 32 = .ok (.iconst 1, 1) := by decide +kernel
theorem d33 : decode yB 33 = .ok (.ireturn, 1) := by decide +kernel
theorem d34 : decode yB 34 = .ok (.iconst 0, 1) := by decide +kernel
theorem d35 : decode yB 35 = .ok (.ireturn, 1) := by decide +kernel
def site : List Cond := []
def tab : Cond := tabOf yN yB 3 (some .boolean) site
def P (a : Addr) (A : Cell) (b : Addr) (B : Cell) (args : Array Value) (s : State) : Prop := args = #[.ref a, .ref b] ∧ XT.Arr .byte a A s ∧ Typed .byte A ∧ XT.Arr .byte b B s ∧ Typed .byte B
/-- whether two byte[] are equal, place for place -/
theorem law (l : Launch) (a : Addr) (A : Cell) (b : Addr) (B : Cell) : Law l yN 2 2 0 0 yB 3 (some .boolean) site (P a A b B) (Says01 (EqC A B)) [] 0 0 := by
  refine Law.of_walk (plainFor_of_name (by decide +kernel)) (by decide +kernel) (by decide +kernel) (by decide) (fun _ _ h => by rw [h.1]; rfl) (fun _ U U' hal hh h => ⟨h.1, h.2.1.mv hal hh, h.2.2.1, h.2.2.2.1.mv hal hh, h.2.2.2.2⟩) (fun r U U' V V' h1 hal h2 h => Says01.mv r U U' V V' h1 hal h2 h) ?_
  intro p e s m args below meth c s₁ X0 hexec hbytes hml hret hlk hnm hown hh0 W hP
  obtain ⟨rfl, hA, tA, hB, tB⟩ := hP
  have a31 := hA.2.2.2
  have b31 := hB.2.2.2
  have hA0 := hA.mv X0.warmed.alike hh0
  have hB0 := hB.mv X0.warmed.alike hh0
  have c1 : Steps p.tables e below (s₁.setTop (entryFrame m #[.ref a, .ref b] 3)) (s₁.setTop (mkF m 0 #[.val (.ref a), .val (.ref b), .unset] [])) := entry rfl
  have c2 : Steps p.tables e below (s₁.setTop (entryFrame m #[.ref a, .ref b] 3)) (s₁.setTop (mkF m 4 #[.val (.ref a), .val (.ref b), .unset] [.int (Int32.ofNat B.slots.size), .int (Int32.ofNat A.slots.size)])) := c1.trans (by
    refine XS.aloadN X0.here hexec rfl (hb hbytes d0) rfl rfl ?_
    refine X0.alen hexec hA0 rfl rfl (hb hbytes d1) ?_
    refine XS.aloadN X0.here hexec rfl (hb hbytes d2) rfl rfl ?_
    refine X0.alen hexec hB0 rfl rfl (hb hbytes d3) ?_
    exact Steps.refl _)
  by_cases hs : A.slots.size = B.slots.size
  · have c3 : Steps p.tables e below (s₁.setTop (entryFrame m #[.ref a, .ref b] 3)) (s₁.setTop (mkF m 9 #[.val (.ref a), .val (.ref b), .val (.int 0)] [])) := c2.trans (by
      refine XS.icmpNo X0.here hexec rfl (hb hbytes d4) rfl (ii_ne_f (by rw [hs])) ?_
      refine iconstV X0.here hexec rfl 0 (hb hbytes d7) (by decide) ?_
      refine XS.istoreN X0.here hexec rfl (hb hbytes d8) rfl rfl ?_
      exact Steps.refl _)
    have loop : ∀ (r i : Nat), i + r = A.slots.size → (∀ j, j < i → yv A j = yv B j) → Steps p.tables e below (s₁.setTop (entryFrame m #[.ref a, .ref b] 3)) (s₁.setTop (mkF m 9 #[.val (.ref a), .val (.ref b), .val (.int (Int32.ofNat i))] [])) → ∃ (pc : Nat) (Ls : Array Slot) (v : Int32), (pc = 25 ∨ pc = 33) ∧ ((v = 1 ∧ EqC A B) ∨ (v = 0 ∧ ¬ EqC A B)) ∧ Steps p.tables e below (s₁.setTop (entryFrame m #[.ref a, .ref b] 3)) (s₁.setTop (mkF m pc Ls [.int v])) := by
      intro r
      induction r with
      | zero =>
        intro i hi he cl
        exact ⟨33, _, 1, Or.inr rfl, Or.inl ⟨rfl, hs, fun j hj => he j (by omega)⟩, cl.trans (by
          refine XS.iloadN X0.here hexec rfl (hb hbytes d9) rfl ?_
          refine XS.aloadN X0.here hexec rfl (hb hbytes d10) rfl rfl ?_
          refine X0.alen hexec hA0 rfl rfl (hb hbytes d11) ?_
          refine XS.icmpYes X0.here hexec rfl (pc0 := 12) rfl (hb hbytes d12) rfl (ii_ge_t (nlt32 (by omega) (by omega))) (by decide) rfl ?_
          refine iconstV X0.here hexec rfl 1 (hb hbytes d32) (by decide) ?_
          exact Steps.refl _)⟩
      | succ r ih =>
        intro i hi he cl
        have c4 : Steps p.tables e below (s₁.setTop (entryFrame m #[.ref a, .ref b] 3)) (s₁.setTop (mkF m 21 #[.val (.ref a), .val (.ref b), .val (.int (Int32.ofNat i))] [.int (yv B i), .int (yv A i)])) := cl.trans (by
          refine XS.iloadN X0.here hexec rfl (hb hbytes d9) rfl ?_
          refine XS.aloadN X0.here hexec rfl (hb hbytes d10) rfl rfl ?_
          refine X0.alen hexec hA0 rfl rfl (hb hbytes d11) ?_
          refine XS.icmpNo X0.here hexec rfl (hb hbytes d12) rfl (ii_ge_f (lt32 (by omega) (by omega))) ?_
          refine XS.aloadN X0.here hexec rfl (hb hbytes d15) rfl rfl ?_
          refine XS.iloadN X0.here hexec rfl (hb hbytes d16) rfl ?_
          refine X0.aget hexec hA0 rfl (yv_get hA tA (i := i) (by omega)) rfl rfl (hb hbytes d17) ?_
          refine XS.aloadN X0.here hexec rfl (hb hbytes d18) rfl rfl ?_
          refine XS.iloadN X0.here hexec rfl (hb hbytes d19) rfl ?_
          refine X0.aget hexec hB0 rfl (yv_get hB tB (i := i) (by omega)) rfl rfl (hb hbytes d20) ?_
          exact Steps.refl _)
        by_cases hv : yv A i = yv B i
        · have c5 : Steps p.tables e below (s₁.setTop (entryFrame m #[.ref a, .ref b] 3)) (s₁.setTop (mkF m 9 #[.val (.ref a), .val (.ref b), .val (.int (Int32.ofNat i + 1))] [])) := c4.trans (by
            refine XS.icmpYes X0.here hexec rfl (pc0 := 21) rfl (hb hbytes d21) rfl (ii_eq_t hv) (by decide) rfl ?_
            refine iincV X0.here hexec rfl 1 (hb hbytes d26) (by decide) rfl rfl ?_
            refine XS.goto X0.here hexec rfl (pc0 := 29) rfl (hb hbytes d29) (by decide) rfl ?_
            exact Steps.refl _)
          rw [succ32] at c5
          exact ih (i + 1) (by omega) (fun j hj => by
            by_cases e : j = i
            · rw [e]; exact hv
            · exact he j (by omega)) c5
        · exact ⟨25, _, 0, Or.inl rfl, Or.inr ⟨rfl, fun q => hv (q.2 i (by omega))⟩, c4.trans (by
            refine XS.icmpNo X0.here hexec rfl (hb hbytes d21) rfl (ii_eq_f hv) ?_
            refine iconstV X0.here hexec rfl 0 (hb hbytes d24) (by decide) ?_
            exact Steps.refl _)⟩
    obtain ⟨pc, Ls, v, hpc, hv, cz⟩ := loop A.slots.size 0 (by omega) (fun j hj => absurd hj (Nat.not_lt_zero j)) c3
    have nv : narrow .boolean (.int v) = .int v := by rcases hv with ⟨rfl, -⟩ | ⟨rfl, -⟩ <;> rfl
    rcases hpc with rfl | rfl
    · exact ⟨s₁, some (.int v), _, _, _, X0, rfl, rfl, rfl, (fun h => by cases h), ⟨v, rfl, hh0, hv⟩, fun fs hl => cz.trans (X0.ireturnOut hexec hret nv (Or.inr (Or.inl rfl)) (hb hbytes d25) hl)⟩
    · exact ⟨s₁, some (.int v), _, _, _, X0, rfl, rfl, rfl, (fun h => by cases h), ⟨v, rfl, hh0, hv⟩, fun fs hl => cz.trans (X0.ireturnOut hexec hret nv (Or.inr (Or.inl rfl)) (hb hbytes d33) hl)⟩
  · have c3 : Steps p.tables e below (s₁.setTop (entryFrame m #[.ref a, .ref b] 3)) (s₁.setTop (mkF m 35 #[.val (.ref a), .val (.ref b), .unset] [.int 0])) := c2.trans (by
      refine XS.icmpYes X0.here hexec rfl (pc0 := 4) rfl (hb hbytes d4) rfl (ii_ne_t (ne32 a31 b31 hs)) (by decide) rfl ?_
      refine iconstV X0.here hexec rfl 0 (hb hbytes d34) (by decide) ?_
      exact Steps.refl _)
    exact ⟨s₁, some (.int 0), _, _, _, X0, rfl, rfl, rfl, (fun h => by cases h), ⟨0, rfl, hh0, Or.inr ⟨rfl, fun q => hs q.1⟩⟩, fun fs hl => c3.trans (X0.ireturnOut hexec hret rfl (Or.inr (Or.inl rfl)) (hb hbytes d35) hl)⟩
end LEq
theorem Cod.ty {cd : Int32} {n : Nat} {f : Nat → Int32} {V : Cell} (h : Cod cd n f V) : Typed .byte V := fun i v hv => by
  have hi : i < V.slots.size := (Array.getElem?_eq_some_iff.mp hv).1
  rcases h with ⟨-, k1, k2⟩ | ⟨-, k1, k2, -⟩
  · rw [(k2 i (by omega)).1] at hv; cases hv; exact fits_lo8 _
  · rcases Nat.mod_two_eq_zero_or_one i with e | e
    · obtain ⟨j, rfl⟩ : ∃ j, i = 2 * j := ⟨i / 2, by omega⟩
      rw [(k2 j (by omega)).1] at hv; cases hv; exact fits_lo8 _
    · obtain ⟨j, rfl⟩ : ∃ j, i = 2 * j + 1 := ⟨i / 2, by omega⟩
      rw [(k2 j (by omega)).2] at hv; cases hv; exact fits_lo8 _
/-- the same text -/
def SameT (n : Nat) (f : Nat → Int32) (k : Nat) (g : Nat → Int32) : Prop := n = k ∧ ∀ j, j < n → f j = g j
theorem lo8_inj {x y : Int32} (h0 : ¬ x < 0) (h1 : ¬ 255 < x) (k0 : ¬ y < 0) (k1 : ¬ 255 < y) (h : lo8 x = lo8 y) : x = y := by
  rw [← lo8_mask h0 h1, ← lo8_mask k0 k1, h]
/-- arrays coded by one coder are equal just where the texts are -/
theorem Cod.eqv {cd : Int32} {n k : Nat} {f g : Nat → Int32} {V V' : Cell} (h : Cod cd n f V) (h' : Cod cd k g V') (hf : ∀ j, j < n → ¬ f j < 0 ∧ ¬ 65535 < f j) (hg : ∀ j, j < k → ¬ g j < 0 ∧ ¬ 65535 < g j) : EqC V V' ↔ SameT n f k g := by
  have yvv : ∀ {W : Cell} {i : Nat} {x : Int32}, W.slots[i]? = some (.int x) → yv W i = x := fun q => by unfold yv; rw [q]
  rcases h with ⟨rfl, k1, k2⟩ | ⟨rfl, k1, k2, -⟩
  · rcases h' with ⟨-, m1, m2⟩ | ⟨e, -⟩
    · constructor
      · rintro ⟨e1, e2⟩
        refine ⟨by omega, fun j hj => ?_⟩
        have q := e2 j (by omega)
        rw [yvv (k2 j hj).1, yvv (m2 j (by omega)).1] at q
        exact lo8_inj (hf j hj).1 (k2 j hj).2 (hg j (by omega)).1 (m2 j (by omega)).2 q
      · rintro ⟨rfl, e2⟩
        refine ⟨by omega, fun j hj => ?_⟩
        rw [yvv (k2 j (by omega)).1, yvv (m2 j (by omega)).1, e2 j (by omega)]
    · exact absurd e (by decide)
  · rcases h' with ⟨e, -⟩ | ⟨-, m1, m2, -⟩
    · exact absurd e (by decide)
    · constructor
      · rintro ⟨e1, e2⟩
        refine ⟨by omega, fun j hj => ?_⟩
        have q1 := e2 (2 * j) (by omega)
        have q2 := e2 (2 * j + 1) (by omega)
        rw [yvv (k2 j hj).1, yvv (m2 j (by omega)).1] at q1
        rw [yvv (k2 j hj).2, yvv (m2 j (by omega)).2] at q2
        rw [← pair_says (hf j hj).1 (hf j hj).2, ← pair_says (hg j (by omega)).1 (hg j (by omega)).2, q1, q2]
      · rintro ⟨rfl, e2⟩
        refine ⟨by omega, fun i hi => ?_⟩
        rcases Nat.mod_two_eq_zero_or_one i with e | e
        · obtain ⟨j, rfl⟩ : ∃ j, i = 2 * j := ⟨i / 2, by omega⟩
          rw [yvv (k2 j (by omega)).1, yvv (m2 j (by omega)).1, e2 j (by omega)]
        · obtain ⟨j, rfl⟩ : ∃ j, i = 2 * j + 1 := ⟨i / 2, by omega⟩
          rw [yvv (k2 j (by omega)).2, yvv (m2 j (by omega)).2, e2 j (by omega)]
/-- two codings differ: so do the texts -/
theorem Cod.dif {cd cd' : Int32} {n k : Nat} {f g : Nat → Int32} {V V' : Cell} (h : Cod cd n f V) (h' : Cod cd' k g V') (hne : ¬ cd = cd') : ¬ SameT n f k g := by
  rintro ⟨rfl, e⟩
  rcases h with ⟨rfl, -, k2⟩ | ⟨rfl, -, -, j, hj, hw⟩
  · rcases h' with ⟨rfl, -⟩ | ⟨-, -, -, j, hj, hw⟩
    · exact hne rfl
    · exact (k2 j hj).2 (by rw [e j hj]; exact hw)
  · rcases h' with ⟨-, -, m2⟩ | ⟨rfl, -⟩
    · exact (m2 j hj).2 (by rw [← e j hj]; exact hw)
    · exact hne rfl
/-- an object of exactly C is an instance of C -/
theorem cinst {p : Program} {l : Launch} {e : Env} {R : Room} {s : State} {m : MethodId} {args : Array Value} {below : List Frame} {meth : Method} {c : Code} {T : State} {locs : List Loc} {cells slots : Nat} (X : Stand p l e R s m args below meth c T locs cells slots) (hexec : p.tables.exec = Jvm.exec) {own C : String} {index : Nat} (hown : s.vm.findClass own = some m.cls) (hlink : (Cond.classLink own index C).before args s = true) {a : Addr} (hE : Exact C a T)
    {g : JFrame} (hg : g.method = m) {rest : List Value} (hstack : g.stack = .ref a :: rest) (hdg : decode c.code g.pc = .ok (.instanceof index, 3)) :
    ∃ T', Stand p l e R s m args below meth c T' locs cells slots ∧ T'.heap = T.heap ∧ ∀ target, Steps p.tables e below (T'.setTop { g with pc := g.pc + 3, stack := .int 1 :: rest }) target → Steps p.tables e below (T.setTop g) target := by
  obtain ⟨cB, h1, D, h2, h3, h4⟩ := hE
  have h1' : s.vm.findClass C = some cB := by rw [← X.warmed.alike.findClass]; exact h1
  obtain ⟨vm', X', st⟩ := X.instanceofYes hexec hown hlink h2 h4 h1' (by rw [h3]; exact Jvm.Free.SB.assignable_self _ _) hg hstack hdg
  exact ⟨_, X', rfl, st⟩
theorem cself {p : Program} {l : Launch} {e : Env} {R : Room} {s : State} {m : MethodId} {args : Array Value} {below : List Frame} {meth : Method} {c : Code} {T : State} {locs : List Loc} {cells slots : Nat} (X : Stand p l e R s m args below meth c T locs cells slots) (hexec : p.tables.exec = Jvm.exec) {own C : String} {index : Nat} (hown : s.vm.findClass own = some m.cls) (hlink : (Cond.classLink own index C).before args s = true) {a : Addr} (hE : Exact C a T)
    {g : JFrame} (hg : g.method = m) {rest : List Value} (hstack : g.stack = .ref a :: rest) (hdg : decode c.code g.pc = .ok (.checkcast index, 3)) :
    ∃ T', Stand p l e R s m args below meth c T' locs cells slots ∧ T'.heap = T.heap ∧ ∀ target, Steps p.tables e below (T'.setTop { g with pc := g.pc + 3, stack := .ref a :: rest }) target → Steps p.tables e below (T.setTop g) target := by
  obtain ⟨cB, h1, D, h2, h3, h4⟩ := hE
  have h1' : s.vm.findClass C = some cB := by rw [← X.warmed.alike.findClass]; exact h1
  obtain ⟨vm', X', st⟩ := X.checkcastYes hexec hown hlink h2 h4 h1' (by rw [h3]; exact Jvm.Free.SB.assignable_self _ _) hg hstack hdg
  exact ⟨_, X', rfl, fun t h => st t (by rw [← hstack] at h; exact h)⟩
namespace SEq
def yN : MethodName := ⟨"java/lang/String", "equals", "(Ljava/lang/Object;)Z"⟩
abbrev yB : ByteArray := jdk_42_method_66_code
theorem d0 : decode yB 0 = .ok (.aload_n 0, 1) := by decide +kernel
theorem d1 : decode yB 1 = .ok (.aload_n 1, 1) := by decide +kernel
theorem d2 : decode yB 2 = .ok (.if_acmp (.ne) 5, 3) := by decide +kernel
theorem d5 : decode yB 5 = .ok (.iconst 1, 1) := by decide +kernel
theorem d6 : decode yB 6 = .ok (.ireturn, 1) := by decide +kernel
theorem d7 : decode yB 7 = .ok (.aload_n 1, 1) := by decide +kernel
theorem d8 : decode yB 8 = .ok (.instanceof 10, 3) := by decide +kernel
theorem d11 : decode yB 11 = .ok (.ifCond (.eq) 43, 3) := by decide +kernel
theorem d14 : decode yB 14 = .ok (.aload_n 1, 1) := by decide +kernel
theorem d15 : decode yB 15 = .ok (.checkcast 10, 3) := by decide +kernel
theorem d18 : decode yB 18 = .ok (.astore_n 2, 1) := by decide +kernel
theorem d19 : decode yB 19 = .ok (.getstatic 38, 3) := by decide +kernel
theorem d22 : decode yB 22 = .ok (.ifCond (.eq) 14, 3) := by decide +kernel
theorem d25 : decode yB 25 = .ok (.aload_n 0, 1) := by decide +kernel
theorem d26 : decode yB 26 = .ok (.getfield 15, 3) := by decide +kernel
theorem d29 : decode yB 29 = .ok (.aload_n 2, 1) := by decide +kernel
theorem d30 : decode yB 30 = .ok (.getfield 15, 3) := by decide +kernel
theorem d33 : decode yB 33 = .ok (.if_icmp (.ne) 21, 3) := by decide +kernel
theorem d36 : decode yB 36 = .ok (.aload_n 0, 1) := by decide +kernel
theorem d37 : decode yB 37 = .ok (.getfield 9, 3) := by decide +kernel
theorem d40 : decode yB 40 = .ok (.aload_n 2, 1) := by decide +kernel
theorem d41 : decode yB 41 = .ok (.getfield 9, 3) := by decide +kernel
theorem d44 : decode yB 44 = .ok (.invokestatic 541, 3) := by decide +kernel
theorem d47 : decode yB 47 = .ok (.ifCond (.eq) 7, 3) := by decide +kernel
theorem d50 : decode yB 50 = .ok (.iconst 1, 1) := by decide +kernel
theorem d51 : decode yB 51 = .ok (.goto 4, 3) := by decide +kernel
theorem d54 : decode yB 54 = .ok (.iconst 0, 1) := by decide +kernel
theorem d55 : decode yB 55 = .ok (.ireturn, 1) := by decide +kernel
def site : List Cond := [.classLink "java/lang/String" 10 "java/lang/String", .fieldLink "java/lang/String" 38 "java/lang/String" "COMPACT_STRINGS" "Z", .fieldLink "java/lang/String" 15 "java/lang/String" "coder" "B", .fieldLink "java/lang/String" 9 "java/lang/String" "value" "[B", LEq.tab] ++ staticW "java/lang/String" 541 LEq.yN
def tab : Cond := tabOf yN yB 3 (some .boolean) site
def P (x t : Addr) (V : Cell) (cd : Int32) (n : Nat) (f : Nat → Int32) (y t' : Addr) (V' : Cell) (cd' : Int32) (k : Nat) (g : Nat → Int32) (z : Int32) (args : Array Value) (s : State) : Prop := args = #[.ref x, .ref y] ∧ Txt x t V cd n f s ∧ Txt y t' V' cd' k g s ∧ StaticIs s "java/lang/String" "COMPACT_STRINGS" "Z" (.int z) ∧ ¬ z = 0
/-- equals(Object) of two Strings: whether the texts are the same -/
theorem law (l : Launch) (x t : Addr) (V : Cell) (cd : Int32) (n : Nat) (f : Nat → Int32) (y t' : Addr) (V' : Cell) (cd' : Int32) (k : Nat) (g : Nat → Int32) (z : Int32) : Law l yN 2 1 1 14 yB 3 (some .boolean) site (P x t V cd n f y t' V' cd' k g z) (Says01 (SameT n f k g)) [] 0 0 := by
  refine Law.of_walk (plainFor_of_name (by decide +kernel)) (by decide +kernel) (by decide +kernel) (by decide) (fun _ _ h => by rw [h.1]; rfl) (fun _ U U' hal hh h => ⟨h.1, h.2.1.mv hal hh, h.2.2.1.mv hal hh, h.2.2.2.1.there hal hh, h.2.2.2.2⟩) (fun r U U' V V' h1 hal h2 h => Says01.mv r U U' V V' h1 hal h2 h) ?_
  intro p e s m args below meth c s₁ X0 hexec hbytes hml hret hlk hnm hown hh0 W hP
  obtain ⟨rfl, hx, hy, s1, hz⟩ := hP
  have c1 : Steps p.tables e below (s₁.setTop (entryFrame m #[.ref x, .ref y] 3)) (s₁.setTop (mkF m 2 #[.val (.ref x), .val (.ref y), .unset] [.ref y, .ref x])) := Steps.trans (entry rfl) (by
    show Steps p.tables e below (s₁.setTop (mkF m 0 #[.val (.ref x), .val (.ref y), .unset] [])) _
    refine XS.aloadN X0.here hexec rfl (hb hbytes d0) rfl rfl ?_
    refine XS.aloadN X0.here hexec rfl (hb hbytes d1) rfl rfl ?_
    exact Steps.refl _)
  by_cases hxy : x = y
  · have c2 : Steps p.tables e below (s₁.setTop (entryFrame m #[.ref x, .ref y] 3)) (s₁.setTop (mkF m 6 #[.val (.ref x), .val (.ref y), .unset] [.int 1])) := c1.trans (by
      refine acmpNo X0.here hexec rfl (hb hbytes d2) rfl rfl rfl (by simp [acmp, hxy]) ?_
      refine iconstV X0.here hexec rfl 1 (hb hbytes d5) (by decide) ?_
      exact Steps.refl _)
    subst hxy
    have ec : cd = cd' := by
      obtain ⟨D, fd, a1, a2, a3⟩ := hx.2.2.1
      obtain ⟨D', fd', b1, b2, b3⟩ := hy.2.2.1
      cases a1.symm.trans b1
      obtain ⟨q1, q2, q3, q4⟩ := a2.1
      obtain ⟨r1, r2, r3, r4⟩ := b2.1
      cases q4.symm.trans r4
      cases a3.symm.trans b3; rfl
    have et : t = t' := by
      obtain ⟨D, fd, a1, a2, a3⟩ := hx.2.1
      obtain ⟨D', fd', b1, b2, b3⟩ := hy.2.1
      cases a1.symm.trans b1
      obtain ⟨q1, q2, q3, q4⟩ := a2.1
      obtain ⟨r1, r2, r3, r4⟩ := b2.1
      cases q4.symm.trans r4
      cases a3.symm.trans b3; rfl
    subst ec et
    have ev : V = V' := by cases hx.2.2.2.1.1.symm.trans hy.2.2.2.1.1; rfl
    subst ev
    have hs : SameT n f k g := (Cod.eqv hx.2.2.2.2.1 hy.2.2.2.2.1 hx.2.2.2.2.2 hy.2.2.2.2.2).mp ⟨rfl, fun _ _ => rfl⟩
    exact ⟨s₁, some (.int 1), _, _, _, X0, rfl, rfl, rfl, (fun h => by cases h), ⟨1, rfl, hh0, Or.inl ⟨rfl, hs⟩⟩, fun fs hl => c2.trans (X0.ireturnOut hexec hret rfl (Or.inr (Or.inl rfl)) (hb hbytes d6) hl)⟩
  · have c2 : Steps p.tables e below (s₁.setTop (entryFrame m #[.ref x, .ref y] 3)) (s₁.setTop (mkF m 8 #[.val (.ref x), .val (.ref y), .unset] [.ref y])) := c1.trans (by
      refine acmpYes X0.here hexec rfl (pc0 := 2) rfl (hb hbytes d2) rfl rfl rfl (by simp [acmp, hxy]) (by decide) rfl ?_
      refine XS.aloadN X0.here hexec rfl (hb hbytes d7) rfl rfl ?_
      exact Steps.refl _)
    obtain ⟨T3, X3, q3, st3⟩ := cinst X0 hexec hown (wk W (.classLink "java/lang/String" 10 "java/lang/String")) (hy.mv X0.warmed.alike hh0).1 (g := (mkF m 8 #[.val (.ref x), .val (.ref y), .unset] [.ref y])) rfl (rest := []) rfl (hb hbytes d8)
    have hh3 := q3.trans hh0
    have c4 : Steps p.tables e below (s₁.setTop (entryFrame m #[.ref x, .ref y] 3)) (T3.setTop (mkF m 15 #[.val (.ref x), .val (.ref y), .unset] [.ref y])) := (c2.trans (st3 _ (Steps.refl _))).trans (by
      refine XS.ifNo X3.here hexec rfl (hb hbytes d11) rfl (i0_eq_f (by decide)) ?_
      refine XS.aloadN X3.here hexec rfl (hb hbytes d14) rfl rfl ?_
      exact Steps.refl _)
    obtain ⟨T5, X5, q5, st5⟩ := cself X3 hexec hown (wk W (.classLink "java/lang/String" 10 "java/lang/String")) (hy.mv X3.warmed.alike hh3).1 (g := (mkF m 15 #[.val (.ref x), .val (.ref y), .unset] [.ref y])) rfl (rest := []) rfl (hb hbytes d15)
    have hh5 := q5.trans hh3
    have c6 : Steps p.tables e below (s₁.setTop (entryFrame m #[.ref x, .ref y] 3)) (T5.setTop (mkF m 19 #[.val (.ref x), .val (.ref y), .val (.ref y)] [])) := (c4.trans (st5 _ (Steps.refl _))).trans (by
      refine XS.astoreN X5.here hexec rfl (hb hbytes d18) rfl rfl rfl ?_
      exact Steps.refl _)
    obtain ⟨T7, X7, q7, st7⟩ := X5.sget hexec hown (wk W (.fieldLink "java/lang/String" 38 "java/lang/String" "COMPACT_STRINGS" "Z")) s1 (fun _ _ h => by rw [hh5]; exact h) (g := (mkF m 19 #[.val (.ref x), .val (.ref y), .val (.ref y)] [])) rfl (hb hbytes d19)
    have hh7 := q7.trans hh5
    have c8 : Steps p.tables e below (s₁.setTop (entryFrame m #[.ref x, .ref y] 3)) (T7.setTop (mkF m 26 #[.val (.ref x), .val (.ref y), .val (.ref y)] [.ref x])) := (c6.trans (st7 _ (Steps.refl _))).trans (by
      refine XS.ifNo X7.here hexec rfl (hb hbytes d22) rfl (i0_eq_f hz) ?_
      refine XS.aloadN X7.here hexec rfl (hb hbytes d25) rfl rfl ?_
      exact Steps.refl _)
    obtain ⟨T9, X9, q9, st9⟩ := X7.hget hexec hown (wk W (.fieldLink "java/lang/String" 15 "java/lang/String" "coder" "B")) (hx.mv X7.warmed.alike hh7).2.2.1 (g := (mkF m 26 #[.val (.ref x), .val (.ref y), .val (.ref y)] [.ref x])) rfl (rest := []) rfl (hb hbytes d26)
    have hh9 := q9.trans hh7
    have c10 : Steps p.tables e below (s₁.setTop (entryFrame m #[.ref x, .ref y] 3)) (T9.setTop (mkF m 30 #[.val (.ref x), .val (.ref y), .val (.ref y)] [.ref y, .int cd])) := (c8.trans (st9 _ (Steps.refl _))).trans (by
      refine XS.aloadN X9.here hexec rfl (hb hbytes d29) rfl rfl ?_
      exact Steps.refl _)
    obtain ⟨T11, X11, q11, st11⟩ := X9.hget hexec hown (wk W (.fieldLink "java/lang/String" 15 "java/lang/String" "coder" "B")) (hy.mv X9.warmed.alike hh9).2.2.1 (g := (mkF m 30 #[.val (.ref x), .val (.ref y), .val (.ref y)] [.ref y, .int cd])) rfl (rest := [.int cd]) rfl (hb hbytes d30)
    have hh11 := q11.trans hh9
    have c12 : Steps p.tables e below (s₁.setTop (entryFrame m #[.ref x, .ref y] 3)) (T11.setTop (mkF m 33 #[.val (.ref x), .val (.ref y), .val (.ref y)] [.int cd', .int cd])) := c10.trans (st11 _ (Steps.refl _))
    by_cases hcd : cd = cd'
    · subst hcd
      have c13 : Steps p.tables e below (s₁.setTop (entryFrame m #[.ref x, .ref y] 3)) (T11.setTop (mkF m 37 #[.val (.ref x), .val (.ref y), .val (.ref y)] [.ref x])) := c12.trans (by
        refine XS.icmpNo X11.here hexec rfl (hb hbytes d33) rfl (ii_ne_f rfl) ?_
        refine XS.aloadN X11.here hexec rfl (hb hbytes d36) rfl rfl ?_
        exact Steps.refl _)
      obtain ⟨T14, X14, q14, st14⟩ := X11.hget hexec hown (wk W (.fieldLink "java/lang/String" 9 "java/lang/String" "value" "[B")) (hx.mv X11.warmed.alike hh11).2.1 (g := (mkF m 37 #[.val (.ref x), .val (.ref y), .val (.ref y)] [.ref x])) rfl (rest := []) rfl (hb hbytes d37)
      have hh14 := q14.trans hh11
      have c15 : Steps p.tables e below (s₁.setTop (entryFrame m #[.ref x, .ref y] 3)) (T14.setTop (mkF m 41 #[.val (.ref x), .val (.ref y), .val (.ref y)] [.ref y, .ref t])) := (c13.trans (st14 _ (Steps.refl _))).trans (by
        refine XS.aloadN X14.here hexec rfl (hb hbytes d40) rfl rfl ?_
        exact Steps.refl _)
      obtain ⟨T16, X16, q16, st16⟩ := X14.hget hexec hown (wk W (.fieldLink "java/lang/String" 9 "java/lang/String" "value" "[B")) (hy.mv X14.warmed.alike hh14).2.1 (g := (mkF m 41 #[.val (.ref x), .val (.ref y), .val (.ref y)] [.ref y, .ref t])) rfl (rest := [.ref t]) rfl (hb hbytes d41)
      have hh16 := q16.trans hh14
      have c17 : Steps p.tables e below (s₁.setTop (entryFrame m #[.ref x, .ref y] 3)) (T16.setTop (mkF m 44 #[.val (.ref x), .val (.ref y), .val (.ref y)] [.ref t', .ref t])) := c15.trans (st16 _ (Steps.refl _))
      obtain ⟨v18, T18, X18, E18, g18⟩ := X16.callS hexec (LEq.law l t V t' V') hown (wks W (staticW "java/lang/String" 541 LEq.yN)) (wk W LEq.tab) (W := 0) (Nat.le_of_ble_eq_true rfl) (Nat.le_of_ble_eq_true rfl) (Nat.le_refl _) (Nat.le_refl _) (g := (mkF m 44 #[.val (.ref x), .val (.ref y), .val (.ref y)] [.ref t', .ref t])) rfl (by rw [hml]; rfl) c17 (argsL := [.ref t, .ref t']) (rest := []) rfl rfl (by show 2 * 0 + 0 ≤ _; decide) (hb hbytes d44) (⟨rfl, hx.2.2.2.1.mv X16.warmed.alike hh16, hx.2.2.2.2.1.ty, hy.2.2.2.1.mv X16.warmed.alike hh16, hy.2.2.2.2.1.ty⟩)
      obtain ⟨v, rfl, q18, hv⟩ := E18
      have iff := Cod.eqv hx.2.2.2.2.1 hy.2.2.2.2.1 hx.2.2.2.2.2 hy.2.2.2.2.2
      rcases hv with ⟨rfl, he⟩ | ⟨rfl, he⟩
      · have c19 : Steps p.tables e below (s₁.setTop (entryFrame m #[.ref x, .ref y] 3)) (T18.setTop (mkF m 55 #[.val (.ref x), .val (.ref y), .val (.ref y)] [.int 1])) := Steps.trans g18 (by
          refine XS.ifNo X18.here hexec rfl (hb hbytes d47) rfl (i0_eq_f (by decide)) ?_
          refine iconstV X18.here hexec rfl 1 (hb hbytes d50) (by decide) ?_
          refine XS.goto X18.here hexec rfl (pc0 := 51) rfl (hb hbytes d51) (by decide) rfl ?_
          exact Steps.refl _)
        exact ⟨T18, some (.int 1), _, _, _, X18, rfl, rfl, rfl, (fun h => by cases h), ⟨1, rfl, q18.trans hh16, Or.inl ⟨rfl, iff.mp he⟩⟩, fun fs hl => c19.trans (X18.ireturnOut hexec hret rfl (Or.inr (Or.inl rfl)) (hb hbytes d55) hl)⟩
      · have c19 : Steps p.tables e below (s₁.setTop (entryFrame m #[.ref x, .ref y] 3)) (T18.setTop (mkF m 55 #[.val (.ref x), .val (.ref y), .val (.ref y)] [.int 0])) := Steps.trans g18 (by
          refine XS.ifYes X18.here hexec rfl (pc0 := 47) rfl (hb hbytes d47) rfl (i0_eq_t rfl) (by decide) rfl ?_
          refine iconstV X18.here hexec rfl 0 (hb hbytes d54) (by decide) ?_
          exact Steps.refl _)
        exact ⟨T18, some (.int 0), _, _, _, X18, rfl, rfl, rfl, (fun h => by cases h), ⟨0, rfl, q18.trans hh16, Or.inr ⟨rfl, fun q => he (iff.mpr q)⟩⟩, fun fs hl => c19.trans (X18.ireturnOut hexec hret rfl (Or.inr (Or.inl rfl)) (hb hbytes d55) hl)⟩
    · have c13 : Steps p.tables e below (s₁.setTop (entryFrame m #[.ref x, .ref y] 3)) (T11.setTop (mkF m 55 #[.val (.ref x), .val (.ref y), .val (.ref y)] [.int 0])) := c12.trans (by
        refine XS.icmpYes X11.here hexec rfl (pc0 := 33) rfl (hb hbytes d33) rfl (ii_ne_t hcd) (by decide) rfl ?_
        refine iconstV X11.here hexec rfl 0 (hb hbytes d54) (by decide) ?_
        exact Steps.refl _)
      exact ⟨T11, some (.int 0), _, _, _, X11, rfl, rfl, rfl, (fun h => by cases h), ⟨0, rfl, hh11, Or.inr ⟨rfl, Cod.dif hx.2.2.2.2.1 hy.2.2.2.2.1 hcd⟩⟩, fun fs hl => c13.trans (X11.ireturnOut hexec hret rfl (Or.inr (Or.inl rfl)) (hb hbytes d55) hl)⟩
theorem pays {l : Launch} {R : Room} {p : Program} {e : Env} {below : List Frame} {s : State} {sargs : Array Value} {len W : Nat} (x t : Addr) (V : Cell) (cd : Int32) (n : Nat) (f : Nat → Int32) (y t' : Addr) (V' : Cell) (cd' : Int32) (k : Nat) (g : Nat → Int32) (z : Int32) (htab : tab.before sargs s = true) (hfr : 2 ≤ R.frames) (hlo : W + 28 ≤ R.locals) :
    Back l R p e below s sargs yN len W (fun A₁ a₁ => A₁.cells + 0 ≤ R.cells ∧ A₁.slots + 0 ≤ R.slots ∧ P x t V cd n f y t' V' cd' k g z a₁ A₁.U) (fun A₁ _ v₁ B₁ => Says01 (SameT n f k g) v₁ A₁.U B₁.U ∧ B₁.locs = A₁.locs ++ [] ∧ B₁.cells = A₁.cells + 0 ∧ B₁.slots = A₁.slots + 0) :=
  (law l x t V cd n f y t' V' cd' k g z).pays htab hfr (by omega)
end SEq
end StrChars
namespace StrChars.Road
open Jvm Sem ClassFile Op Lib Jvm.Stand Jvm.Free Jvm.Free.XT
open Jvm.Lib.Cold (StaticIs)
/-- the words of String.equals(Object) -/
abbrev wordsEq : List Jvm.Cond := [.code SEq.yN SEq.yB 3 (some .boolean), .initialized ST, .classLink ST 10 ST, .fieldLink ST 38 ST "COMPACT_STRINGS" "Z", .fieldLink ST 15 ST "coder" "B", .fieldLink ST 9 ST "value" "[B", .methodLink ST 541 LEq.yN, .static LEq.yN, .code LEq.yN LEq.yB 3 (some .boolean), .initialized "java/lang/StringLatin1"]
theorem tabEq_of {a : Array Value} {s : State} (h : ∀ w ∈ wordsEq, w.before a s = true) : SEq.tab.before a s = true := by
  have hl : LEq.tab.before a s = true := unparts (wk h (.code LEq.yN LEq.yB 3 (some .boolean))) (wks h (.initialized LEq.yN.cls :: LEq.site))
  have q := consq hl h
  exact unparts (wk q (.code SEq.yN SEq.yB 3 (some .boolean))) (wks q (.initialized SEq.yN.cls :: SEq.site))
theorem movedEq {Z s : State} {a0 args : Array Value} (hZ : Z.Warmed39 s.vm) (hw : ∀ d ∈ wordsEq, d.before a0 Z = true) : ∀ d ∈ wordsEq, d.before args s = true := fun d hd => by
  have t : ∀ d ∈ wordsEq, (d.onTables && d.keepsFace) = true := by decide +kernel
  exact RoadKit.mv hZ (hw d hd) (t d hd)
/-- the road's facts of a String, as the laws ask it -/
theorem txt_of {Z U : State} {a0 : Array Value} {kI : Nat} (wi : (Jvm.Cond.instantiable ST kI).before a0 Z = true) (al : Z.vm.Alike U.vm) {x t : Addr} {kb : ClassId} {cs : List Int32} {cd N2 : Int32} {vs : List Value} (E : RoadKit.Exa Z U.heap x ST) (V : RoadKit.Fld Z U.heap x ST "value" "[B" (.ref t)) (C : RoadKit.Fld Z U.heap x ST "coder" "B" (.int cd)) (K : RoadKit.Arv Z U.heap t kb .byte N2 vs (.int 0)) (hc : CodA cs cd N2 vs) (hb : ∀ c ∈ cs, ¬ c < 0 ∧ ¬ (65535 : Int32) < c) (l2 : cs.length ≤ 4000) :
    ∃ A, Txt x t A cd cs.length (fun j => cs.getD j 0) U := by
  obtain ⟨A, K1, K2, K3, K4, K5, K6⟩ := K
  have hcod := hc.cod (by omega) K3 K5
  obtain ⟨D, fV, fC, hB, F1, F2, g1, g2, -, -⟩ := strObj wi al E V C
  exact ⟨A, ⟨_, hB.2.2.1, D, hB.1, rfl, by cases q : D.vm <;> first | rfl | exact absurd q (hB.2.1.2 _)⟩, Has.of hB F1 g1, Has.of hB F2 g2, ⟨K1.1, State.isArrayOf_alike al K1.2.1, K1.2.2, by rcases hcod with ⟨-, q, -⟩ | ⟨-, q, -⟩ <;> omega⟩, hcod, fun j hj => by
    have e : cs.getD j 0 = cs[j] := by simp [List.getD_eq_getElem?_getD, hj]
    show ¬ cs.getD j 0 < 0 ∧ ¬ 65535 < cs.getD j 0
    rw [e]; exact hb _ (List.getElem_mem _)⟩
theorem same_list (cs ds : List Int32) : SameT cs.length (fun j => cs.getD j 0) ds.length (fun j => ds.getD j 0) ↔ cs = ds := by
  constructor
  · rintro ⟨e, q⟩
    refine List.ext_getElem e fun j h1 h2 => ?_
    have := q j h1
    simpa [List.getD_eq_getElem?_getD, h1, h2] using this
  · rintro rfl
    exact ⟨rfl, fun _ _ => rfl⟩
/-- **equals(Object) OF TWO SUCH STRINGS**: 1 just where the chars are the same -/
theorem eqW {p : Program} {l : Launch} {e : Env} {R : Room} {s : State} {args : Array Value} {below : List Frame} {len W : Nat} {Z : State} {a0 : Array Value} {h : Heap} (hZ : Z.Warmed39 s.vm) (hw : ∀ d ∈ wordsEq, d.before a0 Z = true) {kI : Nat} (wi : (Jvm.Cond.instantiable ST kI).before a0 Z = true)
    {x t : Addr} {kb : ClassId} {cs : List Int32} {cd N2 : Int32} {vs : List Value} (E : RoadKit.Exa Z h x ST) (V : RoadKit.Fld Z h x ST "value" "[B" (.ref t)) (C : RoadKit.Fld Z h x ST "coder" "B" (.int cd)) (K : RoadKit.Arv Z h t kb .byte N2 vs (.int 0)) (hc : CodA cs cd N2 vs) (hb : ∀ c ∈ cs, ¬ c < 0 ∧ ¬ (65535 : Int32) < c) (l2 : cs.length ≤ 4000)
    {y t' : Addr} {kb' : ClassId} {ds : List Int32} {cd' N2' : Int32} {vs' : List Value} (E' : RoadKit.Exa Z h y ST) (V' : RoadKit.Fld Z h y ST "value" "[B" (.ref t')) (C' : RoadKit.Fld Z h y ST "coder" "B" (.int cd')) (K' : RoadKit.Arv Z h t' kb' .byte N2' vs' (.int 0)) (hc' : CodA ds cd' N2' vs') (hb' : ∀ c ∈ ds, ¬ c < 0 ∧ ¬ (65535 : Int32) < c) (l2' : ds.length ≤ 4000)
    {z : Int32} (S : RoadKit.Sta Z h ST "COMPACT_STRINGS" "Z" (.int z)) (hz : ¬ z = 0) (hfr : 2 ≤ R.frames) (hlo : W + 28 ≤ R.locals) :
    Back l R p e below s args (⟨"java/lang/String", "equals", "(Ljava/lang/Object;)Z"⟩ : MethodName) len W (fun P a => a = #[.ref x, .ref y] ∧ P.U.heap = h ∧ P.cells + 0 ≤ R.cells ∧ P.slots + 0 ≤ R.slots)
      (fun P _ v B => ∃ L, (((v = some (.int 1) ∧ cs = ds) ∨ (v = some (.int 0) ∧ ¬ cs = ds)) ∧ L = [] ∧ B.U.heap = h) ∧ B.locs = P.locs ++ L ∧ B.cells = P.cells + 0 ∧ B.slots = P.slots + 0) := by
  intro m meth c P g ig mk a X hg hsize hdg hW hn hp'
  obtain ⟨rfl, rfl, r1, r2⟩ := hp'
  have al : Z.vm.Alike P.U.vm := hZ.alike.trans X.warmed.alike
  obtain ⟨A, hx⟩ := txt_of wi al E V C K hc hb l2
  obtain ⟨A', hy⟩ := txt_of wi al E' V' C' K' hc' hb' l2'
  obtain ⟨v, B, X', ⟨⟨w, hv, hh, hq⟩, hl, hk, hs⟩, st⟩ := SEq.pays x t A cd cs.length (fun j => cs.getD j 0) y t' A' cd' ds.length (fun j => ds.getD j 0) z (tabEq_of (movedEq hZ hw)) hfr hlo m meth c P g ig mk _ X hg hsize hdg hW hn ⟨r1, r2, rfl, hx, hy, sta_is al S, hz⟩
  refine ⟨v, B, X', ⟨[], ⟨?_, rfl, hh⟩, hl, hk, hs⟩, st⟩
  rcases hq with ⟨rfl, q⟩ | ⟨rfl, q⟩
  · exact Or.inl ⟨hv, (same_list cs ds).mp q⟩
  · exact Or.inr ⟨hv, fun e => q ((same_list cs ds).mpr e)⟩
end StrChars.Road
end Jvm.Pilot.@@N@@
namespace Jvm.RoadKit
open Sem ClassFile Op Lib Jvm.Stand Jvm.Free Jvm.LawKit
section New
variable {p : Program} {l : Launch} {e : Env} {R : Room} {s : State} {m : MethodId} {args : Array Value} {below : List Frame} {meth : Method} {c : Code} {T : State} {locs : List Loc} {cells slots : Nat}
theorem retI (X : Stand p l e R s m args below meth c T locs cells slots) (hx : p.tables.exec = Jvm.exec) {pc : Nat} {Ls : Array Slot} {z : Int32} {rest : List Value} (hret : meth.sig.returnType = some .int) (hd : decode c.code pc = .ok (.ireturn, 1)) {fs : List Frame}
    (hl : ∀ (f : JFrame) (acts : List Action), f.method = m → f.locked = none → f.entered = [] → (doReturn e (T.setTop f) acts (some (.int z))).1 = T.setFrames fs) : Steps p.tables e below (T.setTop (mkF m pc Ls (.int z :: rest))) (T.setFrames fs) := by
  have hm' : T.vm.method? m = some meth := X.method'
  have hn : narrow .int (.int z) = .int z := rfl
  show Steps p.tables e below (T.setTop { method := m, pc := pc, locals := Ls, stack := _ :: rest, locked := none }) _
  jvm_step X.here [X.here.top, hx, hd, hm', hret, hn]
  first | (intro acts; rw [hl _ acts rfl rfl rfl]) | rw [hl _ _ rfl rfl rfl]
  exact Steps.refl _
end New
end Jvm.RoadKit
namespace Jvm.Pilot.@@N@@
open Jvm Jvm.ClassFile Sem Op Lib Jvm.Free Jvm.Stand Jvm.LawKit Jvm.RoadKit Bundle Jvm.Pilot.@@N@@.Jvm.D
/-- the rest of a run, in passing style: some state is come to at which F holds -/
def Go (p : Program) (e : Env) (below : List Frame) (F : State → Outcome → Prop) (t : State) : Prop := ∃ u o, Steps p.tables e below t u ∧ F u o
theorem Go.back {p : Program} {e : Env} {below : List Frame} {F : State → Outcome → Prop} {t t' : State} (k : ∀ u, Steps p.tables e below t' u → Steps p.tables e below t u) (h : Go p e below F t') : Go p e below F t := by
  obtain ⟨u, o, h1, h2⟩ := h
  exact ⟨u, o, k u h1, h2⟩
def own_F (s : State) (below : List Frame) (Q : Option Value → Heap → List Loc → Prop) (cells slots : Nat) (u : State) (o : Outcome) : Prop := u.status = .running ∧ Ended u below o ∧ ∃ v L, o = .returned v ∧ Q v u.heap L ∧ FrameEnd s o u L cells slots
def own_FW (s : State) (below : List Frame) (Q : Option Value → Heap → List Loc → Prop) (cells slots : Nat) (u : State) (o : Outcome) : Prop := u.status = .running ∧ Ended u below o ∧ ∃ v L, o = .returned v ∧ Q v u.heap L ∧ ReturnedEndW s o u L cells slots
theorem own_field {args : Array Value} {s : State} {t : Term} {C n d : String} {x : Addr} {v : Value} (h : t.eval args s none [] s = some (.ref x)) (h2 : (Term.field t C n d).eval args s none [] s = some v) : s.fieldOf? x C n d = some v := by
  simpa [Term.eval, h] using h2
theorem own_bit {x : Int32} (h : x = 0 ∨ x = 1) : narrow .boolean (.int x) = .int x ∧ fits .boolean (.int x) = true := by
  rcases h with rfl | rfl <;> decide
/-- the String constant that is read: "", of java.lang.String's own pool -/
abbrev own_EL : List (String × Nat) := [("java/lang/String", 7)]
theorem own_hEL {Z : State} {a0 : Array Value} (hw : ∀ d ∈ tables_1, d.before a0 Z = true) : EW Z a0 own_EL := EW.cons (hw _ (List.mem_of_getElem? (i := 18) rfl)) (by decide) EW.nil
def own_FH (Z s : State) (below : List Frame) (Q : Option Value → Heap → List Loc → Prop) (cells slots : Nat) (u : State) (o : Outcome) : Prop := u.status = .running ∧ Ended u below o ∧ ∃ v L, o = .returned v ∧ Q v u.heap L ∧ CHr Z own_EL s.vm s.heap u.vm u.heap ∧ ReturnedEndW s o u L cells slots
/-- a String under construction (no bytes yet) is none of the booked ones -/
theorem own_safe_null {Z : State} {EL : List (String × Nat)} {vm : Vm} {h : Heap} {x : Addr} (hal : Z.vm.Alike vm) (E : Exa Z h x "java/lang/String") (F : Fld Z h x "java/lang/String" "value" "[B" .null) : Safe Z EL vm h x := by
  rintro ⟨p, hp, u, a, hb, q, hq, G, hy⟩
  obtain ⟨cS, ⟨⟨s1, s2, s3, ⟨cv, kv, iv, s4, s4'⟩, -, s6, -, s8, -, s10, -⟩, -⟩, -, hB, -⟩ := G
  rcases hy with rfl | rfl
  · obtain ⟨kv', z4⟩ := ff_back (U := Wst Z vm h) hal s4
    have F2 : Fld Z h q.sa "java/lang/String" "value" "[B" (.ref q.sd) := ⟨q.sC, cv, kv', iv, q.fSV, s1, z4, s6, s2, s3, by rw [← hal.assignable]; exact s4', s8⟩
    exact Fld.ne F F2 (fun q => nomatch q) rfl
  · obtain ⟨c1, k1, e1, e2, -⟩ := E
    cases e1.symm.trans s10
    exact ids_ne e2 (by rw [← hal.findClass]; exact hB) (by decide) rfl
theorem own_pn0 : plainName "java/lang/String" = true := by first | (simp [plainName, overriddenIn]; done) | decide +kernel
theorem own_d3_0 : decode jdk_42_method_149_code 0 = .ok (.aload_n 0, 1) := by decide +kernel
theorem own_d3_1 : decode jdk_42_method_149_code 1 = .ok (.invokespecial 1, 3) := by decide +kernel
theorem own_d3_4 : decode jdk_42_method_149_code 4 = .ok (.iload_n 3, 1) := by decide +kernel
theorem own_d3_5 : decode jdk_42_method_149_code 5 = .ok (.ifCond .ne 22, 3) := by decide +kernel
theorem own_d3_8 : decode jdk_42_method_149_code 8 = .ok (.aload_n 0, 1) := by decide +kernel
theorem own_d3_9 : decode jdk_42_method_149_code 9 = .ok (.ldc 7, 2) := by decide +kernel
theorem own_d3_11 : decode jdk_42_method_149_code 11 = .ok (.getfield 9, 3) := by decide +kernel
theorem own_d3_14 : decode jdk_42_method_149_code 14 = .ok (.putfield 9, 3) := by decide +kernel
theorem own_d3_17 : decode jdk_42_method_149_code 17 = .ok (.aload_n 0, 1) := by decide +kernel
theorem own_d3_18 : decode jdk_42_method_149_code 18 = .ok (.ldc 7, 2) := by decide +kernel
theorem own_d3_20 : decode jdk_42_method_149_code 20 = .ok (.getfield 15, 3) := by decide +kernel
theorem own_d3_23 : decode jdk_42_method_149_code 23 = .ok (.putfield 15, 3) := by decide +kernel
theorem own_d3_26 : decode jdk_42_method_149_code 26 = .ok (.return_, 1) := by decide +kernel
theorem own_d3_27 : decode jdk_42_method_149_code 27 = .ok (.getstatic 38, 3) := by decide +kernel
theorem own_d3_30 : decode jdk_42_method_149_code 30 = .ok (.ifCond .eq 28, 3) := by decide +kernel
theorem own_d3_33 : decode jdk_42_method_149_code 33 = .ok (.aload_n 1, 1) := by decide +kernel
theorem own_d3_34 : decode jdk_42_method_149_code 34 = .ok (.iload_n 2, 1) := by decide +kernel
theorem own_d3_35 : decode jdk_42_method_149_code 35 = .ok (.iload_n 3, 1) := by decide +kernel
theorem own_d3_36 : decode jdk_42_method_149_code 36 = .ok (.invokestatic 177, 3) := by decide +kernel
theorem own_d3_39 : decode jdk_42_method_149_code 39 = .ok (.astore 5, 2) := by decide +kernel
theorem own_d3_41 : decode jdk_42_method_149_code 41 = .ok (.aload_n 0, 1) := by decide +kernel
theorem own_d3_42 : decode jdk_42_method_149_code 42 = .ok (.aload 5, 2) := by decide +kernel
theorem own_d3_44 : decode jdk_42_method_149_code 44 = .ok (.iload_n 3, 1) := by decide +kernel
theorem own_d3_45 : decode jdk_42_method_149_code 45 = .ok (.invokestatic 47, 3) := by decide +kernel
theorem own_d3_48 : decode jdk_42_method_149_code 48 = .ok (.putfield 15, 3) := by decide +kernel
theorem own_d3_51 : decode jdk_42_method_149_code 51 = .ok (.aload_n 0, 1) := by decide +kernel
theorem own_d3_52 : decode jdk_42_method_149_code 52 = .ok (.aload 5, 2) := by decide +kernel
theorem own_d3_54 : decode jdk_42_method_149_code 54 = .ok (.putfield 9, 3) := by decide +kernel
theorem own_d3_57 : decode jdk_42_method_149_code 57 = .ok (.return_, 1) := by decide +kernel
theorem own_d3_58 : decode jdk_42_method_149_code 58 = .ok (.aload_n 0, 1) := by decide +kernel
theorem own_d3_59 : decode jdk_42_method_149_code 59 = .ok (.iconst 1, 1) := by decide +kernel
theorem own_d3_60 : decode jdk_42_method_149_code 60 = .ok (.putfield 15, 3) := by decide +kernel
theorem own_d3_63 : decode jdk_42_method_149_code 63 = .ok (.aload_n 0, 1) := by decide +kernel
theorem own_d3_64 : decode jdk_42_method_149_code 64 = .ok (.aload_n 1, 1) := by decide +kernel
theorem own_d3_65 : decode jdk_42_method_149_code 65 = .ok (.iload_n 2, 1) := by decide +kernel
theorem own_d3_66 : decode jdk_42_method_149_code 66 = .ok (.iload_n 3, 1) := by decide +kernel
theorem own_d3_67 : decode jdk_42_method_149_code 67 = .ok (.invokestatic 180, 3) := by decide +kernel
theorem own_d3_70 : decode jdk_42_method_149_code 70 = .ok (.putfield 9, 3) := by decide +kernel
theorem own_d3_73 : decode jdk_42_method_149_code 73 = .ok (.return_, 1) := by decide +kernel
theorem own_ef_own_s2 (m : MethodId) (x0 : Addr) (x1 : Addr) : entryFrame m #[(.ref x0), (.ref x1), (.int (0 : Int32)), (.int (0 : Int32)), .null] 6 = mkF m 0 #[.val (.ref x0), .val (.ref x1), .val (.int (0 : Int32)), .val (.int (0 : Int32)), .val .null, .unset] [] := by first | (simp [entryFrame, mkF, argsToLocals, Value.category]; done) | rfl
def Q_own_s2 (Z : State) (a : Addr) (b : Addr) (h0 : Heap) (n0 : Nat) (v : Option Value) (h : Heap) (L : List Loc) : Prop := ∃ t : Nat, ∃ kb : ClassId, v = none ∧ Fr n0 L ∧ Keep h0 h [a] ∧ Exa Z h a "java/lang/String" ∧ Fld Z h a "java/lang/String" "value" "[B" (.ref t) ∧ Fld Z h a "java/lang/String" "coder" "B" (.int (0 : Int32)) ∧ Arv Z h t kb .byte (0 : Int32) [] (.int (0 : Int32))
set_option maxRecDepth 65536 in
set_option maxHeartbeats 40000000 in
theorem own_s2 (l : Launch) (Z : State) (a0 : Array Value) (hw : ∀ d ∈ tables_1, d.before a0 Z = true) (ws : List Jvm.Cond) (a : Addr) (b : Addr) (h0 : Heap) (n0 : Nat) (Z0 : n0 ≤ h0.size) (E_a : Exa Z h0 a "java/lang/String") (F_a_value : Fld Z h0 a "java/lang/String" "value" "[B" .null) (F_a_coder : Fld Z h0 a "java/lang/String" "coder" "B" (.int (0 : Int32))) (g_a : n0 ≤ a) :
    MetFree l (⟨"java/lang/String", "<init>", "([CIILjava/lang/Void;)V"⟩ : MethodName) (head1 (Jvm.Cond.code (⟨"java/lang/String", "<init>", "([CIILjava/lang/Void;)V"⟩ : MethodName) jdk_42_method_149_code 6 none :: ws) ({ frames := 1, cells := 4, slots := 8, locals := 12 } : Room)) (fun as_ U => as_ = #[(.ref a), (.ref b), (.int (0 : Int32)), (.int (0 : Int32)), .null] ∧ Z.Warmed39 U.vm ∧ U.heap = h0 ∧ CHv Z own_EL U.vm h0) (fun _ _ _ _ _ => True) (fun _ U o U' => ∃ v L, o = .returned v ∧ Q_own_s2 Z a b h0 n0 v U'.heap L ∧ CHr Z own_EL U.vm U.heap U'.vm U'.heap ∧ ReturnedEndW U o U' L ({ frames := 1, cells := 4, slots := 8, locals := 12 } : Room).cells ({ frames := 1, cells := 4, slots := 8, locals := 12 } : Room).slots) := by
  refine MetFree.of_bodySF (plainFor_of_name own_pn0) hisR ?_
  intro p e s m args below meth c s₁ Bd hml0 hP hK
  obtain ⟨rfl, hZ, hh, hCH⟩ := hP
  have R0 := CHr.refl hCH
  have hEL : EW Z a0 own_EL := own_hEL hw
  have hx := Bd.exec
  have hby := Bd.bytes
  have hml : c.maxLocals = 6 := hml0
  have hown : s.vm.findClass "java/lang/String" = some m.cls := findClass_of_methodNamed Bd.named
  have hnm := (name_of_methodNamed Bd.named Bd.method).1
  have X0 : Stand p l e ({ frames := 1, cells := 4, slots := 8, locals := 12 } : Room) s m #[(.ref a), (.ref b), (.int (0 : Int32)), (.int (0 : Int32)), .null] below meth c s₁ [] 0 0 := Stand.of_body Bd
  have e0 : s₁.heap = h0 := by rw [← hh, Bd.state]; rfl
  have N0 := Fr.nil n0
  have K0 := Keep.refl h0 [a]
  have hS0 : s.Since s.vm s.heap.size := (State.WarmedH.refl s).since _
  have hk0 : s.heap.size ≤ h0.size := by rw [hh]; exact Nat.le_refl _
  show Go p e below (own_FH Z s below (Q_own_s2 Z a b h0 n0) ({ frames := 1, cells := 4, slots := 8, locals := 12 } : Room).cells ({ frames := 1, cells := 4, slots := 8, locals := 12 } : Room).slots) (s₁.setTop (entryFrame m #[(.ref a), (.ref b), (.int (0 : Int32)), (.int (0 : Int32)), .null] 6))
  rw [own_ef_own_s2 m a b]
  have Sf0_a := own_safe_null (EL := own_EL) hZ.alike E_a F_a_value
  refine Go.back (t' := (s₁.setTop (mkF m 1 #[.val (.ref a), .val (.ref b), .val (.int (0 : Int32)), .val (.int (0 : Int32)), .val .null, .unset] [(.ref a)]))) (fun u k => XS.aloadN X0.here hx rfl (hb hby own_d3_0) rfl rfl k) ?_
  obtain ⟨T1, X1, e1, st1⟩ := initO X0 hx hZ hown (hw _ (List.mem_of_getElem? (i := 15) rfl)) (hw _ (List.mem_of_getElem? (i := 16) rfl)) (hw _ (List.mem_of_getElem? (i := 17) rfl)) e0 (g := (mkF m 1 #[.val (.ref a), .val (.ref b), .val (.int (0 : Int32)), .val (.int (0 : Int32)), .val .null, .unset] [(.ref a)])) rfl (by rw [hml]; rfl) rfl (hb hby own_d3_1) (by decide) (W := 0) (by show 2 * 0 + _ ≤ _; exact Nat.le_of_eq rfl) (by decide)
  refine Go.back (t' := (T1.setTop (mkF m 4 #[.val (.ref a), .val (.ref b), .val (.int (0 : Int32)), .val (.int (0 : Int32)), .val .null, .unset] []))) st1 ?_
  refine Go.back (t' := (T1.setTop (mkF m 9 #[.val (.ref a), .val (.ref b), .val (.int (0 : Int32)), .val (.int (0 : Int32)), .val .null, .unset] [(.ref a)]))) (fun u k => XS.iloadN X1.here hx rfl (hb hby own_d3_4) rfl (XS.ifNo X1.here hx rfl (hb hby own_d3_5) rfl (XT.i0_ne_f (by decide)) (XS.aloadN X1.here hx rfl (hb hby own_d3_8) rfl rfl k))) ?_
  have wS : ∀ d ∈ Bundle.stringAtoms, d.before a0 Z = true := fun d hd => hw d ((by decide +kernel : ∀ d ∈ Bundle.stringAtoms, d ∈ tables_1) d hd)
  obtain ⟨a2, T2, h2, kk2, b2, kb2, X2, e2, E2, hS2, hk2, hZ, hown, EA2, FC2, FV2, VA2, lta2, ltb2, hC2, hLit2, hne2, st2⟩ := ldcCH (s := s) (vm0 := s.vm) X1 hx hZ hown (hw _ (List.mem_of_getElem? (i := 18) rfl)) wS e1 hS0 hk0 hEL (List.mem_cons_self ..) R0.1 (vs := []) (z := (0 : Int32)) ⟨by decide, rfl⟩ (by decide) rfl (g := (mkF m 9 #[.val (.ref a), .val (.ref b), .val (.int (0 : Int32)), .val (.int (0 : Int32)), .val .null, .unset] [(.ref a)])) rfl (hb hby own_d3_9) (n := 0) (by decide) (by decide) (by decide) (by decide)
  have Z2 : n0 ≤ h2.size := Nat.le_trans Z0 E2.1
  have K2 := K0.ext E2
  have Sf2_a := CHr.safe hC2 E_a.lt Sf0_a
  have R2 := R0.trans hC2
  have ne_a_a2 : a ≠ a2 := (hne2 _ Sf2_a).1
  have ne_a_b2 : a ≠ b2 := (hne2 _ Sf2_a).2
  refine Go.back (t' := (T2.setTop (mkF m 11 #[.val (.ref a), .val (.ref b), .val (.int (0 : Int32)), .val (.int (0 : Int32)), .val .null, .unset] [(.ref a2), (.ref a)]))) st2 ?_
  obtain ⟨T3, X3, e3, st3⟩ := getF X2 hx hZ hown (host := "") (Or.inl (hw _ (List.mem_of_getElem? (i := 24) rfl))) Via.refl e2 FV2 (g := (mkF m 11 #[.val (.ref a), .val (.ref b), .val (.int (0 : Int32)), .val (.int (0 : Int32)), .val .null, .unset] [(.ref a2), (.ref a)])) rfl rfl (hb hby own_d3_11)
  refine Go.back (t' := (T3.setTop (mkF m 14 #[.val (.ref a), .val (.ref b), .val (.int (0 : Int32)), .val (.int (0 : Int32)), .val .null, .unset] [(.ref b2), (.ref a)]))) st3 ?_
  have f5 := (F_a_value.ext E2)
  have f6 := (E_a.ext E2)
  obtain ⟨T4, h4, X4, e4, W4, st4⟩ := putF X3 hx hZ hown (host := "") (Or.inl (hw _ (List.mem_of_getElem? (i := 24) rfl))) Via.refl e3 f5 f6 (Or.inr ⟨(hw _ (List.mem_of_getElem? (i := 20) rfl)), rfl, hnm⟩) (hw _ (List.mem_of_getElem? (i := 5) rfl)) (ty := (.array .byte)) (by decide) rfl rfl (g := (mkF m 14 #[.val (.ref a), .val (.ref b), .val (.int (0 : Int32)), .val (.int (0 : Int32)), .val .null, .unset] [(.ref b2), (.ref a)])) rfl rfl (hb hby own_d3_14)
  have Z4 : n0 ≤ h4.size := Nat.le_trans Z2 (Keep.of_wr W4).1
  have K4 := K2.wr W4 (Or.inl (List.mem_of_getElem? (i := 0) rfl))
  have N4 := Fr.snoc X4 N0 g_a
  have hk4 := Nat.le_trans hk2 (Keep.of_wr W4).1
  have Sf4_a := Safe.wr W4 Sf2_a R2.1 Sf2_a
  have R4 := R2.trans (CHr.wr W4 Sf2_a R2.1)
  have F4 := f5.same W4
  refine Go.back (t' := (T4.setTop (mkF m 17 #[.val (.ref a), .val (.ref b), .val (.int (0 : Int32)), .val (.int (0 : Int32)), .val .null, .unset] []))) st4 ?_
  refine Go.back (t' := (T4.setTop (mkF m 18 #[.val (.ref a), .val (.ref b), .val (.int (0 : Int32)), .val (.int (0 : Int32)), .val .null, .unset] [(.ref a)]))) (fun u k => XS.aloadN X4.here hx rfl (hb hby own_d3_17) rfl rfl k) ?_
  have f8 := (f6.wr W4)
  obtain ⟨a7, T7, h7, kk7, b7, kb7, X7, e7, E7, hS7, hk7, hZ, hown, EA7, FC7, FV7, VA7, lta7, ltb7, hC7, hLit7, hne7, st7⟩ := ldcCH (s := s) (vm0 := T2.vm) X4 hx hZ hown (hw _ (List.mem_of_getElem? (i := 18) rfl)) wS e4 hS2 hk4 hEL (List.mem_cons_self ..) R4.1 (vs := []) (z := (0 : Int32)) ⟨by decide, rfl⟩ (by decide) rfl (g := (mkF m 18 #[.val (.ref a), .val (.ref b), .val (.int (0 : Int32)), .val (.int (0 : Int32)), .val .null, .unset] [(.ref a)])) rfl (hb hby own_d3_18) (n := 0) (by decide) (by decide) (by decide) (by decide)
  have Z7 : n0 ≤ h7.size := Nat.le_trans Z4 E7.1
  have K7 := K4.ext E7
  have Sf7_a := CHr.safe hC7 f8.lt Sf4_a
  have R7 := R4.trans hC7
  have ne_a_a7 : a ≠ a7 := (hne7 _ Sf7_a).1
  have ne_a_b7 : a ≠ b7 := (hne7 _ Sf7_a).2
  refine Go.back (t' := (T7.setTop (mkF m 20 #[.val (.ref a), .val (.ref b), .val (.int (0 : Int32)), .val (.int (0 : Int32)), .val .null, .unset] [(.ref a7), (.ref a)]))) st7 ?_
  obtain ⟨T9, X9, e9, st9⟩ := getF X7 hx hZ hown (host := "") (Or.inl (hw _ (List.mem_of_getElem? (i := 25) rfl))) Via.refl e7 FC7 (g := (mkF m 20 #[.val (.ref a), .val (.ref b), .val (.int (0 : Int32)), .val (.int (0 : Int32)), .val .null, .unset] [(.ref a7), (.ref a)])) rfl rfl (hb hby own_d3_20)
  refine Go.back (t' := (T9.setTop (mkF m 23 #[.val (.ref a), .val (.ref b), .val (.int (0 : Int32)), .val (.int (0 : Int32)), .val .null, .unset] [(.int (0 : Int32)), (.ref a)]))) st9 ?_
  have f11 := (((F_a_coder.ext E2).other W4 (Or.inr (slot_ne (Or.inr (hw _ (List.mem_of_getElem? (i := 21) rfl))) (Or.inr (hw _ (List.mem_of_getElem? (i := 20) rfl))) (by decide) (t := .byte) (t' := (.array .byte)) (by decide) (by decide)))).ext E7)
  have f12 := (f8.ext E7)
  obtain ⟨T10, h10, X10, e10, W10, st10⟩ := putFN X9 hx hZ hown (hw _ (List.mem_of_getElem? (i := 25) rfl)) Via.refl e9 f11 f12 (Or.inr ⟨(hw _ (List.mem_of_getElem? (i := 21) rfl)), rfl, hnm⟩) (hw _ (List.mem_of_getElem? (i := 5) rfl)) (ty := .byte) (v' := (.int (0 : Int32))) (by decide) rfl rfl (g := (mkF m 23 #[.val (.ref a), .val (.ref b), .val (.int (0 : Int32)), .val (.int (0 : Int32)), .val .null, .unset] [(.int (0 : Int32)), (.ref a)])) rfl rfl (hb hby own_d3_23)
  have Z10 : n0 ≤ h10.size := Nat.le_trans Z7 (Keep.of_wr W10).1
  have K10 := K7.wr W10 (Or.inl (List.mem_of_getElem? (i := 0) rfl))
  have N10 := Fr.snoc X10 N4 g_a
  have hk10 := Nat.le_trans hk7 (Keep.of_wr W10).1
  have Sf10_a := Safe.wr W10 Sf7_a R7.1 Sf7_a
  have R10 := R7.trans (CHr.wr W10 Sf7_a R7.1)
  have F10 := f11.same W10
  refine Go.back (t' := (T10.setTop (mkF m 26 #[.val (.ref a), .val (.ref b), .val (.int (0 : Int32)), .val (.int (0 : Int32)), .val .null, .unset] []))) st10 ?_
  have f13 := (f12.wr W10)
  have f14 := ((F4.ext E7).other W10 (Or.inr (slot_ne (Or.inr (hw _ (List.mem_of_getElem? (i := 20) rfl))) (Or.inr (hw _ (List.mem_of_getElem? (i := 21) rfl))) (by decide) (t := (.array .byte)) (t' := .byte) (by decide) (by decide))))
  have f15 := (((VA2.other W4 (Ne.symm ne_a_b2)).ext E7).other W10 (Ne.symm ne_a_b2))
  obtain ⟨fs, hr, hrun, hended, hFW⟩ := Jvm.Stand.leaveW (s := s) (vm₁ := T7.vm) X10 hS7 (by rw [e10]; exact hk10) (v := none) (fun _ => rfl)
  have RF := R10.trans (CHv.at (s := s) (vm0 := T7.vm) X10 hZ hEL R10.1)
  refine ⟨_, _, X10.returnOut hx Bd.returns (hb hby own_d3_26) hr, hrun, hended, _, _, rfl, ?_, ?_, hFW.1, hFW.2.1, hFW.2.2.1, hFW.2.2.2.mono (by decide) (by decide)⟩
  · skip
    show Q_own_s2 Z a b h0 n0 _ T10.heap _
    rw [e10]
    exact ⟨b2, kb2, rfl, N10, K10, f13, f14, F10, f15⟩
  · show CHr Z own_EL s.vm s.heap T10.vm T10.heap
    rw [hh, e10]
    exact RF
theorem own_pd0 : parseMethodDescriptor "([CIILjava/lang/Void;)V" = some ⟨[(.array .char), .int, .int, (.object "java/lang/Void")], none⟩ := by decide +kernel
theorem own_d2_0 : decode jdk_42_method_3_code 0 = .ok (.aload_n 0, 1) := by decide +kernel
theorem own_d2_1 : decode jdk_42_method_3_code 1 = .ok (.aload_n 1, 1) := by decide +kernel
theorem own_d2_2 : decode jdk_42_method_3_code 2 = .ok (.iconst 0, 1) := by decide +kernel
theorem own_d2_3 : decode jdk_42_method_3_code 3 = .ok (.aload_n 1, 1) := by decide +kernel
theorem own_d2_4 : decode jdk_42_method_3_code 4 = .ok (.arraylength, 1) := by decide +kernel
theorem own_d2_5 : decode jdk_42_method_3_code 5 = .ok (.aconst_null, 1) := by decide +kernel
theorem own_d2_6 : decode jdk_42_method_3_code 6 = .ok (.invokespecial 27, 3) := by decide +kernel
theorem own_d2_9 : decode jdk_42_method_3_code 9 = .ok (.return_, 1) := by decide +kernel
theorem own_ef_own_s1 (m : MethodId) (x0 : Addr) (x1 : Addr) : entryFrame m #[(.ref x0), (.ref x1)] 2 = mkF m 0 #[.val (.ref x0), .val (.ref x1)] [] := by first | (simp [entryFrame, mkF, argsToLocals, Value.category]; done) | rfl
def Q_own_s1 (Z : State) (a : Addr) (b : Addr) (kc : ClassId) (h0 : Heap) (n0 : Nat) (v : Option Value) (h : Heap) (L : List Loc) : Prop := ∃ t : Nat, ∃ kb : ClassId, v = none ∧ Fr n0 L ∧ Keep h0 h [a] ∧ Exa Z h a "java/lang/String" ∧ Fld Z h a "java/lang/String" "value" "[B" (.ref t) ∧ Fld Z h a "java/lang/String" "coder" "B" (.int (0 : Int32)) ∧ Arv Z h t kb .byte (0 : Int32) [] (.int (0 : Int32))
set_option maxRecDepth 65536 in
set_option maxHeartbeats 40000000 in
theorem own_s1 (l : Launch) (Z : State) (a0 : Array Value) (hw : ∀ d ∈ tables_1, d.before a0 Z = true) (ws : List Jvm.Cond) (a : Addr) (b : Addr) (kc : ClassId) (h0 : Heap) (n0 : Nat) (Z0 : n0 ≤ h0.size) (E_a : Exa Z h0 a "java/lang/String") (F_a_value : Fld Z h0 a "java/lang/String" "value" "[B" .null) (F_a_coder : Fld Z h0 a "java/lang/String" "coder" "B" (.int (0 : Int32))) (g_a : n0 ≤ a) (V_b : Arv Z h0 b kc .char (0 : Int32) [] (.int (0 : Int32))) :
    MetFree l (⟨"java/lang/String", "<init>", "([C)V"⟩ : MethodName) (head1 (Jvm.Cond.code (⟨"java/lang/String", "<init>", "([C)V"⟩ : MethodName) jdk_42_method_3_code 2 none :: ws) ({ frames := 2, cells := 4, slots := 8, locals := 29 } : Room)) (fun as_ U => as_ = #[(.ref a), (.ref b)] ∧ Z.Warmed39 U.vm ∧ U.heap = h0 ∧ CHv Z own_EL U.vm h0) (fun _ _ _ _ _ => True) (fun _ U o U' => ∃ v L, o = .returned v ∧ Q_own_s1 Z a b kc h0 n0 v U'.heap L ∧ CHr Z own_EL U.vm U.heap U'.vm U'.heap ∧ ReturnedEndW U o U' L ({ frames := 2, cells := 4, slots := 8, locals := 29 } : Room).cells ({ frames := 2, cells := 4, slots := 8, locals := 29 } : Room).slots) := by
  refine MetFree.of_bodySF (plainFor_of_name own_pn0) hisR ?_
  intro p e s m args below meth c s₁ Bd hml0 hP hK
  obtain ⟨rfl, hZ, hh, hCH⟩ := hP
  have R0 := CHr.refl hCH
  have hEL : EW Z a0 own_EL := own_hEL hw
  have hx := Bd.exec
  have hby := Bd.bytes
  have hml : c.maxLocals = 2 := hml0
  have hown : s.vm.findClass "java/lang/String" = some m.cls := findClass_of_methodNamed Bd.named
  have hnm := (name_of_methodNamed Bd.named Bd.method).1
  have X0 : Stand p l e ({ frames := 2, cells := 4, slots := 8, locals := 29 } : Room) s m #[(.ref a), (.ref b)] below meth c s₁ [] 0 0 := Stand.of_body Bd
  have e0 : s₁.heap = h0 := by rw [← hh, Bd.state]; rfl
  have N0 := Fr.nil n0
  have K0 := Keep.refl h0 [a]
  have hS0 : s.Since s.vm s.heap.size := (State.WarmedH.refl s).since _
  have hk0 : s.heap.size ≤ h0.size := by rw [hh]; exact Nat.le_refl _
  show Go p e below (own_FH Z s below (Q_own_s1 Z a b kc h0 n0) ({ frames := 2, cells := 4, slots := 8, locals := 29 } : Room).cells ({ frames := 2, cells := 4, slots := 8, locals := 29 } : Room).slots) (s₁.setTop (entryFrame m #[(.ref a), (.ref b)] 2))
  rw [own_ef_own_s1 m a b]
  have Sf0_a := own_safe_null (EL := own_EL) hZ.alike E_a F_a_value
  refine Go.back (t' := (s₁.setTop (mkF m 4 #[.val (.ref a), .val (.ref b)] [(.ref b), (.int (0 : Int32)), (.ref b), (.ref a)]))) (fun u k => XS.aloadN X0.here hx rfl (hb hby own_d2_0) rfl rfl (XS.aloadN X0.here hx rfl (hb hby own_d2_1) rfl rfl (XT.iconstV X0.here hx rfl (0 : Int32) (hb hby own_d2_2) (by decide) (XS.aloadN X0.here hx rfl (hb hby own_d2_3) rfl rfl k)))) ?_
  obtain ⟨cl1, Ar1, aq1, aS1, aM1, aH1, aG1⟩ := id V_b
  refine Go.back (t' := (s₁.setTop (mkF m 5 #[.val (.ref a), .val (.ref b)] [(.int cl1.slots.size.toInt32), (.int (0 : Int32)), (.ref b), (.ref a)]))) (fun u k => X0.arraylength hx (by rw [e0]; exact Ar1.1) (State.isArrayOf_alike hZ.alike Ar1.2.1) (g := (mkF m 4 #[.val (.ref a), .val (.ref b)] [(.ref b), (.int (0 : Int32)), (.ref b), (.ref a)])) rfl rfl (hb hby own_d2_4) _ k) ?_
  rw [len_of aS1 aM1]
  refine Go.back (t' := (s₁.setTop (mkF m 6 #[.val (.ref a), .val (.ref b)] [.null, (.int (0 : Int32)), (.int (0 : Int32)), (.ref b), (.ref a)]))) (fun u k => XS.aconstNull X0.here hx rfl (hb hby own_d2_5) k) ?_
  obtain ⟨_, _, ⟨T2, L2, k2, n2⟩, -, X2, hT2, hg2, ⟨Lc2, hQ2, l2, y2, z2, hC2⟩, st2⟩ := X0.specialBackS hx (y := (⟨"java/lang/String", "<init>", "([CIILjava/lang/Void;)V"⟩ : MethodName)) rfl hown (mvT hZ (hw _ (List.mem_of_getElem? (i := 11) rfl))) (mvT hZ (hw _ (List.mem_of_getElem? (i := 12) rfl))) (mvT hZ (hw _ (List.mem_of_getElem? (i := 14) rfl))) (by decide) (backOfSH (s := s) (vm0 := s.vm) (W := 0) (own_s2 l Z a0 hw [] a b h0 n0 Z0 E_a F_a_value F_a_coder g_a) hZ (hw _ (List.mem_of_getElem? (i := 14) rfl)) (hw _ (List.mem_of_getElem? (i := 6) rfl)) (by decide) (by decide) hEL R0.1) (g := (mkF m 6 #[.val (.ref a), .val (.ref b)] [.null, (.int (0 : Int32)), (.int (0 : Int32)), (.ref b), (.ref a)])) rfl (by rw [hml]; rfl) (Steps.refl _) (a := a) (argsL := [(.ref b), (.int (0 : Int32)), (.int (0 : Int32)), .null]) (rest := []) (lenOf own_pd0 rfl) rfl (by show 2 * 0 + _ ≤ _; exact Nat.le_of_eq rfl) (hb hby own_d2_6) (fun _ _ => ⟨rfl, e0, (by decide : 0 + 4 ≤ _), (by decide : 0 + 8 ≤ _)⟩)
  dsimp only [Pt.U, Pt.locs, Pt.cells, Pt.slots] at X2 l2 y2 z2 st2 hQ2 hT2 hg2 hC2
  subst l2 y2 z2
  obtain ⟨X2, hS2, hZ, hown⟩ := rebS (s := s) (vm0 := s.vm) hS0 (by rw [e0]; exact hk0) X2 hT2 hg2 hZ hown
  have Sf2_a := CHr.safe hC2 E_a.lt Sf0_a
  have R2 := R0.trans hC2
  obtain ⟨t2, kb2, rfl, N2, Kc2, P2_0, P2_1, P2_2, P2_3⟩ := hQ2
  have NA2 := Fr.app N0 N2
  have Z2 : n0 ≤ T2.heap.size := Nat.le_trans Z0 Kc2.1
  have K2 := K0.trans Kc2 (allS (Or.inl (List.mem_of_getElem? (i := 0) rfl)) all0)
  refine Go.back (t' := (T2.setTop (mkF m 9 #[.val (.ref a), .val (.ref b)] []))) (fun u k => st2.trans k) ?_
  obtain ⟨fs, hr, hrun, hended, hFW⟩ := Jvm.Stand.leaveW (s := s) (vm₁ := T2.vm) X2 hS2 (Nat.le_refl _) (v := none) (fun _ => rfl)
  have RF := R2.trans (CHv.at (s := s) (vm0 := T2.vm) X2 hZ hEL R2.1)
  refine ⟨_, _, X2.returnOut hx Bd.returns (hb hby own_d2_9) hr, hrun, hended, _, _, rfl, ?_, ?_, hFW.1, hFW.2.1, hFW.2.2.1, hFW.2.2.2.mono (by decide) (by decide)⟩
  · skip
    show Q_own_s1 Z a b kc h0 n0 _ T2.heap _
    exact ⟨t2, kb2, rfl, NA2, K2, P2_0, P2_1, P2_2, P2_3⟩
  · show CHr Z own_EL s.vm s.heap T2.vm T2.heap
    rw [hh]
    exact RF
def own_cs (k c0 c1 c2 : Int32) : List Int32 := if k = (0 : Int32) then [] else (if k = (1 : Int32) then [c0] else (if k = (2 : Int32) then [c0, c1] else [c0, c1, c2]))
/-- the bytes of such chars -/
def own_bs (cs : List Int32) : List Value := cs.map fun c => Value.int c.toInt8.toInt32
theorem own_pd1 : parseMethodDescriptor "([C)V" = some ⟨[(.array .char)], none⟩ := by decide +kernel
theorem own_pn1 : plainName "com/example/norn/norn/http/EntityTagMatchesStronglyPinLaw" = true := by first | (simp [plainName, overriddenIn]; done) | decide +kernel
theorem own_d1_0 : decode method_2_code 0 = .ok (.iload_n 0, 1) := by decide +kernel
theorem own_d1_1 : decode method_2_code 1 = .ok (.ifCond .ne 14, 3) := by decide +kernel
theorem own_d1_4 : decode method_2_code 4 = .ok (.new 7, 3) := by decide +kernel
theorem own_d1_7 : decode method_2_code 7 = .ok (.dup, 1) := by decide +kernel
theorem own_d1_8 : decode method_2_code 8 = .ok (.iconst 0, 1) := by decide +kernel
theorem own_d1_9 : decode method_2_code 9 = .ok (.newarray .char, 2) := by decide +kernel
theorem own_d1_11 : decode method_2_code 11 = .ok (.invokespecial 9, 3) := by decide +kernel
theorem own_d1_14 : decode method_2_code 14 = .ok (.areturn, 1) := by decide +kernel
theorem own_d1_15 : decode method_2_code 15 = .ok (.iload_n 0, 1) := by decide +kernel
theorem own_d1_16 : decode method_2_code 16 = .ok (.iconst 1, 1) := by decide +kernel
theorem own_d1_17 : decode method_2_code 17 = .ok (.if_icmp .ne 23, 3) := by decide +kernel
theorem own_d1_20 : decode method_2_code 20 = .ok (.iconst 1, 1) := by decide +kernel
theorem own_d1_21 : decode method_2_code 21 = .ok (.newarray .char, 2) := by decide +kernel
theorem own_d1_23 : decode method_2_code 23 = .ok (.astore 4, 2) := by decide +kernel
theorem own_d1_25 : decode method_2_code 25 = .ok (.aload 4, 2) := by decide +kernel
theorem own_d1_27 : decode method_2_code 27 = .ok (.iconst 0, 1) := by decide +kernel
theorem own_d1_28 : decode method_2_code 28 = .ok (.iload_n 1, 1) := by decide +kernel
theorem own_d1_29 : decode method_2_code 29 = .ok (.castore, 1) := by decide +kernel
theorem own_d1_30 : decode method_2_code 30 = .ok (.new 7, 3) := by decide +kernel
theorem own_d1_33 : decode method_2_code 33 = .ok (.dup, 1) := by decide +kernel
theorem own_d1_34 : decode method_2_code 34 = .ok (.aload 4, 2) := by decide +kernel
theorem own_d1_36 : decode method_2_code 36 = .ok (.invokespecial 9, 3) := by decide +kernel
theorem own_d1_39 : decode method_2_code 39 = .ok (.areturn, 1) := by decide +kernel
theorem own_d1_40 : decode method_2_code 40 = .ok (.iload_n 0, 1) := by decide +kernel
theorem own_d1_41 : decode method_2_code 41 = .ok (.iconst 2, 1) := by decide +kernel
theorem own_d1_42 : decode method_2_code 42 = .ok (.if_icmp .ne 28, 3) := by decide +kernel
theorem own_d1_45 : decode method_2_code 45 = .ok (.iconst 2, 1) := by decide +kernel
theorem own_d1_46 : decode method_2_code 46 = .ok (.newarray .char, 2) := by decide +kernel
theorem own_d1_48 : decode method_2_code 48 = .ok (.astore 4, 2) := by decide +kernel
theorem own_d1_50 : decode method_2_code 50 = .ok (.aload 4, 2) := by decide +kernel
theorem own_d1_52 : decode method_2_code 52 = .ok (.iconst 0, 1) := by decide +kernel
theorem own_d1_53 : decode method_2_code 53 = .ok (.iload_n 1, 1) := by decide +kernel
theorem own_d1_54 : decode method_2_code 54 = .ok (.castore, 1) := by decide +kernel
theorem own_d1_55 : decode method_2_code 55 = .ok (.aload 4, 2) := by decide +kernel
theorem own_d1_57 : decode method_2_code 57 = .ok (.iconst 1, 1) := by decide +kernel
theorem own_d1_58 : decode method_2_code 58 = .ok (.iload_n 2, 1) := by decide +kernel
theorem own_d1_59 : decode method_2_code 59 = .ok (.castore, 1) := by decide +kernel
theorem own_d1_60 : decode method_2_code 60 = .ok (.new 7, 3) := by decide +kernel
theorem own_d1_63 : decode method_2_code 63 = .ok (.dup, 1) := by decide +kernel
theorem own_d1_64 : decode method_2_code 64 = .ok (.aload 4, 2) := by decide +kernel
theorem own_d1_66 : decode method_2_code 66 = .ok (.invokespecial 9, 3) := by decide +kernel
theorem own_d1_69 : decode method_2_code 69 = .ok (.areturn, 1) := by decide +kernel
theorem own_d1_70 : decode method_2_code 70 = .ok (.iconst 3, 1) := by decide +kernel
theorem own_d1_71 : decode method_2_code 71 = .ok (.newarray .char, 2) := by decide +kernel
theorem own_d1_73 : decode method_2_code 73 = .ok (.astore 4, 2) := by decide +kernel
theorem own_d1_75 : decode method_2_code 75 = .ok (.aload 4, 2) := by decide +kernel
theorem own_d1_77 : decode method_2_code 77 = .ok (.iconst 0, 1) := by decide +kernel
theorem own_d1_78 : decode method_2_code 78 = .ok (.iload_n 1, 1) := by decide +kernel
theorem own_d1_79 : decode method_2_code 79 = .ok (.castore, 1) := by decide +kernel
theorem own_d1_80 : decode method_2_code 80 = .ok (.aload 4, 2) := by decide +kernel
theorem own_d1_82 : decode method_2_code 82 = .ok (.iconst 1, 1) := by decide +kernel
theorem own_d1_83 : decode method_2_code 83 = .ok (.iload_n 2, 1) := by decide +kernel
theorem own_d1_84 : decode method_2_code 84 = .ok (.castore, 1) := by decide +kernel
theorem own_d1_85 : decode method_2_code 85 = .ok (.aload 4, 2) := by decide +kernel
theorem own_d1_87 : decode method_2_code 87 = .ok (.iconst 2, 1) := by decide +kernel
theorem own_d1_88 : decode method_2_code 88 = .ok (.iload_n 3, 1) := by decide +kernel
theorem own_d1_89 : decode method_2_code 89 = .ok (.castore, 1) := by decide +kernel
theorem own_d1_90 : decode method_2_code 90 = .ok (.new 7, 3) := by decide +kernel
theorem own_d1_93 : decode method_2_code 93 = .ok (.dup, 1) := by decide +kernel
theorem own_d1_94 : decode method_2_code 94 = .ok (.aload 4, 2) := by decide +kernel
theorem own_d1_96 : decode method_2_code 96 = .ok (.invokespecial 9, 3) := by decide +kernel
theorem own_d1_99 : decode method_2_code 99 = .ok (.areturn, 1) := by decide +kernel
theorem own_ef_own_make (m : MethodId) (x0 : Int32) (x1 : Int32) (x2 : Int32) (x3 : Int32) : entryFrame m #[(.int x0), (.int x1), (.int x2), (.int x3)] 5 = mkF m 0 #[.val (.int x0), .val (.int x1), .val (.int x2), .val (.int x3), .unset] [] := by first | (simp [entryFrame, mkF, argsToLocals, Value.category]; done) | rfl
def Q_own_make (Z : State) (p0 : Int32) (c0 : Int32) (c1 : Int32) (c2 : Int32) (gC : Int32) (h0 : Heap) (n0 : Nat) (v : Option Value) (h : Heap) (L : List Loc) : Prop := ∃ x : Addr, ∃ t : Nat, ∃ kb : ClassId, v = some (.ref x) ∧ Fr n0 L ∧ Keep h0 h [] ∧ n0 ≤ x ∧ h0.size ≤ x ∧ Exa Z h x "java/lang/String" ∧ Fld Z h x "java/lang/String" "value" "[B" (.ref t) ∧ Fld Z h x "java/lang/String" "coder" "B" (.int (0 : Int32)) ∧ Arv Z h t kb .byte (Int32.ofNat (own_cs p0 c0 c1 c2).length) (own_bs (own_cs p0 c0 c1 c2)) (.int (0 : Int32))
set_option maxRecDepth 65536 in
set_option maxHeartbeats 40000000 in
theorem own_make (l : Launch) (Z : State) (a0 : Array Value) (hw : ∀ d ∈ tables_1, d.before a0 Z = true) (ws : List Jvm.Cond) (p0 : Int32) (c0 : Int32) (c1 : Int32) (c2 : Int32) (gC : Int32) (h0 : Heap) (n0 : Nat) (Z0 : n0 ≤ h0.size) (Old0 : Old Z n0 h0) (SCS : Sta Z Z.heap "java/lang/String" "COMPACT_STRINGS" "Z" (.int gC)) (P5 : ¬ gC = 0) (hch0 : (¬ c0 < 0 ∧ ¬ (255 : Int32) < c0) ∧ nar .char c0 = c0) (hch1 : (¬ c1 < 0 ∧ ¬ (255 : Int32) < c1) ∧ nar .char c1 = c1) (hch2 : (¬ c2 < 0 ∧ ¬ (255 : Int32) < c2) ∧ nar .char c2 = c2) :
    MetFree l (⟨"com/example/norn/norn/http/EntityTagMatchesStronglyPinLaw", "make", "(ICCC)Ljava/lang/String;"⟩ : MethodName) (head1 (Jvm.Cond.code (⟨"com/example/norn/norn/http/EntityTagMatchesStronglyPinLaw", "make", "(ICCC)Ljava/lang/String;"⟩ : MethodName) method_2_code 5 (some (.object "java/lang/String")) :: ws) ({ frames := 4, cells := 6, slots := 12, locals := 66 } : Room)) (fun as_ U => as_ = #[(.int p0), (.int c0), (.int c1), (.int c2)] ∧ Z.Warmed39 U.vm ∧ U.heap = h0 ∧ CHv Z own_EL U.vm h0) (fun _ _ _ _ _ => True) (fun _ U o U' => ∃ v L, o = .returned v ∧ Q_own_make Z p0 c0 c1 c2 gC h0 n0 v U'.heap L ∧ CHr Z own_EL U.vm U.heap U'.vm U'.heap ∧ ReturnedEndW U o U' L ({ frames := 4, cells := 6, slots := 12, locals := 66 } : Room).cells ({ frames := 4, cells := 6, slots := 12, locals := 66 } : Room).slots) := by
  refine MetFree.of_bodySF (plainFor_of_name own_pn1) hisR ?_
  intro p e s m args below meth c s₁ Bd hml0 hP hK
  obtain ⟨rfl, hZ, hh, hCH⟩ := hP
  have R0 := CHr.refl hCH
  have hEL : EW Z a0 own_EL := own_hEL hw
  have hx := Bd.exec
  have hby := Bd.bytes
  have hml : c.maxLocals = 5 := hml0
  have hown : s.vm.findClass "com/example/norn/norn/http/EntityTagMatchesStronglyPinLaw" = some m.cls := findClass_of_methodNamed Bd.named
  have hnm := (name_of_methodNamed Bd.named Bd.method).1
  have X0 : Stand p l e ({ frames := 4, cells := 6, slots := 12, locals := 66 } : Room) s m #[(.int p0), (.int c0), (.int c1), (.int c2)] below meth c s₁ [] 0 0 := Stand.of_body Bd
  have e0 : s₁.heap = h0 := by rw [← hh, Bd.state]; rfl
  have N0 := Fr.nil n0
  have K0 := Keep.refl h0 []
  have hS0 : s.Since s.vm s.heap.size := (State.WarmedH.refl s).since _
  have hk0 : s.heap.size ≤ h0.size := by rw [hh]; exact Nat.le_refl _
  show Go p e below (own_FH Z s below (Q_own_make Z p0 c0 c1 c2 gC h0 n0) ({ frames := 4, cells := 6, slots := 12, locals := 66 } : Room).cells ({ frames := 4, cells := 6, slots := 12, locals := 66 } : Room).slots) (s₁.setTop (entryFrame m #[(.int p0), (.int c0), (.int c1), (.int c2)] 5))
  rw [own_ef_own_make m p0 c0 c1 c2]
  refine Go.back (t' := (s₁.setTop (mkF m 1 #[.val (.int p0), .val (.int c0), .val (.int c1), .val (.int c2), .unset] [(.int p0)]))) (fun u k => XS.iloadN X0.here hx rfl (hb hby own_d1_0) rfl k) ?_
  by_cases hc1 : p0 = (0 : Int32)
  · skip
    refine Go.back (t' := (s₁.setTop (mkF m 4 #[.val (.int p0), .val (.int c0), .val (.int c1), .val (.int c2), .unset] []))) (fun u k => XS.ifNo X0.here hx rfl (hb hby own_d1_1) rfl (XT.i0_ne_f hc1) k) ?_
    obtain ⟨T2, h2, X2, e2, E2, A2, D2, -, st2⟩ := newO X0 hx hZ hown (hw _ (List.mem_of_getElem? (i := 4) rfl)) (hw _ (List.mem_of_getElem? (i := 5) rfl)) (hw _ (List.mem_of_getElem? (i := 6) rfl)) e0 (g := (mkF m 4 #[.val (.int p0), .val (.int c0), .val (.int c1), .val (.int c2), .unset] [])) rfl (hb hby own_d1_4) (by decide) (by decide)
    obtain ⟨b2, g2⟩ : ∃ z, z = h0.size := ⟨_, rfl⟩
    rw [← g2] at A2 D2 st2
    have gb2 : n0 ≤ b2 := Nat.le_trans Z0 (Nat.le_of_eq g2.symm)
    have sz2 : h0.size ≤ b2 := Nat.le_trans K0.1 (Nat.le_of_eq g2.symm)
    have Z2 : n0 ≤ h2.size := Nat.le_trans Z0 E2.1
    have K2 := K0.ext E2
    have O2 := Old0.ext E2
    have hk2 := Nat.le_trans hk0 E2.1
    have Sf2_b2 := Safe.ext E2 R0.1 (Safe.new (Nat.le_of_eq g2.symm))
    have R2 := R0.trans (CHr.ext E2 R0.1)
    refine Go.back (t' := (T2.setTop (mkF m 7 #[.val (.int p0), .val (.int c0), .val (.int c1), .val (.int c2), .unset] [(.ref b2)]))) st2 ?_
    refine Go.back (t' := (T2.setTop (mkF m 9 #[.val (.int p0), .val (.int c0), .val (.int c1), .val (.int c2), .unset] [(.int (0 : Int32)), (.ref b2), (.ref b2)]))) (fun u k => XS.dup X2.here hx rfl (hb hby own_d1_7) rfl rfl (XT.iconstV X2.here hx rfl (0 : Int32) (hb hby own_d1_8) (by decide) k)) ?_
    obtain ⟨T3, h3, k3, X3, e3, E3, A3, st3⟩ := newP X2 hx hZ (hw _ (List.mem_of_getElem? (i := 7) rfl)) e2 (g := (mkF m 9 #[.val (.int p0), .val (.int c0), .val (.int c1), .val (.int c2), .unset] [(.int (0 : Int32)), (.ref b2), (.ref b2)])) rfl (hb hby own_d1_9) rfl (by decide) (cap := 0) (by decide) (by decide) (by decide) (by decide)
    obtain ⟨b3, g3⟩ : ∃ z, z = h2.size := ⟨_, rfl⟩
    rw [← g3] at A3 st3
    have ne_b2_b3 : b2 ≠ b3 := Nat.ne_of_lt (Nat.lt_of_lt_of_le A2.lt (Nat.le_of_eq g3.symm))
    have gb3 : n0 ≤ b3 := Nat.le_trans Z2 (Nat.le_of_eq g3.symm)
    have sz3 : h0.size ≤ b3 := Nat.le_trans K2.1 (Nat.le_of_eq g3.symm)
    have Z3 : n0 ≤ h3.size := Nat.le_trans Z2 E3.1
    have K3 := K2.ext E3
    have O3 := O2.ext E3
    have hk3 := Nat.le_trans hk2 E3.1
    have Sf3_b2 := Safe.ext E3 R2.1 Sf2_b2
    have Sf3_b3 := Safe.ext E3 R2.1 (Safe.new (Nat.le_of_eq g3.symm))
    have R3 := R2.trans (CHr.ext E3 R2.1)
    have V3 : Arv Z h3 b3 k3 .char (0 : Int32) [] (.int (0 : Int32)) := (Arv.new A3 (by decide)).pad (pad_rep [] (.int (0 : Int32)) 0)
    refine Go.back (t' := (T3.setTop (mkF m 11 #[.val (.int p0), .val (.int c0), .val (.int c1), .val (.int c2), .unset] [(.ref b3), (.ref b2), (.ref b2)]))) st3 ?_
    have f4 := (A2.ext E3)
    have f5 := ((D2 (Or.inr (hw _ (List.mem_of_getElem? (i := 20) rfl))) (ty := (.array .byte)) (by decide)).ext E3)
    have f6 := ((D2 (Or.inr (hw _ (List.mem_of_getElem? (i := 21) rfl))) (ty := .byte) (by decide)).ext E3)
    obtain ⟨_, _, ⟨T7, L7, k7, n7⟩, -, X7, hT7, hg7, ⟨Lc7, hQ7, l7, y7, z7, hC7⟩, st7⟩ := X3.specialBackS hx (y := (⟨"java/lang/String", "<init>", "([C)V"⟩ : MethodName)) rfl hown (mvT hZ (hw _ (List.mem_of_getElem? (i := 8) rfl))) (mvT hZ (hw _ (List.mem_of_getElem? (i := 9) rfl))) (mvT hZ (hw _ (List.mem_of_getElem? (i := 10) rfl))) (by decide) (backOfSH (s := s) (vm0 := s.vm) (W := 1) (own_s1 l Z a0 hw [] b2 b3 k3 h3 n0 Z3 f4 f5 f6 gb2 V3) hZ (hw _ (List.mem_of_getElem? (i := 10) rfl)) (hw _ (List.mem_of_getElem? (i := 6) rfl)) (by decide) (by decide) hEL R3.1) (g := (mkF m 11 #[.val (.int p0), .val (.int c0), .val (.int c1), .val (.int c2), .unset] [(.ref b3), (.ref b2), (.ref b2)])) rfl (by rw [hml]; rfl) (Steps.refl _) (a := b2) (argsL := [(.ref b3)]) (rest := [(.ref b2)]) (lenOf own_pd1 rfl) rfl (by show 2 * 0 + _ ≤ _; exact Nat.le_of_eq rfl) (hb hby own_d1_11) (fun _ _ => ⟨rfl, e3, (by decide : 2 + 4 ≤ _), (by decide : 4 + 8 ≤ _)⟩)
    dsimp only [Pt.U, Pt.locs, Pt.cells, Pt.slots] at X7 l7 y7 z7 st7 hQ7 hT7 hg7 hC7
    subst l7 y7 z7
    obtain ⟨X7, hS7, hZ, hown⟩ := rebS (s := s) (vm0 := s.vm) hS0 (by rw [e3]; exact hk3) X7 hT7 hg7 hZ hown
    have Sf7_b2 := CHr.safe hC7 f4.lt Sf3_b2
    have Sf7_b3 := CHr.safe hC7 V3.lt Sf3_b3
    have R7 := R3.trans hC7
    obtain ⟨t7, kb7, rfl, N7, Kc7, P7_0, P7_1, P7_2, P7_3⟩ := hQ7
    have NA7 := Fr.app N0 N7
    have Z7 : n0 ≤ T7.heap.size := Nat.le_trans Z3 Kc7.1
    have K7 := K3.trans Kc7 (allS (Or.inr sz2) all0)
    have O7 := O3.keep Kc7 (allS gb2 all0)
    refine Go.back (t' := (T7.setTop (mkF m 14 #[.val (.int p0), .val (.int c0), .val (.int c1), .val (.int c2), .unset] [(.ref b2)]))) (fun u k => st7.trans k) ?_
    have ecs : own_cs p0 c0 c1 c2 = [] := by simp only [own_cs, if_pos hc1]
    have VV : Arv Z T7.heap t7 kb7 .byte (Int32.ofNat (own_cs p0 c0 c1 c2).length) (own_bs (own_cs p0 c0 c1 c2)) (.int (0 : Int32)) := by rw [ecs]; exact P7_3
    obtain ⟨fs, hr, hrun, hended, hFW⟩ := Jvm.Stand.leaveW (s := s) (vm₁ := T7.vm) X7 hS7 (Nat.le_refl _) (v := some (.ref b2)) (fun h => by rw [Bd.returns] at h; cases h)
    have RF := R7.trans (CHv.at (s := s) (vm0 := T7.vm) X7 hZ hEL R7.1)
    refine ⟨_, _, retOut X7 hx (t := (.object "java/lang/String")) (i := .areturn) Bd.returns rfl (Or.inr (Or.inr (Or.inr (Or.inr ⟨rfl, rfl, rfl⟩)))) (hb hby own_d1_14) hr, hrun, hended, _, _, rfl, ?_, ?_, hFW.1, hFW.2.1, hFW.2.2.1, hFW.2.2.2.mono (by decide) (by decide)⟩
    · skip
      show Q_own_make Z p0 c0 c1 c2 gC h0 n0 _ T7.heap _
      exact ⟨b2, t7, kb7, rfl, NA7, K7, gb2, sz2, P7_0, P7_1, P7_2, VV⟩
    · show CHr Z own_EL s.vm s.heap T7.vm T7.heap
      rw [hh]
      exact RF
  · skip
    refine Go.back (t' := (s₁.setTop (mkF m 17 #[.val (.int p0), .val (.int c0), .val (.int c1), .val (.int c2), .unset] [(.int (1 : Int32)), (.int p0)]))) (fun u k => XS.ifYes X0.here hx rfl (pc0 := 1) (pc' := 15) rfl (hb hby own_d1_1) rfl (XT.i0_ne_t hc1) (by decide) (by decide) (XS.iloadN X0.here hx rfl (hb hby own_d1_15) rfl (XT.iconstV X0.here hx rfl (1 : Int32) (hb hby own_d1_16) (by decide) k))) ?_
    by_cases hc8 : p0 = (1 : Int32)
    · skip
      refine Go.back (t' := (s₁.setTop (mkF m 21 #[.val (.int p0), .val (.int c0), .val (.int c1), .val (.int c2), .unset] [(.int (1 : Int32))]))) (fun u k => XS.icmpNo X0.here hx rfl (hb hby own_d1_17) rfl (XT.ii_ne_f hc8) (XT.iconstV X0.here hx rfl (1 : Int32) (hb hby own_d1_20) (by decide) k)) ?_
      obtain ⟨T9, h9, k9, X9, e9, E9, A9, st9⟩ := newP X0 hx hZ (hw _ (List.mem_of_getElem? (i := 7) rfl)) e0 (g := (mkF m 21 #[.val (.int p0), .val (.int c0), .val (.int c1), .val (.int c2), .unset] [(.int (1 : Int32))])) rfl (hb hby own_d1_21) rfl (by decide) (cap := 1) (by decide) (by decide) (by decide) (by decide)
      obtain ⟨b9, g9⟩ : ∃ z, z = h0.size := ⟨_, rfl⟩
      rw [← g9] at A9 st9
      have gb9 : n0 ≤ b9 := Nat.le_trans Z0 (Nat.le_of_eq g9.symm)
      have sz9 : h0.size ≤ b9 := Nat.le_trans K0.1 (Nat.le_of_eq g9.symm)
      have Z9 : n0 ≤ h9.size := Nat.le_trans Z0 E9.1
      have K9 := K0.ext E9
      have O9 := Old0.ext E9
      have hk9 := Nat.le_trans hk0 E9.1
      have Sf9_b9 := Safe.ext E9 R0.1 (Safe.new (Nat.le_of_eq g9.symm))
      have R9 := R0.trans (CHr.ext E9 R0.1)
      have V9 : Arv Z h9 b9 k9 .char (1 : Int32) [(.int (0 : Int32))] (.int (0 : Int32)) := (Arv.new A9 (by decide)).pad (pad_rep [] (.int (0 : Int32)) 1)
      refine Go.back (t' := (T9.setTop (mkF m 23 #[.val (.int p0), .val (.int c0), .val (.int c1), .val (.int c2), .unset] [(.ref b9)]))) st9 ?_
      refine Go.back (t' := (T9.setTop (mkF m 29 #[.val (.int p0), .val (.int c0), .val (.int c1), .val (.int c2), .val (.ref b9)] [(.int c0), (.int (0 : Int32)), (.ref b9)]))) (fun u k => XS.astore X9.here hx rfl (hb hby own_d1_23) rfl rfl (l' := #[.val (.int p0), .val (.int c0), .val (.int c1), .val (.int c2), .val (.ref b9)]) rfl (XS.aload X9.here hx rfl (hb hby own_d1_25) rfl rfl (XT.iconstV X9.here hx rfl (0 : Int32) (hb hby own_d1_27) (by decide) (XS.iloadN X9.here hx rfl (hb hby own_d1_28) rfl k)))) ?_
      obtain ⟨cl10, Ar10, aq10, aS10, aM10, aH10, aG10⟩ := id V9
      obtain ⟨T11, h11, X11, e11, W11, st11⟩ := stC X9 hx hZ e9 Ar10 (j := (0 : Int32)) (inb_of aS10 ⟨by decide, by decide⟩) (g := (mkF m 29 #[.val (.int p0), .val (.int c0), .val (.int c1), .val (.int c2), .val (.ref b9)] [(.int c0), (.int (0 : Int32)), (.ref b9)])) rfl rfl (hb hby own_d1_29)
      have Z11 : n0 ≤ h11.size := Nat.le_trans Z9 (Keep.of_wr W11).1
      have K11 := K9.wr W11 (Or.inr sz9)
      have N11 := Fr.snoc X11 N0 gb9
      have O11 := O9.wr W11 gb9
      have hk11 := Nat.le_trans hk9 (Keep.of_wr W11).1
      have Sf11_b9 := Safe.wr W11 Sf9_b9 R9.1 Sf9_b9
      have R11 := R9.trans (CHr.wr W11 Sf9_b9 R9.1)
      have V11 : Arv Z h11 b9 k9 .char (1 : Int32) [(.int (nar .char c0))] (.int (0 : Int32)) := Arv.set Ar10 aq10 aS10 aM10 aH10 aG10 (fits_nar_char _) W11 0 rfl (Nat.le_of_ble_eq_true rfl)
      rw [hch0.2] at V11
      refine Go.back (t' := (T11.setTop (mkF m 30 #[.val (.int p0), .val (.int c0), .val (.int c1), .val (.int c2), .val (.ref b9)] []))) st11 ?_
      obtain ⟨T12, h12, X12, e12, E12, A12, D12, -, st12⟩ := newO X11 hx hZ hown (hw _ (List.mem_of_getElem? (i := 4) rfl)) (hw _ (List.mem_of_getElem? (i := 5) rfl)) (hw _ (List.mem_of_getElem? (i := 6) rfl)) e11 (g := (mkF m 30 #[.val (.int p0), .val (.int c0), .val (.int c1), .val (.int c2), .val (.ref b9)] [])) rfl (hb hby own_d1_30) (by decide) (by decide)
      obtain ⟨b12, g12⟩ : ∃ z, z = h11.size := ⟨_, rfl⟩
      rw [← g12] at A12 D12 st12
      have ne_b9_b12 : b9 ≠ b12 := Nat.ne_of_lt (Nat.lt_of_lt_of_le V11.lt (Nat.le_of_eq g12.symm))
      have gb12 : n0 ≤ b12 := Nat.le_trans Z11 (Nat.le_of_eq g12.symm)
      have sz12 : h0.size ≤ b12 := Nat.le_trans K11.1 (Nat.le_of_eq g12.symm)
      have Z12 : n0 ≤ h12.size := Nat.le_trans Z11 E12.1
      have K12 := K11.ext E12
      have O12 := O11.ext E12
      have hk12 := Nat.le_trans hk11 E12.1
      have Sf12_b9 := Safe.ext E12 R11.1 Sf11_b9
      have Sf12_b12 := Safe.ext E12 R11.1 (Safe.new (Nat.le_of_eq g12.symm))
      have R12 := R11.trans (CHr.ext E12 R11.1)
      refine Go.back (t' := (T12.setTop (mkF m 33 #[.val (.int p0), .val (.int c0), .val (.int c1), .val (.int c2), .val (.ref b9)] [(.ref b12)]))) st12 ?_
      refine Go.back (t' := (T12.setTop (mkF m 36 #[.val (.int p0), .val (.int c0), .val (.int c1), .val (.int c2), .val (.ref b9)] [(.ref b9), (.ref b12), (.ref b12)]))) (fun u k => XS.dup X12.here hx rfl (hb hby own_d1_33) rfl rfl (XS.aload X12.here hx rfl (hb hby own_d1_34) rfl rfl k)) ?_
      have hp13 : ∀ c ∈ ([c0] : List Int32), ¬ c < 0 ∧ ¬ (255 : Int32) < c := by
        intro c hc
        simp only [List.mem_cons, List.not_mem_nil, or_false] at hc
        rcases hc with rfl
        · exact hch0.1
      have f14 := (V11.ext E12)
      have hws : ∀ d ∈ StrChars.Road.words, d.before a0 Z = true := fun d hd => hw d ((by decide +kernel : ∀ d ∈ StrChars.Road.words, d ∈ tables_1) d hd)
      obtain ⟨_, _, ⟨T13, L13, k13, n13⟩, -, X13, ⟨Lc13, hQ13, l13, y13, z13⟩, st13⟩ := X12.specialBack hx (y := (⟨"java/lang/String", "<init>", "([C)V"⟩ : MethodName)) rfl hown (mvT hZ (hw _ (List.mem_of_getElem? (i := 8) rfl))) (mvT hZ (hw _ (List.mem_of_getElem? (i := 9) rfl))) (mvT hZ (hw _ (List.mem_of_getElem? (i := 10) rfl))) (by decide) (StrChars.Road.backV (W := 1) hZ hws (kI := 4) (hw _ (List.mem_of_getElem? (i := 5) rfl)) (cs := ([c0] : List Int32)) (bs := (([c0] : List Int32)).map (fun c => c.toInt8.toInt32)) (n := 1) gb12 Z12 A12 (D12 (Or.inr (hw _ (List.mem_of_getElem? (i := 20) rfl))) (ty := (.array .byte)) (by decide)) (D12 (Or.inr (hw _ (List.mem_of_getElem? (i := 21) rfl))) (ty := .byte) (by decide)) f14 (SCS.ext O12.2) P5 rfl rfl (by decide) (by decide) hp13 rfl (by decide) (by decide)) (g := (mkF m 36 #[.val (.int p0), .val (.int c0), .val (.int c1), .val (.int c2), .val (.ref b9)] [(.ref b9), (.ref b12), (.ref b12)])) rfl (by rw [hml]; rfl) (Steps.refl _) (a := b12) (argsL := [(.ref b9)]) (rest := [(.ref b12)]) (lenOf own_pd1 rfl) rfl (by show 2 * 0 + _ ≤ _; exact Nat.le_of_eq rfl) (hb hby own_d1_36) (fun _ _ => ⟨rfl, e12, (by decide : 2 + 1 ≤ _), (by decide : 5 + 1 ≤ _)⟩)
      dsimp only [Pt.U, Pt.locs, Pt.cells, Pt.slots] at X13 l13 y13 z13 st13 hQ13
      subst l13 y13 z13
      obtain ⟨rfl, N13, Kc13, PE13, PC13, t13, kb13, gt13, szc_t13, net13, PV13, PA13⟩ := hQ13
      have NA13 := Fr.app N11 N13
      have Z13 : n0 ≤ T13.heap.size := Nat.le_trans Z12 Kc13.1
      have hk13 := Nat.le_trans hk12 Kc13.1
      have Sf13_b9 := Safe.keep Kc13 (sfS Sf12_b12 sf0) R12.1 Sf12_b9
      have Sf13_b12 := Safe.keep Kc13 (sfS Sf12_b12 sf0) R12.1 Sf12_b12
      have R13 := R12.trans (CHr.keep Kc13 (sfS Sf12_b12 sf0) R12.1)
      have K13 := K12.trans Kc13 (allS (Or.inr sz12) all0)
      have O13 := O12.keep Kc13 (allS gb12 all0)
      have sz_t13 : h0.size ≤ t13 := Nat.le_trans K12.1 szc_t13
      have ne_b9_t13 : b9 ≠ t13 := Nat.ne_of_lt (Nat.lt_of_lt_of_le f14.lt szc_t13)
      have ne_b12_t13 : b12 ≠ t13 := Nat.ne_of_lt (Nat.lt_of_lt_of_le A12.lt szc_t13)
      refine Go.back (t' := (T13.setTop (mkF m 39 #[.val (.int p0), .val (.int c0), .val (.int c1), .val (.int c2), .val (.ref b9)] [(.ref b12)]))) (fun u k => st13.trans k) ?_
      have ecs : own_cs p0 c0 c1 c2 = [c0] := by simp only [own_cs, if_neg hc1, if_pos hc8]
      have VV : Arv Z T13.heap t13 kb13 .byte (Int32.ofNat (own_cs p0 c0 c1 c2).length) (own_bs (own_cs p0 c0 c1 c2)) (.int (0 : Int32)) := by rw [ecs]; exact PA13
      obtain ⟨fs, hr, hrun, hended, hFW⟩ := Jvm.Stand.leaveW (s := s) (vm₁ := s.vm) X13 hS0 hk13 (v := some (.ref b12)) (fun h => by rw [Bd.returns] at h; cases h)
      have RF := R13.trans (CHv.at (s := s) (vm0 := s.vm) X13 hZ hEL R13.1)
      refine ⟨_, _, retOut X13 hx (t := (.object "java/lang/String")) (i := .areturn) Bd.returns rfl (Or.inr (Or.inr (Or.inr (Or.inr ⟨rfl, rfl, rfl⟩)))) (hb hby own_d1_39) hr, hrun, hended, _, _, rfl, ?_, ?_, hFW.1, hFW.2.1, hFW.2.2.1, hFW.2.2.2.mono (by decide) (by decide)⟩
      · skip
        show Q_own_make Z p0 c0 c1 c2 gC h0 n0 _ T13.heap _
        exact ⟨b12, t13, kb13, rfl, NA13, K13, gb12, sz12, PE13, PV13, PC13, VV⟩
      · show CHr Z own_EL s.vm s.heap T13.vm T13.heap
        rw [hh]
        exact RF
    · skip
      refine Go.back (t' := (s₁.setTop (mkF m 42 #[.val (.int p0), .val (.int c0), .val (.int c1), .val (.int c2), .unset] [(.int (2 : Int32)), (.int p0)]))) (fun u k => XS.icmpYes X0.here hx rfl (pc0 := 17) (pc' := 40) rfl (hb hby own_d1_17) rfl (XT.ii_ne_t hc8) (by decide) (by decide) (XS.iloadN X0.here hx rfl (hb hby own_d1_40) rfl (XT.iconstV X0.here hx rfl (2 : Int32) (hb hby own_d1_41) (by decide) k))) ?_
      by_cases hc15 : p0 = (2 : Int32)
      · skip
        refine Go.back (t' := (s₁.setTop (mkF m 46 #[.val (.int p0), .val (.int c0), .val (.int c1), .val (.int c2), .unset] [(.int (2 : Int32))]))) (fun u k => XS.icmpNo X0.here hx rfl (hb hby own_d1_42) rfl (XT.ii_ne_f hc15) (XT.iconstV X0.here hx rfl (2 : Int32) (hb hby own_d1_45) (by decide) k)) ?_
        obtain ⟨T16, h16, k16, X16, e16, E16, A16, st16⟩ := newP X0 hx hZ (hw _ (List.mem_of_getElem? (i := 7) rfl)) e0 (g := (mkF m 46 #[.val (.int p0), .val (.int c0), .val (.int c1), .val (.int c2), .unset] [(.int (2 : Int32))])) rfl (hb hby own_d1_46) rfl (by decide) (cap := 2) (by decide) (by decide) (by decide) (by decide)
        obtain ⟨b16, g16⟩ : ∃ z, z = h0.size := ⟨_, rfl⟩
        rw [← g16] at A16 st16
        have gb16 : n0 ≤ b16 := Nat.le_trans Z0 (Nat.le_of_eq g16.symm)
        have sz16 : h0.size ≤ b16 := Nat.le_trans K0.1 (Nat.le_of_eq g16.symm)
        have Z16 : n0 ≤ h16.size := Nat.le_trans Z0 E16.1
        have K16 := K0.ext E16
        have O16 := Old0.ext E16
        have hk16 := Nat.le_trans hk0 E16.1
        have Sf16_b16 := Safe.ext E16 R0.1 (Safe.new (Nat.le_of_eq g16.symm))
        have R16 := R0.trans (CHr.ext E16 R0.1)
        have V16 : Arv Z h16 b16 k16 .char (2 : Int32) [(.int (0 : Int32)), (.int (0 : Int32))] (.int (0 : Int32)) := (Arv.new A16 (by decide)).pad (pad_rep [] (.int (0 : Int32)) 2)
        refine Go.back (t' := (T16.setTop (mkF m 48 #[.val (.int p0), .val (.int c0), .val (.int c1), .val (.int c2), .unset] [(.ref b16)]))) st16 ?_
        refine Go.back (t' := (T16.setTop (mkF m 54 #[.val (.int p0), .val (.int c0), .val (.int c1), .val (.int c2), .val (.ref b16)] [(.int c0), (.int (0 : Int32)), (.ref b16)]))) (fun u k => XS.astore X16.here hx rfl (hb hby own_d1_48) rfl rfl (l' := #[.val (.int p0), .val (.int c0), .val (.int c1), .val (.int c2), .val (.ref b16)]) rfl (XS.aload X16.here hx rfl (hb hby own_d1_50) rfl rfl (XT.iconstV X16.here hx rfl (0 : Int32) (hb hby own_d1_52) (by decide) (XS.iloadN X16.here hx rfl (hb hby own_d1_53) rfl k)))) ?_
        obtain ⟨cl17, Ar17, aq17, aS17, aM17, aH17, aG17⟩ := id V16
        obtain ⟨T18, h18, X18, e18, W18, st18⟩ := stC X16 hx hZ e16 Ar17 (j := (0 : Int32)) (inb_of aS17 ⟨by decide, by decide⟩) (g := (mkF m 54 #[.val (.int p0), .val (.int c0), .val (.int c1), .val (.int c2), .val (.ref b16)] [(.int c0), (.int (0 : Int32)), (.ref b16)])) rfl rfl (hb hby own_d1_54)
        have Z18 : n0 ≤ h18.size := Nat.le_trans Z16 (Keep.of_wr W18).1
        have K18 := K16.wr W18 (Or.inr sz16)
        have N18 := Fr.snoc X18 N0 gb16
        have O18 := O16.wr W18 gb16
        have hk18 := Nat.le_trans hk16 (Keep.of_wr W18).1
        have Sf18_b16 := Safe.wr W18 Sf16_b16 R16.1 Sf16_b16
        have R18 := R16.trans (CHr.wr W18 Sf16_b16 R16.1)
        have V18 : Arv Z h18 b16 k16 .char (2 : Int32) [(.int (nar .char c0)), (.int (0 : Int32))] (.int (0 : Int32)) := Arv.set Ar17 aq17 aS17 aM17 aH17 aG17 (fits_nar_char _) W18 0 rfl (Nat.le_of_ble_eq_true rfl)
        rw [hch0.2] at V18
        refine Go.back (t' := (T18.setTop (mkF m 55 #[.val (.int p0), .val (.int c0), .val (.int c1), .val (.int c2), .val (.ref b16)] []))) st18 ?_
        refine Go.back (t' := (T18.setTop (mkF m 59 #[.val (.int p0), .val (.int c0), .val (.int c1), .val (.int c2), .val (.ref b16)] [(.int c1), (.int (1 : Int32)), (.ref b16)]))) (fun u k => XS.aload X18.here hx rfl (hb hby own_d1_55) rfl rfl (XT.iconstV X18.here hx rfl (1 : Int32) (hb hby own_d1_57) (by decide) (XS.iloadN X18.here hx rfl (hb hby own_d1_58) rfl k))) ?_
        obtain ⟨cl19, Ar19, aq19, aS19, aM19, aH19, aG19⟩ := id V18
        obtain ⟨T20, h20, X20, e20, W20, st20⟩ := stC X18 hx hZ e18 Ar19 (j := (1 : Int32)) (inb_of aS19 ⟨by decide, by decide⟩) (g := (mkF m 59 #[.val (.int p0), .val (.int c0), .val (.int c1), .val (.int c2), .val (.ref b16)] [(.int c1), (.int (1 : Int32)), (.ref b16)])) rfl rfl (hb hby own_d1_59)
        have Z20 : n0 ≤ h20.size := Nat.le_trans Z18 (Keep.of_wr W20).1
        have K20 := K18.wr W20 (Or.inr sz16)
        have N20 := Fr.snoc X20 N18 gb16
        have O20 := O18.wr W20 gb16
        have hk20 := Nat.le_trans hk18 (Keep.of_wr W20).1
        have Sf20_b16 := Safe.wr W20 Sf18_b16 R18.1 Sf18_b16
        have R20 := R18.trans (CHr.wr W20 Sf18_b16 R18.1)
        have V20 : Arv Z h20 b16 k16 .char (2 : Int32) [(.int c0), (.int (nar .char c1))] (.int (0 : Int32)) := Arv.set Ar19 aq19 aS19 aM19 aH19 aG19 (fits_nar_char _) W20 1 rfl (Nat.le_of_ble_eq_true rfl)
        rw [hch1.2] at V20
        refine Go.back (t' := (T20.setTop (mkF m 60 #[.val (.int p0), .val (.int c0), .val (.int c1), .val (.int c2), .val (.ref b16)] []))) st20 ?_
        obtain ⟨T21, h21, X21, e21, E21, A21, D21, -, st21⟩ := newO X20 hx hZ hown (hw _ (List.mem_of_getElem? (i := 4) rfl)) (hw _ (List.mem_of_getElem? (i := 5) rfl)) (hw _ (List.mem_of_getElem? (i := 6) rfl)) e20 (g := (mkF m 60 #[.val (.int p0), .val (.int c0), .val (.int c1), .val (.int c2), .val (.ref b16)] [])) rfl (hb hby own_d1_60) (by decide) (by decide)
        obtain ⟨b21, g21⟩ : ∃ z, z = h20.size := ⟨_, rfl⟩
        rw [← g21] at A21 D21 st21
        have ne_b16_b21 : b16 ≠ b21 := Nat.ne_of_lt (Nat.lt_of_lt_of_le V20.lt (Nat.le_of_eq g21.symm))
        have gb21 : n0 ≤ b21 := Nat.le_trans Z20 (Nat.le_of_eq g21.symm)
        have sz21 : h0.size ≤ b21 := Nat.le_trans K20.1 (Nat.le_of_eq g21.symm)
        have Z21 : n0 ≤ h21.size := Nat.le_trans Z20 E21.1
        have K21 := K20.ext E21
        have O21 := O20.ext E21
        have hk21 := Nat.le_trans hk20 E21.1
        have Sf21_b16 := Safe.ext E21 R20.1 Sf20_b16
        have Sf21_b21 := Safe.ext E21 R20.1 (Safe.new (Nat.le_of_eq g21.symm))
        have R21 := R20.trans (CHr.ext E21 R20.1)
        refine Go.back (t' := (T21.setTop (mkF m 63 #[.val (.int p0), .val (.int c0), .val (.int c1), .val (.int c2), .val (.ref b16)] [(.ref b21)]))) st21 ?_
        refine Go.back (t' := (T21.setTop (mkF m 66 #[.val (.int p0), .val (.int c0), .val (.int c1), .val (.int c2), .val (.ref b16)] [(.ref b16), (.ref b21), (.ref b21)]))) (fun u k => XS.dup X21.here hx rfl (hb hby own_d1_63) rfl rfl (XS.aload X21.here hx rfl (hb hby own_d1_64) rfl rfl k)) ?_
        have hp22 : ∀ c ∈ ([c0, c1] : List Int32), ¬ c < 0 ∧ ¬ (255 : Int32) < c := by
          intro c hc
          simp only [List.mem_cons, List.not_mem_nil, or_false] at hc
          rcases hc with rfl | rfl
          · exact hch0.1
          · exact hch1.1
        have f23 := (V20.ext E21)
        have hws : ∀ d ∈ StrChars.Road.words, d.before a0 Z = true := fun d hd => hw d ((by decide +kernel : ∀ d ∈ StrChars.Road.words, d ∈ tables_1) d hd)
        obtain ⟨_, _, ⟨T22, L22, k22, n22⟩, -, X22, ⟨Lc22, hQ22, l22, y22, z22⟩, st22⟩ := X21.specialBack hx (y := (⟨"java/lang/String", "<init>", "([C)V"⟩ : MethodName)) rfl hown (mvT hZ (hw _ (List.mem_of_getElem? (i := 8) rfl))) (mvT hZ (hw _ (List.mem_of_getElem? (i := 9) rfl))) (mvT hZ (hw _ (List.mem_of_getElem? (i := 10) rfl))) (by decide) (StrChars.Road.backV (W := 1) hZ hws (kI := 4) (hw _ (List.mem_of_getElem? (i := 5) rfl)) (cs := ([c0, c1] : List Int32)) (bs := (([c0, c1] : List Int32)).map (fun c => c.toInt8.toInt32)) (n := 2) gb21 Z21 A21 (D21 (Or.inr (hw _ (List.mem_of_getElem? (i := 20) rfl))) (ty := (.array .byte)) (by decide)) (D21 (Or.inr (hw _ (List.mem_of_getElem? (i := 21) rfl))) (ty := .byte) (by decide)) f23 (SCS.ext O21.2) P5 rfl rfl (by decide) (by decide) hp22 rfl (by decide) (by decide)) (g := (mkF m 66 #[.val (.int p0), .val (.int c0), .val (.int c1), .val (.int c2), .val (.ref b16)] [(.ref b16), (.ref b21), (.ref b21)])) rfl (by rw [hml]; rfl) (Steps.refl _) (a := b21) (argsL := [(.ref b16)]) (rest := [(.ref b21)]) (lenOf own_pd1 rfl) rfl (by show 2 * 0 + _ ≤ _; exact Nat.le_of_eq rfl) (hb hby own_d1_66) (fun _ _ => ⟨rfl, e21, (by decide : 2 + 1 ≤ _), (by decide : 6 + 2 ≤ _)⟩)
        dsimp only [Pt.U, Pt.locs, Pt.cells, Pt.slots] at X22 l22 y22 z22 st22 hQ22
        subst l22 y22 z22
        obtain ⟨rfl, N22, Kc22, PE22, PC22, t22, kb22, gt22, szc_t22, net22, PV22, PA22⟩ := hQ22
        have NA22 := Fr.app N20 N22
        have Z22 : n0 ≤ T22.heap.size := Nat.le_trans Z21 Kc22.1
        have hk22 := Nat.le_trans hk21 Kc22.1
        have Sf22_b16 := Safe.keep Kc22 (sfS Sf21_b21 sf0) R21.1 Sf21_b16
        have Sf22_b21 := Safe.keep Kc22 (sfS Sf21_b21 sf0) R21.1 Sf21_b21
        have R22 := R21.trans (CHr.keep Kc22 (sfS Sf21_b21 sf0) R21.1)
        have K22 := K21.trans Kc22 (allS (Or.inr sz21) all0)
        have O22 := O21.keep Kc22 (allS gb21 all0)
        have sz_t22 : h0.size ≤ t22 := Nat.le_trans K21.1 szc_t22
        have ne_b16_t22 : b16 ≠ t22 := Nat.ne_of_lt (Nat.lt_of_lt_of_le f23.lt szc_t22)
        have ne_b21_t22 : b21 ≠ t22 := Nat.ne_of_lt (Nat.lt_of_lt_of_le A21.lt szc_t22)
        refine Go.back (t' := (T22.setTop (mkF m 69 #[.val (.int p0), .val (.int c0), .val (.int c1), .val (.int c2), .val (.ref b16)] [(.ref b21)]))) (fun u k => st22.trans k) ?_
        have ecs : own_cs p0 c0 c1 c2 = [c0, c1] := by simp only [own_cs, if_neg hc1, if_neg hc8, if_pos hc15]
        have VV : Arv Z T22.heap t22 kb22 .byte (Int32.ofNat (own_cs p0 c0 c1 c2).length) (own_bs (own_cs p0 c0 c1 c2)) (.int (0 : Int32)) := by rw [ecs]; exact PA22
        obtain ⟨fs, hr, hrun, hended, hFW⟩ := Jvm.Stand.leaveW (s := s) (vm₁ := s.vm) X22 hS0 hk22 (v := some (.ref b21)) (fun h => by rw [Bd.returns] at h; cases h)
        have RF := R22.trans (CHv.at (s := s) (vm0 := s.vm) X22 hZ hEL R22.1)
        refine ⟨_, _, retOut X22 hx (t := (.object "java/lang/String")) (i := .areturn) Bd.returns rfl (Or.inr (Or.inr (Or.inr (Or.inr ⟨rfl, rfl, rfl⟩)))) (hb hby own_d1_69) hr, hrun, hended, _, _, rfl, ?_, ?_, hFW.1, hFW.2.1, hFW.2.2.1, hFW.2.2.2.mono (by decide) (by decide)⟩
        · skip
          show Q_own_make Z p0 c0 c1 c2 gC h0 n0 _ T22.heap _
          exact ⟨b21, t22, kb22, rfl, NA22, K22, gb21, sz21, PE22, PV22, PC22, VV⟩
        · show CHr Z own_EL s.vm s.heap T22.vm T22.heap
          rw [hh]
          exact RF
      · skip
        refine Go.back (t' := (s₁.setTop (mkF m 71 #[.val (.int p0), .val (.int c0), .val (.int c1), .val (.int c2), .unset] [(.int (3 : Int32))]))) (fun u k => XS.icmpYes X0.here hx rfl (pc0 := 42) (pc' := 70) rfl (hb hby own_d1_42) rfl (XT.ii_ne_t hc15) (by decide) (by decide) (XT.iconstV X0.here hx rfl (3 : Int32) (hb hby own_d1_70) (by decide) k)) ?_
        obtain ⟨T24, h24, k24, X24, e24, E24, A24, st24⟩ := newP X0 hx hZ (hw _ (List.mem_of_getElem? (i := 7) rfl)) e0 (g := (mkF m 71 #[.val (.int p0), .val (.int c0), .val (.int c1), .val (.int c2), .unset] [(.int (3 : Int32))])) rfl (hb hby own_d1_71) rfl (by decide) (cap := 3) (by decide) (by decide) (by decide) (by decide)
        obtain ⟨b24, g24⟩ : ∃ z, z = h0.size := ⟨_, rfl⟩
        rw [← g24] at A24 st24
        have gb24 : n0 ≤ b24 := Nat.le_trans Z0 (Nat.le_of_eq g24.symm)
        have sz24 : h0.size ≤ b24 := Nat.le_trans K0.1 (Nat.le_of_eq g24.symm)
        have Z24 : n0 ≤ h24.size := Nat.le_trans Z0 E24.1
        have K24 := K0.ext E24
        have O24 := Old0.ext E24
        have hk24 := Nat.le_trans hk0 E24.1
        have Sf24_b24 := Safe.ext E24 R0.1 (Safe.new (Nat.le_of_eq g24.symm))
        have R24 := R0.trans (CHr.ext E24 R0.1)
        have V24 : Arv Z h24 b24 k24 .char (3 : Int32) [(.int (0 : Int32)), (.int (0 : Int32)), (.int (0 : Int32))] (.int (0 : Int32)) := (Arv.new A24 (by decide)).pad (pad_rep [] (.int (0 : Int32)) 3)
        refine Go.back (t' := (T24.setTop (mkF m 73 #[.val (.int p0), .val (.int c0), .val (.int c1), .val (.int c2), .unset] [(.ref b24)]))) st24 ?_
        refine Go.back (t' := (T24.setTop (mkF m 79 #[.val (.int p0), .val (.int c0), .val (.int c1), .val (.int c2), .val (.ref b24)] [(.int c0), (.int (0 : Int32)), (.ref b24)]))) (fun u k => XS.astore X24.here hx rfl (hb hby own_d1_73) rfl rfl (l' := #[.val (.int p0), .val (.int c0), .val (.int c1), .val (.int c2), .val (.ref b24)]) rfl (XS.aload X24.here hx rfl (hb hby own_d1_75) rfl rfl (XT.iconstV X24.here hx rfl (0 : Int32) (hb hby own_d1_77) (by decide) (XS.iloadN X24.here hx rfl (hb hby own_d1_78) rfl k)))) ?_
        obtain ⟨cl25, Ar25, aq25, aS25, aM25, aH25, aG25⟩ := id V24
        obtain ⟨T26, h26, X26, e26, W26, st26⟩ := stC X24 hx hZ e24 Ar25 (j := (0 : Int32)) (inb_of aS25 ⟨by decide, by decide⟩) (g := (mkF m 79 #[.val (.int p0), .val (.int c0), .val (.int c1), .val (.int c2), .val (.ref b24)] [(.int c0), (.int (0 : Int32)), (.ref b24)])) rfl rfl (hb hby own_d1_79)
        have Z26 : n0 ≤ h26.size := Nat.le_trans Z24 (Keep.of_wr W26).1
        have K26 := K24.wr W26 (Or.inr sz24)
        have N26 := Fr.snoc X26 N0 gb24
        have O26 := O24.wr W26 gb24
        have hk26 := Nat.le_trans hk24 (Keep.of_wr W26).1
        have Sf26_b24 := Safe.wr W26 Sf24_b24 R24.1 Sf24_b24
        have R26 := R24.trans (CHr.wr W26 Sf24_b24 R24.1)
        have V26 : Arv Z h26 b24 k24 .char (3 : Int32) [(.int (nar .char c0)), (.int (0 : Int32)), (.int (0 : Int32))] (.int (0 : Int32)) := Arv.set Ar25 aq25 aS25 aM25 aH25 aG25 (fits_nar_char _) W26 0 rfl (Nat.le_of_ble_eq_true rfl)
        rw [hch0.2] at V26
        refine Go.back (t' := (T26.setTop (mkF m 80 #[.val (.int p0), .val (.int c0), .val (.int c1), .val (.int c2), .val (.ref b24)] []))) st26 ?_
        refine Go.back (t' := (T26.setTop (mkF m 84 #[.val (.int p0), .val (.int c0), .val (.int c1), .val (.int c2), .val (.ref b24)] [(.int c1), (.int (1 : Int32)), (.ref b24)]))) (fun u k => XS.aload X26.here hx rfl (hb hby own_d1_80) rfl rfl (XT.iconstV X26.here hx rfl (1 : Int32) (hb hby own_d1_82) (by decide) (XS.iloadN X26.here hx rfl (hb hby own_d1_83) rfl k))) ?_
        obtain ⟨cl27, Ar27, aq27, aS27, aM27, aH27, aG27⟩ := id V26
        obtain ⟨T28, h28, X28, e28, W28, st28⟩ := stC X26 hx hZ e26 Ar27 (j := (1 : Int32)) (inb_of aS27 ⟨by decide, by decide⟩) (g := (mkF m 84 #[.val (.int p0), .val (.int c0), .val (.int c1), .val (.int c2), .val (.ref b24)] [(.int c1), (.int (1 : Int32)), (.ref b24)])) rfl rfl (hb hby own_d1_84)
        have Z28 : n0 ≤ h28.size := Nat.le_trans Z26 (Keep.of_wr W28).1
        have K28 := K26.wr W28 (Or.inr sz24)
        have N28 := Fr.snoc X28 N26 gb24
        have O28 := O26.wr W28 gb24
        have hk28 := Nat.le_trans hk26 (Keep.of_wr W28).1
        have Sf28_b24 := Safe.wr W28 Sf26_b24 R26.1 Sf26_b24
        have R28 := R26.trans (CHr.wr W28 Sf26_b24 R26.1)
        have V28 : Arv Z h28 b24 k24 .char (3 : Int32) [(.int c0), (.int (nar .char c1)), (.int (0 : Int32))] (.int (0 : Int32)) := Arv.set Ar27 aq27 aS27 aM27 aH27 aG27 (fits_nar_char _) W28 1 rfl (Nat.le_of_ble_eq_true rfl)
        rw [hch1.2] at V28
        refine Go.back (t' := (T28.setTop (mkF m 85 #[.val (.int p0), .val (.int c0), .val (.int c1), .val (.int c2), .val (.ref b24)] []))) st28 ?_
        refine Go.back (t' := (T28.setTop (mkF m 89 #[.val (.int p0), .val (.int c0), .val (.int c1), .val (.int c2), .val (.ref b24)] [(.int c2), (.int (2 : Int32)), (.ref b24)]))) (fun u k => XS.aload X28.here hx rfl (hb hby own_d1_85) rfl rfl (XT.iconstV X28.here hx rfl (2 : Int32) (hb hby own_d1_87) (by decide) (XS.iloadN X28.here hx rfl (hb hby own_d1_88) rfl k))) ?_
        obtain ⟨cl29, Ar29, aq29, aS29, aM29, aH29, aG29⟩ := id V28
        obtain ⟨T30, h30, X30, e30, W30, st30⟩ := stC X28 hx hZ e28 Ar29 (j := (2 : Int32)) (inb_of aS29 ⟨by decide, by decide⟩) (g := (mkF m 89 #[.val (.int p0), .val (.int c0), .val (.int c1), .val (.int c2), .val (.ref b24)] [(.int c2), (.int (2 : Int32)), (.ref b24)])) rfl rfl (hb hby own_d1_89)
        have Z30 : n0 ≤ h30.size := Nat.le_trans Z28 (Keep.of_wr W30).1
        have K30 := K28.wr W30 (Or.inr sz24)
        have N30 := Fr.snoc X30 N28 gb24
        have O30 := O28.wr W30 gb24
        have hk30 := Nat.le_trans hk28 (Keep.of_wr W30).1
        have Sf30_b24 := Safe.wr W30 Sf28_b24 R28.1 Sf28_b24
        have R30 := R28.trans (CHr.wr W30 Sf28_b24 R28.1)
        have V30 : Arv Z h30 b24 k24 .char (3 : Int32) [(.int c0), (.int c1), (.int (nar .char c2))] (.int (0 : Int32)) := Arv.set Ar29 aq29 aS29 aM29 aH29 aG29 (fits_nar_char _) W30 2 rfl (Nat.le_of_ble_eq_true rfl)
        rw [hch2.2] at V30
        refine Go.back (t' := (T30.setTop (mkF m 90 #[.val (.int p0), .val (.int c0), .val (.int c1), .val (.int c2), .val (.ref b24)] []))) st30 ?_
        obtain ⟨T31, h31, X31, e31, E31, A31, D31, -, st31⟩ := newO X30 hx hZ hown (hw _ (List.mem_of_getElem? (i := 4) rfl)) (hw _ (List.mem_of_getElem? (i := 5) rfl)) (hw _ (List.mem_of_getElem? (i := 6) rfl)) e30 (g := (mkF m 90 #[.val (.int p0), .val (.int c0), .val (.int c1), .val (.int c2), .val (.ref b24)] [])) rfl (hb hby own_d1_90) (by decide) (by decide)
        obtain ⟨b31, g31⟩ : ∃ z, z = h30.size := ⟨_, rfl⟩
        rw [← g31] at A31 D31 st31
        have ne_b24_b31 : b24 ≠ b31 := Nat.ne_of_lt (Nat.lt_of_lt_of_le V30.lt (Nat.le_of_eq g31.symm))
        have gb31 : n0 ≤ b31 := Nat.le_trans Z30 (Nat.le_of_eq g31.symm)
        have sz31 : h0.size ≤ b31 := Nat.le_trans K30.1 (Nat.le_of_eq g31.symm)
        have Z31 : n0 ≤ h31.size := Nat.le_trans Z30 E31.1
        have K31 := K30.ext E31
        have O31 := O30.ext E31
        have hk31 := Nat.le_trans hk30 E31.1
        have Sf31_b24 := Safe.ext E31 R30.1 Sf30_b24
        have Sf31_b31 := Safe.ext E31 R30.1 (Safe.new (Nat.le_of_eq g31.symm))
        have R31 := R30.trans (CHr.ext E31 R30.1)
        refine Go.back (t' := (T31.setTop (mkF m 93 #[.val (.int p0), .val (.int c0), .val (.int c1), .val (.int c2), .val (.ref b24)] [(.ref b31)]))) st31 ?_
        refine Go.back (t' := (T31.setTop (mkF m 96 #[.val (.int p0), .val (.int c0), .val (.int c1), .val (.int c2), .val (.ref b24)] [(.ref b24), (.ref b31), (.ref b31)]))) (fun u k => XS.dup X31.here hx rfl (hb hby own_d1_93) rfl rfl (XS.aload X31.here hx rfl (hb hby own_d1_94) rfl rfl k)) ?_
        have hp32 : ∀ c ∈ ([c0, c1, c2] : List Int32), ¬ c < 0 ∧ ¬ (255 : Int32) < c := by
          intro c hc
          simp only [List.mem_cons, List.not_mem_nil, or_false] at hc
          rcases hc with rfl | rfl | rfl
          · exact hch0.1
          · exact hch1.1
          · exact hch2.1
        have f33 := (V30.ext E31)
        have hws : ∀ d ∈ StrChars.Road.words, d.before a0 Z = true := fun d hd => hw d ((by decide +kernel : ∀ d ∈ StrChars.Road.words, d ∈ tables_1) d hd)
        obtain ⟨_, _, ⟨T32, L32, k32, n32⟩, -, X32, ⟨Lc32, hQ32, l32, y32, z32⟩, st32⟩ := X31.specialBack hx (y := (⟨"java/lang/String", "<init>", "([C)V"⟩ : MethodName)) rfl hown (mvT hZ (hw _ (List.mem_of_getElem? (i := 8) rfl))) (mvT hZ (hw _ (List.mem_of_getElem? (i := 9) rfl))) (mvT hZ (hw _ (List.mem_of_getElem? (i := 10) rfl))) (by decide) (StrChars.Road.backV (W := 1) hZ hws (kI := 4) (hw _ (List.mem_of_getElem? (i := 5) rfl)) (cs := ([c0, c1, c2] : List Int32)) (bs := (([c0, c1, c2] : List Int32)).map (fun c => c.toInt8.toInt32)) (n := 3) gb31 Z31 A31 (D31 (Or.inr (hw _ (List.mem_of_getElem? (i := 20) rfl))) (ty := (.array .byte)) (by decide)) (D31 (Or.inr (hw _ (List.mem_of_getElem? (i := 21) rfl))) (ty := .byte) (by decide)) f33 (SCS.ext O31.2) P5 rfl rfl (by decide) (by decide) hp32 rfl (by decide) (by decide)) (g := (mkF m 96 #[.val (.int p0), .val (.int c0), .val (.int c1), .val (.int c2), .val (.ref b24)] [(.ref b24), (.ref b31), (.ref b31)])) rfl (by rw [hml]; rfl) (Steps.refl _) (a := b31) (argsL := [(.ref b24)]) (rest := [(.ref b31)]) (lenOf own_pd1 rfl) rfl (by show 2 * 0 + _ ≤ _; exact Nat.le_of_eq rfl) (hb hby own_d1_96) (fun _ _ => ⟨rfl, e31, (by decide : 2 + 1 ≤ _), (by decide : 7 + 3 ≤ _)⟩)
        dsimp only [Pt.U, Pt.locs, Pt.cells, Pt.slots] at X32 l32 y32 z32 st32 hQ32
        subst l32 y32 z32
        obtain ⟨rfl, N32, Kc32, PE32, PC32, t32, kb32, gt32, szc_t32, net32, PV32, PA32⟩ := hQ32
        have NA32 := Fr.app N30 N32
        have Z32 : n0 ≤ T32.heap.size := Nat.le_trans Z31 Kc32.1
        have hk32 := Nat.le_trans hk31 Kc32.1
        have Sf32_b24 := Safe.keep Kc32 (sfS Sf31_b31 sf0) R31.1 Sf31_b24
        have Sf32_b31 := Safe.keep Kc32 (sfS Sf31_b31 sf0) R31.1 Sf31_b31
        have R32 := R31.trans (CHr.keep Kc32 (sfS Sf31_b31 sf0) R31.1)
        have K32 := K31.trans Kc32 (allS (Or.inr sz31) all0)
        have O32 := O31.keep Kc32 (allS gb31 all0)
        have sz_t32 : h0.size ≤ t32 := Nat.le_trans K31.1 szc_t32
        have ne_b24_t32 : b24 ≠ t32 := Nat.ne_of_lt (Nat.lt_of_lt_of_le f33.lt szc_t32)
        have ne_b31_t32 : b31 ≠ t32 := Nat.ne_of_lt (Nat.lt_of_lt_of_le A31.lt szc_t32)
        refine Go.back (t' := (T32.setTop (mkF m 99 #[.val (.int p0), .val (.int c0), .val (.int c1), .val (.int c2), .val (.ref b24)] [(.ref b31)]))) (fun u k => st32.trans k) ?_
        have ecs : own_cs p0 c0 c1 c2 = [c0, c1, c2] := by simp only [own_cs, if_neg hc1, if_neg hc8, if_neg hc15]
        have VV : Arv Z T32.heap t32 kb32 .byte (Int32.ofNat (own_cs p0 c0 c1 c2).length) (own_bs (own_cs p0 c0 c1 c2)) (.int (0 : Int32)) := by rw [ecs]; exact PA32
        obtain ⟨fs, hr, hrun, hended, hFW⟩ := Jvm.Stand.leaveW (s := s) (vm₁ := s.vm) X32 hS0 hk32 (v := some (.ref b31)) (fun h => by rw [Bd.returns] at h; cases h)
        have RF := R32.trans (CHv.at (s := s) (vm0 := s.vm) X32 hZ hEL R32.1)
        refine ⟨_, _, retOut X32 hx (t := (.object "java/lang/String")) (i := .areturn) Bd.returns rfl (Or.inr (Or.inr (Or.inr (Or.inr ⟨rfl, rfl, rfl⟩)))) (hb hby own_d1_99) hr, hrun, hended, _, _, rfl, ?_, ?_, hFW.1, hFW.2.1, hFW.2.2.1, hFW.2.2.2.mono (by decide) (by decide)⟩
        · skip
          show Q_own_make Z p0 c0 c1 c2 gC h0 n0 _ T32.heap _
          exact ⟨b31, t32, kb32, rfl, NA32, K32, gb31, sz31, PE32, PV32, PC32, VV⟩
        · show CHr Z own_EL s.vm s.heap T32.vm T32.heap
          rw [hh]
          exact RF
theorem own_pn2 : plainName "java/lang/Record" = true := by first | (simp [plainName, overriddenIn]; done) | decide +kernel
theorem own_d6_0 : decode jdk_30_method_1_code 0 = .ok (.aload_n 0, 1) := by decide +kernel
theorem own_d6_1 : decode jdk_30_method_1_code 1 = .ok (.invokespecial 1, 3) := by decide +kernel
theorem own_d6_4 : decode jdk_30_method_1_code 4 = .ok (.return_, 1) := by decide +kernel
theorem own_ef_own_recInit (m : MethodId) (x0 : Addr) : entryFrame m #[(.ref x0)] 1 = mkF m 0 #[.val (.ref x0)] [] := by first | (simp [entryFrame, mkF, argsToLocals, Value.category]; done) | rfl
def Q_own_recInit (Z : State) (a : Addr) (h0 : Heap) (n0 : Nat) (v : Option Value) (h : Heap) (L : List Loc) : Prop := v = none ∧ Fr n0 L ∧ h = h0
set_option maxRecDepth 65536 in
set_option maxHeartbeats 40000000 in
theorem own_recInit (l : Launch) (Z : State) (a0 : Array Value) (hw : ∀ d ∈ tables_1, d.before a0 Z = true) (ws : List Jvm.Cond) (a : Addr) (h0 : Heap) (n0 : Nat) (Z0 : n0 ≤ h0.size) :
    MetFree l (⟨"java/lang/Record", "<init>", "()V"⟩ : MethodName) (head1 (Jvm.Cond.code (⟨"java/lang/Record", "<init>", "()V"⟩ : MethodName) jdk_30_method_1_code 1 none :: ws) ({ frames := 1, cells := 0, slots := 0, locals := 12 } : Room)) (fun as_ U => as_ = #[(.ref a)] ∧ Z.Warmed39 U.vm ∧ U.heap = h0) (fun _ _ _ _ _ => True) (fun _ U o U' => ∃ v L, o = .returned v ∧ Q_own_recInit Z a h0 n0 v U'.heap L ∧ FrameEnd U o U' L ({ frames := 1, cells := 0, slots := 0, locals := 12 } : Room).cells ({ frames := 1, cells := 0, slots := 0, locals := 12 } : Room).slots) := by
  refine MetFree.of_bodySF (plainFor_of_name own_pn2) hisR ?_
  intro p e s m args below meth c s₁ Bd hml0 hP hK
  obtain ⟨rfl, hZ, hh⟩ := hP
  have hx := Bd.exec
  have hby := Bd.bytes
  have hml : c.maxLocals = 1 := hml0
  have hown : s.vm.findClass "java/lang/Record" = some m.cls := findClass_of_methodNamed Bd.named
  have hnm := (name_of_methodNamed Bd.named Bd.method).1
  have X0 : Stand p l e ({ frames := 1, cells := 0, slots := 0, locals := 12 } : Room) s m #[(.ref a)] below meth c s₁ [] 0 0 := Stand.of_body Bd
  have e0 : s₁.heap = h0 := by rw [← hh, Bd.state]; rfl
  have N0 := Fr.nil n0
  have K0 := Keep.refl h0 []
  show Go p e below (own_F s below (Q_own_recInit Z a h0 n0) ({ frames := 1, cells := 0, slots := 0, locals := 12 } : Room).cells ({ frames := 1, cells := 0, slots := 0, locals := 12 } : Room).slots) (s₁.setTop (entryFrame m #[(.ref a)] 1))
  rw [own_ef_own_recInit m a]
  refine Go.back (t' := (s₁.setTop (mkF m 1 #[.val (.ref a)] [(.ref a)]))) (fun u k => XS.aloadN X0.here hx rfl (hb hby own_d6_0) rfl rfl k) ?_
  obtain ⟨T1, X1, e1, st1⟩ := initO X0 hx hZ hown (hw _ (List.mem_of_getElem? (i := 37) rfl)) (hw _ (List.mem_of_getElem? (i := 16) rfl)) (hw _ (List.mem_of_getElem? (i := 17) rfl)) e0 (g := (mkF m 1 #[.val (.ref a)] [(.ref a)])) rfl (by rw [hml]; rfl) rfl (hb hby own_d6_1) (by decide) (W := 0) (by show 2 * 0 + _ ≤ _; exact Nat.le_of_eq rfl) (by decide)
  refine Go.back (t' := (T1.setTop (mkF m 4 #[.val (.ref a)] []))) st1 ?_
  obtain ⟨fs, hr, hrun, hended, hW, hsame⟩ := X1.leave (v := none) (fun _ => rfl)
  refine ⟨_, _, X1.returnOut hx Bd.returns (hb hby own_d6_4) hr, hrun, hended, _, _, rfl, ?_, ⟨_, rfl⟩, hW, hsame.mono (by decide) (by decide)⟩
  show Q_own_recInit Z a h0 n0 _ T1.heap _
  rw [e1]
  exact ⟨rfl, N0, rfl⟩
theorem own_pn3 : plainName "java/util/Objects" = true := by first | (simp [plainName, overriddenIn]; done) | decide +kernel
theorem own_d7_0 : decode jdk_31_method_11_code 0 = .ok (.aload_n 0, 1) := by decide +kernel
theorem own_d7_1 : decode jdk_31_method_11_code 1 = .ok (.ifnonnull 12, 3) := by decide +kernel
theorem own_d7_4 : decode jdk_31_method_11_code 4 = .ok (.new 84, 3) := by decide +kernel
theorem own_d7_7 : decode jdk_31_method_11_code 7 = .ok (.dup, 1) := by decide +kernel
theorem own_d7_8 : decode jdk_31_method_11_code 8 = .ok (.aload_n 1, 1) := by decide +kernel
theorem own_d7_9 : decode jdk_31_method_11_code 9 = .ok (.invokespecial 87, 3) := by decide +kernel
theorem own_d7_12 : decode jdk_31_method_11_code 12 = .ok (.athrow, 1) := by decide +kernel
theorem own_d7_13 : decode jdk_31_method_11_code 13 = .ok (.aload_n 0, 1) := by decide +kernel
theorem own_d7_14 : decode jdk_31_method_11_code 14 = .ok (.areturn, 1) := by decide +kernel
theorem own_ef_own_rnn (m : MethodId) (x0 : Addr) (x1 : Addr) : entryFrame m #[(.ref x0), (.ref x1)] 2 = mkF m 0 #[.val (.ref x0), .val (.ref x1)] [] := by first | (simp [entryFrame, mkF, argsToLocals, Value.category]; done) | rfl
def Q_own_rnn (Z : State) (a : Addr) (b : Addr) (h0 : Heap) (n0 : Nat) (v : Option Value) (h : Heap) (L : List Loc) : Prop := v = some (.ref a) ∧ Fr n0 L ∧ h = h0
set_option maxRecDepth 65536 in
set_option maxHeartbeats 40000000 in
theorem own_rnn (l : Launch) (Z : State) (a0 : Array Value) (hw : ∀ d ∈ tables_1, d.before a0 Z = true) (ws : List Jvm.Cond) (a : Addr) (b : Addr) (h0 : Heap) (n0 : Nat) (Z0 : n0 ≤ h0.size) :
    MetFree l (⟨"java/util/Objects", "requireNonNull", "(Ljava/lang/Object;Ljava/lang/String;)Ljava/lang/Object;"⟩ : MethodName) (head1 (Jvm.Cond.code (⟨"java/util/Objects", "requireNonNull", "(Ljava/lang/Object;Ljava/lang/String;)Ljava/lang/Object;"⟩ : MethodName) jdk_31_method_11_code 2 (some (.object "java/lang/Object")) :: ws) ({ frames := 0, cells := 0, slots := 0, locals := 0 } : Room)) (fun as_ U => as_ = #[(.ref a), (.ref b)] ∧ Z.Warmed39 U.vm ∧ U.heap = h0) (fun _ _ _ _ _ => True) (fun _ U o U' => ∃ v L, o = .returned v ∧ Q_own_rnn Z a b h0 n0 v U'.heap L ∧ FrameEnd U o U' L ({ frames := 0, cells := 0, slots := 0, locals := 0 } : Room).cells ({ frames := 0, cells := 0, slots := 0, locals := 0 } : Room).slots) := by
  refine MetFree.of_bodySF (plainFor_of_name own_pn3) hisR ?_
  intro p e s m args below meth c s₁ Bd hml0 hP hK
  obtain ⟨rfl, hZ, hh⟩ := hP
  have hx := Bd.exec
  have hby := Bd.bytes
  have hml : c.maxLocals = 2 := hml0
  have hown : s.vm.findClass "java/util/Objects" = some m.cls := findClass_of_methodNamed Bd.named
  have hnm := (name_of_methodNamed Bd.named Bd.method).1
  have X0 : Stand p l e ({ frames := 0, cells := 0, slots := 0, locals := 0 } : Room) s m #[(.ref a), (.ref b)] below meth c s₁ [] 0 0 := Stand.of_body Bd
  have e0 : s₁.heap = h0 := by rw [← hh, Bd.state]; rfl
  have N0 := Fr.nil n0
  have K0 := Keep.refl h0 []
  show Go p e below (own_F s below (Q_own_rnn Z a b h0 n0) ({ frames := 0, cells := 0, slots := 0, locals := 0 } : Room).cells ({ frames := 0, cells := 0, slots := 0, locals := 0 } : Room).slots) (s₁.setTop (entryFrame m #[(.ref a), (.ref b)] 2))
  rw [own_ef_own_rnn m a b]
  refine Go.back (t' := (s₁.setTop (mkF m 14 #[.val (.ref a), .val (.ref b)] [(.ref a)]))) (fun u k => XS.aloadN X0.here hx rfl (hb hby own_d7_0) rfl rfl (XT.ifnonnullYes X0.here hx rfl (pc0 := 1) (pc' := 13) rfl (hb hby own_d7_1) rfl (by decide) (by decide) (XS.aloadN X0.here hx rfl (hb hby own_d7_13) rfl rfl k))) ?_
  obtain ⟨fs, hr, hrun, hended, hW, hsame⟩ := X0.leave (v := some (.ref a)) (fun h => by rw [Bd.returns] at h; cases h)
  refine ⟨_, _, retOut X0 hx (t := (.object "java/lang/Object")) (i := .areturn) Bd.returns rfl (Or.inr (Or.inr (Or.inr (Or.inr ⟨rfl, rfl, rfl⟩)))) (hb hby own_d7_14) hr, hrun, hended, _, _, rfl, ?_, ⟨_, rfl⟩, hW, hsame.mono (by decide) (by decide)⟩
  show Q_own_rnn Z a b h0 n0 _ s₁.heap _
  rw [e0]
  exact ⟨rfl, N0, rfl⟩
theorem own_pd2 : parseMethodDescriptor "()V" = some ⟨[], none⟩ := by decide +kernel
theorem own_pd3 : parseMethodDescriptor "(Ljava/lang/Object;Ljava/lang/String;)Ljava/lang/Object;" = some ⟨[(.object "java/lang/Object"), (.object "java/lang/String")], some (.object "java/lang/Object")⟩ := by decide +kernel
theorem own_pn4 : plainName "com/example/norn/norn/http/EntityTag" = true := by first | (simp [plainName, overriddenIn]; done) | decide +kernel
theorem own_d5_0 : decode prog_47_method_1_code 0 = .ok (.aload_n 0, 1) := by decide +kernel
theorem own_d5_1 : decode prog_47_method_1_code 1 = .ok (.invokespecial 1, 3) := by decide +kernel
theorem own_d5_4 : decode prog_47_method_1_code 4 = .ok (.aload_n 2, 1) := by decide +kernel
theorem own_d5_5 : decode prog_47_method_1_code 5 = .ok (.ldc 7, 2) := by decide +kernel
theorem own_d5_7 : decode prog_47_method_1_code 7 = .ok (.invokestatic 9, 3) := by decide +kernel
theorem own_d5_10 : decode prog_47_method_1_code 10 = .ok (.pop, 1) := by decide +kernel
theorem own_d5_11 : decode prog_47_method_1_code 11 = .ok (.aload_n 0, 1) := by decide +kernel
theorem own_d5_12 : decode prog_47_method_1_code 12 = .ok (.iload_n 1, 1) := by decide +kernel
theorem own_d5_13 : decode prog_47_method_1_code 13 = .ok (.putfield 15, 3) := by decide +kernel
theorem own_d5_16 : decode prog_47_method_1_code 16 = .ok (.aload_n 0, 1) := by decide +kernel
theorem own_d5_17 : decode prog_47_method_1_code 17 = .ok (.aload_n 2, 1) := by decide +kernel
theorem own_d5_18 : decode prog_47_method_1_code 18 = .ok (.putfield 21, 3) := by decide +kernel
theorem own_d5_21 : decode prog_47_method_1_code 21 = .ok (.return_, 1) := by decide +kernel
theorem own_ef_own_etInit (m : MethodId) (x0 : Addr) (x1 : Int32) (x2 : Addr) : entryFrame m #[(.ref x0), (.int x1), (.ref x2)] 3 = mkF m 0 #[.val (.ref x0), .val (.int x1), .val (.ref x2)] [] := by first | (simp [entryFrame, mkF, argsToLocals, Value.category]; done) | rfl
def Q_own_etInit (Z : State) (a : Addr) (zA : Int32) (sx : Addr) (h0 : Heap) (n0 : Nat) (v : Option Value) (h : Heap) (L : List Loc) : Prop := v = none ∧ Fr n0 L ∧ Keep h0 h [a] ∧ Exa Z h a "com/example/norn/norn/http/EntityTag" ∧ Fld Z h a "com/example/norn/norn/http/EntityTag" "weak" "Z" (.int zA) ∧ Fld Z h a "com/example/norn/norn/http/EntityTag" "opaque" "Ljava/lang/String;" (.ref sx)
set_option maxRecDepth 65536 in
set_option maxHeartbeats 40000000 in
theorem own_etInit (l : Launch) (Z : State) (a0 : Array Value) (hw : ∀ d ∈ tables_1, d.before a0 Z = true) (ws : List Jvm.Cond) (a : Addr) (zA : Int32) (sx : Addr) (h0 : Heap) (n0 : Nat) (Z0 : n0 ≤ h0.size) (E_a : Exa Z h0 a "com/example/norn/norn/http/EntityTag") (F_a_weak : Fld Z h0 a "com/example/norn/norn/http/EntityTag" "weak" "Z" (.int (0 : Int32))) (F_a_opaque : Fld Z h0 a "com/example/norn/norn/http/EntityTag" "opaque" "Ljava/lang/String;" .null) (g_a : n0 ≤ a) (bit_zA : zA = 0 ∨ zA = 1) :
    MetFree l (⟨"com/example/norn/norn/http/EntityTag", "<init>", "(ZLjava/lang/String;)V"⟩ : MethodName) (head1 (Jvm.Cond.code (⟨"com/example/norn/norn/http/EntityTag", "<init>", "(ZLjava/lang/String;)V"⟩ : MethodName) prog_47_method_1_code 3 none :: ws) ({ frames := 2, cells := 2, slots := 28, locals := 24 } : Room)) (fun as_ U => as_ = #[(.ref a), (.int zA), (.ref sx)] ∧ Z.Warmed39 U.vm ∧ U.heap = h0) (fun _ _ _ _ _ => True) (fun _ U o U' => ∃ v L, o = .returned v ∧ Q_own_etInit Z a zA sx h0 n0 v U'.heap L ∧ ReturnedEndW U o U' L ({ frames := 2, cells := 2, slots := 28, locals := 24 } : Room).cells ({ frames := 2, cells := 2, slots := 28, locals := 24 } : Room).slots) := by
  refine MetFree.of_bodySF (plainFor_of_name own_pn4) hisR ?_
  intro p e s m args below meth c s₁ Bd hml0 hP hK
  obtain ⟨rfl, hZ, hh⟩ := hP
  have hx := Bd.exec
  have hby := Bd.bytes
  have hml : c.maxLocals = 3 := hml0
  have hown : s.vm.findClass "com/example/norn/norn/http/EntityTag" = some m.cls := findClass_of_methodNamed Bd.named
  have hnm := (name_of_methodNamed Bd.named Bd.method).1
  have X0 : Stand p l e ({ frames := 2, cells := 2, slots := 28, locals := 24 } : Room) s m #[(.ref a), (.int zA), (.ref sx)] below meth c s₁ [] 0 0 := Stand.of_body Bd
  have e0 : s₁.heap = h0 := by rw [← hh, Bd.state]; rfl
  have N0 := Fr.nil n0
  have K0 := Keep.refl h0 [a]
  have hS0 : s.Since s.vm s.heap.size := (State.WarmedH.refl s).since _
  have hk0 : s.heap.size ≤ h0.size := by rw [hh]; exact Nat.le_refl _
  show Go p e below (own_FW s below (Q_own_etInit Z a zA sx h0 n0) ({ frames := 2, cells := 2, slots := 28, locals := 24 } : Room).cells ({ frames := 2, cells := 2, slots := 28, locals := 24 } : Room).slots) (s₁.setTop (entryFrame m #[(.ref a), (.int zA), (.ref sx)] 3))
  rw [own_ef_own_etInit m a zA sx]
  refine Go.back (t' := (s₁.setTop (mkF m 1 #[.val (.ref a), .val (.int zA), .val (.ref sx)] [(.ref a)]))) (fun u k => XS.aloadN X0.here hx rfl (hb hby own_d5_0) rfl rfl k) ?_
  obtain ⟨_, _, ⟨T1, L1, k1, n1⟩, -, X1, ⟨Lc1, hQ1, l1, y1, z1⟩, st1⟩ := X0.specialBack hx (y := (⟨"java/lang/Record", "<init>", "()V"⟩ : MethodName)) rfl hown (mvT hZ (hw _ (List.mem_of_getElem? (i := 32) rfl))) (mvT hZ (hw _ (List.mem_of_getElem? (i := 33) rfl))) (mvT hZ (hw _ (List.mem_of_getElem? (i := 36) rfl))) (by decide) (backOf (W := 0) (own_recInit l Z a0 hw [] a h0 n0 Z0 ) hZ (hw _ (List.mem_of_getElem? (i := 36) rfl)) (hw _ (List.mem_of_getElem? (i := 35) rfl)) (by decide) (by decide)) (g := (mkF m 1 #[.val (.ref a), .val (.int zA), .val (.ref sx)] [(.ref a)])) rfl (by rw [hml]; rfl) (Steps.refl _) (a := a) (argsL := []) (rest := []) (lenOf own_pd2 rfl) rfl (by show 2 * 0 + _ ≤ _; exact Nat.le_of_eq rfl) (hb hby own_d5_1) (fun _ _ => ⟨rfl, e0, (by decide : 0 + 0 ≤ _), (by decide : 0 + 0 ≤ _)⟩)
  dsimp only [Pt.U, Pt.locs, Pt.cells, Pt.slots] at X1 l1 y1 z1 st1 hQ1
  subst l1 y1 z1
  obtain ⟨rfl, N1, e1⟩ := hQ1
  have NA1 := Fr.app N0 N1
  refine Go.back (t' := (T1.setTop (mkF m 4 #[.val (.ref a), .val (.int zA), .val (.ref sx)] []))) (fun u k => st1.trans k) ?_
  refine Go.back (t' := (T1.setTop (mkF m 5 #[.val (.ref a), .val (.int zA), .val (.ref sx)] [(.ref sx)]))) (fun u k => XS.aloadN X1.here hx rfl (hb hby own_d5_4) rfl rfl k) ?_
  have wS : ∀ d ∈ Bundle.stringAtoms, d.before a0 Z = true := fun d hd => hw d ((by decide +kernel : ∀ d ∈ Bundle.stringAtoms, d ∈ tables_1) d hd)
  obtain ⟨a2, T2, h2, kk2, X2, e2, E2, hS2, hk2, hZ, hown, st2⟩ := ldcS (s := s) (vm0 := s.vm) X1 hx hZ hown (hw _ (List.mem_of_getElem? (i := 38) rfl)) wS e1 hS0 hk0 (g := (mkF m 5 #[.val (.ref a), .val (.int zA), .val (.ref sx)] [(.ref sx)])) rfl (hb hby own_d5_5) (n := 24) (by decide) (by decide) (by decide) (by decide)
  have Z2 : n0 ≤ h2.size := Nat.le_trans Z0 E2.1
  have K2 := K0.ext E2
  refine Go.back (t' := (T2.setTop (mkF m 7 #[.val (.ref a), .val (.int zA), .val (.ref sx)] [(.ref a2), (.ref sx)]))) st2 ?_
  obtain ⟨_, _, ⟨T3, L3, k3, n3⟩, -, X3, ⟨Lc3, hQ3, l3, y3, z3⟩, st3⟩ := Jvm.LawKit.callS X2 hx (y := (⟨"java/util/Objects", "requireNonNull", "(Ljava/lang/Object;Ljava/lang/String;)Ljava/lang/Object;"⟩ : MethodName)) hown (mvT hZ (hw _ (List.mem_of_getElem? (i := 39) rfl))) (mvT hZ (hw _ (List.mem_of_getElem? (i := 40) rfl))) (mvT hZ (hw _ (List.mem_of_getElem? (i := 41) rfl))) (mvT hZ (hw _ (List.mem_of_getElem? (i := 42) rfl))) (by decide) (backOf (W := 0) (own_rnn l Z a0 hw [] sx a2 h2 n0 Z2 ) hZ (hw _ (List.mem_of_getElem? (i := 42) rfl)) (hw _ (List.mem_of_getElem? (i := 41) rfl)) (by decide) (by decide)) (g := (mkF m 7 #[.val (.ref a), .val (.int zA), .val (.ref sx)] [(.ref a2), (.ref sx)])) rfl (by rw [hml]; rfl) (argsL := [(.ref sx), (.ref a2)]) (rest := []) (lenOf own_pd3 rfl) rfl (by show 2 * 0 + _ ≤ _; exact Nat.le_of_eq rfl) (hb hby own_d5_7) (fun _ _ => ⟨rfl, e2, (by decide : 2 + 0 ≤ _), (by decide : 28 + 0 ≤ _)⟩)
  dsimp only [Pt.U, Pt.locs, Pt.cells, Pt.slots] at X3 l3 y3 z3 st3 hQ3
  subst l3 y3 z3
  obtain ⟨rfl, N3, e3⟩ := hQ3
  have NA3 := Fr.app NA1 N3
  refine Go.back (t' := (T3.setTop (mkF m 10 #[.val (.ref a), .val (.int zA), .val (.ref sx)] [(.ref sx)]))) st3 ?_
  refine Go.back (t' := (T3.setTop (mkF m 13 #[.val (.ref a), .val (.int zA), .val (.ref sx)] [(.int zA), (.ref a)]))) (fun u k => XT.pop X3.here hx rfl (hb hby own_d5_10) rfl rfl (XS.aloadN X3.here hx rfl (hb hby own_d5_11) rfl rfl (XS.iloadN X3.here hx rfl (hb hby own_d5_12) rfl k))) ?_
  have f5 := (F_a_weak.ext E2)
  have f6 := (E_a.ext E2)
  obtain ⟨T4, h4, X4, e4, W4, st4⟩ := putFN X3 hx hZ hown (hw _ (List.mem_of_getElem? (i := 43) rfl)) Via.refl e3 f5 f6 (Or.inr ⟨(hw _ (List.mem_of_getElem? (i := 44) rfl)), rfl, hnm⟩) (hw _ (List.mem_of_getElem? (i := 27) rfl)) (ty := .boolean) (v' := (.int zA)) (by decide) (own_bit bit_zA).1 (own_bit bit_zA).2 (g := (mkF m 13 #[.val (.ref a), .val (.int zA), .val (.ref sx)] [(.int zA), (.ref a)])) rfl rfl (hb hby own_d5_13)
  have Z4 : n0 ≤ h4.size := Nat.le_trans Z2 (Keep.of_wr W4).1
  have K4 := K2.wr W4 (Or.inl (List.mem_of_getElem? (i := 0) rfl))
  have N4 := Fr.snoc X4 NA3 g_a
  have hk4 := Nat.le_trans hk2 (Keep.of_wr W4).1
  have F4 := f5.same W4
  refine Go.back (t' := (T4.setTop (mkF m 16 #[.val (.ref a), .val (.int zA), .val (.ref sx)] []))) st4 ?_
  refine Go.back (t' := (T4.setTop (mkF m 18 #[.val (.ref a), .val (.int zA), .val (.ref sx)] [(.ref sx), (.ref a)]))) (fun u k => XS.aloadN X4.here hx rfl (hb hby own_d5_16) rfl rfl (XS.aloadN X4.here hx rfl (hb hby own_d5_17) rfl rfl k)) ?_
  have f8 := ((F_a_opaque.ext E2).other W4 (Or.inr (slot_ne (Or.inr (hw _ (List.mem_of_getElem? (i := 46) rfl))) (Or.inr (hw _ (List.mem_of_getElem? (i := 44) rfl))) (by decide) (t := (.object "java/lang/String")) (t' := .boolean) (by decide) (by decide))))
  have f9 := (f6.wr W4)
  obtain ⟨T7, h7, X7, e7, W7, st7⟩ := putF X4 hx hZ hown (host := "") (Or.inl (hw _ (List.mem_of_getElem? (i := 45) rfl))) Via.refl e4 f8 f9 (Or.inr ⟨(hw _ (List.mem_of_getElem? (i := 46) rfl)), rfl, hnm⟩) (hw _ (List.mem_of_getElem? (i := 27) rfl)) (ty := (.object "java/lang/String")) (by decide) rfl rfl (g := (mkF m 18 #[.val (.ref a), .val (.int zA), .val (.ref sx)] [(.ref sx), (.ref a)])) rfl rfl (hb hby own_d5_18)
  have Z7 : n0 ≤ h7.size := Nat.le_trans Z4 (Keep.of_wr W7).1
  have K7 := K4.wr W7 (Or.inl (List.mem_of_getElem? (i := 0) rfl))
  have N7 := Fr.snoc X7 N4 g_a
  have hk7 := Nat.le_trans hk4 (Keep.of_wr W7).1
  have F7 := f8.same W7
  refine Go.back (t' := (T7.setTop (mkF m 21 #[.val (.ref a), .val (.int zA), .val (.ref sx)] []))) st7 ?_
  have f10 := (f9.wr W7)
  have f11 := (F4.other W7 (Or.inr (slot_ne (Or.inr (hw _ (List.mem_of_getElem? (i := 44) rfl))) (Or.inr (hw _ (List.mem_of_getElem? (i := 46) rfl))) (by decide) (t := .boolean) (t' := (.object "java/lang/String")) (by decide) (by decide))))
  obtain ⟨fs, hr, hrun, hended, hFW⟩ := Jvm.Stand.leaveW (s := s) (vm₁ := T2.vm) X7 hS2 (by rw [e7]; exact hk7) (v := none) (fun _ => rfl)
  refine ⟨_, _, X7.returnOut hx Bd.returns (hb hby own_d5_21) hr, hrun, hended, _, _, rfl, ?_, hFW.1, hFW.2.1, hFW.2.2.1, hFW.2.2.2.mono (by decide) (by decide)⟩
  show Q_own_etInit Z a zA sx h0 n0 _ T7.heap _
  rw [e7]
  exact ⟨rfl, N7, K7, f10, f11, F7⟩
def F_ms (z1 z2 : Int32) (cs ds : List Int32) : Int32 := if z1 = (0 : Int32) then (if z2 = (0 : Int32) then (if cs = ds then (1 : Int32) else (0 : Int32)) else (0 : Int32)) else (0 : Int32)
theorem own_c16 {c : Int32} (h : ¬ c < 0 ∧ ¬ (255 : Int32) < c) : ¬ c < 0 ∧ ¬ (65535 : Int32) < c := by
  refine ⟨h.1, fun q => h.2 ?_⟩
  rw [Int32.lt_iff_toInt_lt] at q ⊢
  have a : (65535 : Int32).toInt = 65535 := by decide
  have b : (255 : Int32).toInt = 255 := by decide
  rw [a] at q; rw [b]; omega
theorem own_chr (x : Int32) : (¬ (x &&& (255 : Int32)) < 0 ∧ ¬ (255 : Int32) < (x &&& (255 : Int32))) ∧ nar .char (x &&& (255 : Int32)) = (x &&& (255 : Int32)) := by
  refine ⟨?_, i2c_mask _⟩
  have m := Jvm.Kit.i32_mask x (255 : Int32) (k := 8) (by decide) (by decide)
  have e0 : (0 : Int32).toInt = 0 := by decide
  have e1 : (255 : Int32).toInt = 255 := by decide
  rw [Int32.lt_iff_toInt_lt, Int32.lt_iff_toInt_lt, m, e0, e1]
  omega
abbrev own_ok (c : Int32) : Prop := (¬ c < 0 ∧ ¬ (255 : Int32) < c) ∧ nar .char c = c
theorem own_ca {x c : Int32} (h : c = (x &&& (255 : Int32))) : own_ok c := by rw [h]; exact own_chr x
theorem own_cb {a x c : Int32} {P : Prop} [Decidable P] (ha : own_ok a) (h : c = (if P then ((x &&& (255 : Int32)).toUInt32.toUInt16.toUInt32.toInt32) else a)) : own_ok c := by
  rw [h]
  by_cases q : P
  · rw [if_pos q, i2c_mask]; exact own_chr x
  · rw [if_neg q]; exact ha
theorem own_csok (k : Int32) {c0 c1 c2 : Int32} (h0 : own_ok c0) (h1 : own_ok c1) (h2 : own_ok c2) : (∀ c ∈ own_cs k c0 c1 c2, ¬ c < 0 ∧ ¬ (255 : Int32) < c) ∧ (own_cs k c0 c1 c2).length ≤ 3 := by
  unfold own_cs
  by_cases q0 : k = (0 : Int32)
  · rw [if_pos q0]; exact ⟨fun c hc => (nomatch hc), by decide⟩
  · rw [if_neg q0]
    by_cases q1 : k = (1 : Int32)
    · rw [if_pos q1]; refine ⟨fun c hc => ?_, by simp⟩
      simp only [List.mem_cons, List.not_mem_nil, or_false] at hc; rw [hc]; exact h0.1
    · rw [if_neg q1]
      by_cases q2 : k = (2 : Int32)
      · rw [if_pos q2]; refine ⟨fun c hc => ?_, by simp⟩
        simp only [List.mem_cons, List.not_mem_nil, or_false] at hc; rcases hc with rfl | rfl
        · exact h0.1
        · exact h1.1
      · rw [if_neg q2]; refine ⟨fun c hc => ?_, by simp⟩
        simp only [List.mem_cons, List.not_mem_nil, or_false] at hc; rcases hc with rfl | rfl | rfl
        · exact h0.1
        · exact h1.1
        · exact h2.1
theorem own_and3 (p : Int32) : (p &&& (3 : Int32)) = (0 : Int32) ∨ (p &&& (3 : Int32)) = (1 : Int32) ∨ (p &&& (3 : Int32)) = (2 : Int32) ∨ (p &&& (3 : Int32)) = (3 : Int32) := by
  obtain ⟨k, hk⟩ : ∃ k : Fin 4, (p &&& (3 : Int32)) = Int32.ofNat k.val := by
    refine ⟨⟨(p.toBitVec &&& 3#32).toNat, ?_⟩, ?_⟩
    · rw [BitVec.toNat_and]; exact Nat.lt_succ_of_le Nat.and_le_right
    · apply Int32.toBitVec_inj.mp
      rw [Int32.toBitVec_and]
      show p.toBitVec &&& 3#32 = BitVec.ofNat 32 (p.toBitVec &&& 3#32).toNat
      rw [BitVec.ofNat_toNat, BitVec.setWidth_eq]
  rw [hk]
  clear hk
  revert k
  decide
abbrev own_is4 (l : Int32) : Prop := l = (0 : Int32) ∨ l = (1 : Int32) ∨ l = (2 : Int32) ∨ l = (3 : Int32)
theorem own_len {x y a b : Int32} {P : Prop} [Decidable P] (ha : a = (x &&& (3 : Int32))) (hb : b = (if P then (y &&& (3 : Int32)) else a)) : own_is4 a ∧ own_is4 b := by
  have A : own_is4 a := by rw [ha]; exact own_and3 x
  refine ⟨A, ?_⟩
  rw [hb]
  by_cases q : P
  · rw [if_pos q]; exact own_and3 y
  · rw [if_neg q]; exact A
theorem own_fin {la lb a0 a1 a2 b0 b1 b2 sm ex zA zB : Int32} (H : own_is4 la ∧ own_is4 lb) (hs : sm = (if la = lb then (if la < (1 : Int32) then (if la < (2 : Int32) then (if la < (3 : Int32) then (1 : Int32) else (if a2 = b2 then (1 : Int32) else (0 : Int32))) else (if a1 = b1 then (if la < (3 : Int32) then (1 : Int32) else (if a2 = b2 then (1 : Int32) else (0 : Int32))) else (0 : Int32))) else (if a0 = b0 then (if la < (2 : Int32) then (if la < (3 : Int32) then (1 : Int32) else (if a2 = b2 then (1 : Int32) else (0 : Int32))) else (if a1 = b1 then (if la < (3 : Int32) then (1 : Int32) else (if a2 = b2 then (1 : Int32) else (0 : Int32))) else (0 : Int32))) else (0 : Int32))) else (0 : Int32))) (he : ex = (if zA = (0 : Int32) then (if zB = (0 : Int32) then (if sm = (0 : Int32) then (0 : Int32) else (1 : Int32)) else (0 : Int32)) else (0 : Int32))) :
    F_ms zA zB (own_cs la a0 a1 a2) (own_cs lb b0 b1 b2) = ex ∧ F_ms zB zA (own_cs lb b0 b1 b2) (own_cs la a0 a1 a2) = ex := by
  have e01 : ((0 : Int32) = (1 : Int32)) = False := eq_false (by decide)
  have e02 : ((0 : Int32) = (2 : Int32)) = False := eq_false (by decide)
  have e03 : ((0 : Int32) = (3 : Int32)) = False := eq_false (by decide)
  have e10 : ((1 : Int32) = (0 : Int32)) = False := eq_false (by decide)
  have e12 : ((1 : Int32) = (2 : Int32)) = False := eq_false (by decide)
  have e13 : ((1 : Int32) = (3 : Int32)) = False := eq_false (by decide)
  have e20 : ((2 : Int32) = (0 : Int32)) = False := eq_false (by decide)
  have e21 : ((2 : Int32) = (1 : Int32)) = False := eq_false (by decide)
  have e23 : ((2 : Int32) = (3 : Int32)) = False := eq_false (by decide)
  have e30 : ((3 : Int32) = (0 : Int32)) = False := eq_false (by decide)
  have e31 : ((3 : Int32) = (1 : Int32)) = False := eq_false (by decide)
  have e32 : ((3 : Int32) = (2 : Int32)) = False := eq_false (by decide)
  have l01 : ((0 : Int32) < (1 : Int32)) = True := eq_true (by decide)
  have l02 : ((0 : Int32) < (2 : Int32)) = True := eq_true (by decide)
  have l03 : ((0 : Int32) < (3 : Int32)) = True := eq_true (by decide)
  have l11 : ((1 : Int32) < (1 : Int32)) = False := eq_false (by decide)
  have l12 : ((1 : Int32) < (2 : Int32)) = True := eq_true (by decide)
  have l13 : ((1 : Int32) < (3 : Int32)) = True := eq_true (by decide)
  have l21 : ((2 : Int32) < (1 : Int32)) = False := eq_false (by decide)
  have l22 : ((2 : Int32) < (2 : Int32)) = False := eq_false (by decide)
  have l23 : ((2 : Int32) < (3 : Int32)) = True := eq_true (by decide)
  have l31 : ((3 : Int32) < (1 : Int32)) = False := eq_false (by decide)
  have l32 : ((3 : Int32) < (2 : Int32)) = False := eq_false (by decide)
  have l33 : ((3 : Int32) < (3 : Int32)) = False := eq_false (by decide)
  have S : sm = if own_cs la a0 a1 a2 = own_cs lb b0 b1 b2 then (1 : Int32) else (0 : Int32) := by
    rw [hs]
    obtain ⟨h1, h2⟩ := H
    rcases h1 with rfl | rfl | rfl | rfl <;> rcases h2 with rfl | rfl | rfl | rfl <;> simp only [own_cs, e01, e02, e03, e10, e12, e13, e20, e21, e23, e30, e31, e32, l01, l02, l03, l11, l12, l13, l21, l22, l23, l31, l32, l33, if_true, if_false, List.cons.injEq, and_true, reduceCtorEq, and_false, true_and, false_and] <;> (by_cases q0 : a0 = b0 <;> by_cases q1 : a1 = b1 <;> by_cases q2 : a2 = b2 <;> simp [q0, q1, q2])
  have T : (own_cs lb b0 b1 b2 = own_cs la a0 a1 a2) = (own_cs la a0 a1 a2 = own_cs lb b0 b1 b2) := propext ⟨Eq.symm, Eq.symm⟩
  unfold F_ms
  rw [he]
  by_cases e : own_cs la a0 a1 a2 = own_cs lb b0 b1 b2
  · rw [if_pos e] at S
    have e2 := e.symm
    rw [if_pos e, if_pos e2, S]
    clear e e2 T
    by_cases z1 : zA = (0 : Int32) <;> by_cases z2 : zB = (0 : Int32) <;> simp [z1, z2]
  · rw [if_neg e] at S
    have e2 : ¬ own_cs lb b0 b1 b2 = own_cs la a0 a1 a2 := fun q => e q.symm
    rw [if_neg e, if_neg e2, S]
    clear e e2 T
    by_cases z1 : zA = (0 : Int32) <;> by_cases z2 : zB = (0 : Int32) <;> simp [z1, z2]
theorem own_pd4 : parseMethodDescriptor "(Ljava/lang/Object;)Z" = some ⟨[(.object "java/lang/Object")], some .boolean⟩ := by decide +kernel
theorem own_d8_0 : decode prog_47_method_5_code 0 = .ok (.aload_n 0, 1) := by decide +kernel
theorem own_d8_1 : decode prog_47_method_5_code 1 = .ok (.getfield 15, 3) := by decide +kernel
theorem own_d8_4 : decode prog_47_method_5_code 4 = .ok (.ifCond .ne 28, 3) := by decide +kernel
theorem own_d8_7 : decode prog_47_method_5_code 7 = .ok (.aload_n 1, 1) := by decide +kernel
theorem own_d8_8 : decode prog_47_method_5_code 8 = .ok (.getfield 15, 3) := by decide +kernel
theorem own_d8_11 : decode prog_47_method_5_code 11 = .ok (.ifCond .ne 21, 3) := by decide +kernel
theorem own_d8_14 : decode prog_47_method_5_code 14 = .ok (.aload_n 0, 1) := by decide +kernel
theorem own_d8_15 : decode prog_47_method_5_code 15 = .ok (.getfield 21, 3) := by decide +kernel
theorem own_d8_18 : decode prog_47_method_5_code 18 = .ok (.aload_n 1, 1) := by decide +kernel
theorem own_d8_19 : decode prog_47_method_5_code 19 = .ok (.getfield 21, 3) := by decide +kernel
theorem own_d8_22 : decode prog_47_method_5_code 22 = .ok (.invokevirtual 69, 3) := by decide +kernel
theorem own_d8_25 : decode prog_47_method_5_code 25 = .ok (.ifCond .eq 7, 3) := by decide +kernel
theorem own_d8_28 : decode prog_47_method_5_code 28 = .ok (.iconst 1, 1) := by decide +kernel
theorem own_d8_29 : decode prog_47_method_5_code 29 = .ok (.goto 4, 3) := by decide +kernel
theorem own_d8_32 : decode prog_47_method_5_code 32 = .ok (.iconst 0, 1) := by decide +kernel
theorem own_d8_33 : decode prog_47_method_5_code 33 = .ok (.ireturn, 1) := by decide +kernel
theorem own_ef_own_ms (m : MethodId) (x0 : Addr) (x1 : Addr) : entryFrame m #[(.ref x0), (.ref x1)] 2 = mkF m 0 #[.val (.ref x0), .val (.ref x1)] [] := by first | (simp [entryFrame, mkF, argsToLocals, Value.category]; done) | rfl
def Q_own_ms (Z : State) (a : Addr) (b : Addr) (zA : Int32) (zB : Int32) (sx : Addr) (sy : Addr) (tx : Addr) (ty : Addr) (gC : Int32) (cs : List Int32) (ds : List Int32) (kx : ClassId) (ky : ClassId) (h0 : Heap) (n0 : Nat) (v : Option Value) (h : Heap) (L : List Loc) : Prop := v = some (.int (F_ms zA zB cs ds)) ∧ Fr n0 L ∧ h = h0
set_option maxRecDepth 65536 in
set_option maxHeartbeats 40000000 in
theorem own_ms (l : Launch) (Z : State) (a0 : Array Value) (hw : ∀ d ∈ tables_1, d.before a0 Z = true) (ws : List Jvm.Cond) (a : Addr) (b : Addr) (zA : Int32) (zB : Int32) (sx : Addr) (sy : Addr) (tx : Addr) (ty : Addr) (gC : Int32) (cs : List Int32) (ds : List Int32) (kx : ClassId) (ky : ClassId) (h0 : Heap) (n0 : Nat) (Z0 : n0 ≤ h0.size) (E_sx : Exa Z h0 sx "java/lang/String") (E_sy : Exa Z h0 sy "java/lang/String") (F_a_weak : Fld Z h0 a "com/example/norn/norn/http/EntityTag" "weak" "Z" (.int zA)) (F_b_weak : Fld Z h0 b "com/example/norn/norn/http/EntityTag" "weak" "Z" (.int zB)) (F_a_opaque : Fld Z h0 a "com/example/norn/norn/http/EntityTag" "opaque" "Ljava/lang/String;" (.ref sx)) (F_b_opaque : Fld Z h0 b "com/example/norn/norn/http/EntityTag" "opaque" "Ljava/lang/String;" (.ref sy)) (F_sx_value : Fld Z h0 sx "java/lang/String" "value" "[B" (.ref tx)) (F_sx_coder : Fld Z h0 sx "java/lang/String" "coder" "B" (.int (0 : Int32))) (F_sy_value : Fld Z h0 sy "java/lang/String" "value" "[B" (.ref ty)) (F_sy_coder : Fld Z h0 sy "java/lang/String" "coder" "B" (.int (0 : Int32))) (Old0 : Old Z n0 h0) (SCS : Sta Z Z.heap "java/lang/String" "COMPACT_STRINGS" "Z" (.int gC)) (P5 : ¬ gC = 0) (V_tx : Arv Z h0 tx kx .byte (Int32.ofNat cs.length) (own_bs cs) (.int (0 : Int32))) (hb_cs : (∀ c ∈ cs, ¬ c < 0 ∧ ¬ (255 : Int32) < c) ∧ cs.length ≤ 3) (V_ty : Arv Z h0 ty ky .byte (Int32.ofNat ds.length) (own_bs ds) (.int (0 : Int32))) (hb_ds : (∀ c ∈ ds, ¬ c < 0 ∧ ¬ (255 : Int32) < c) ∧ ds.length ≤ 3) :
    MetFree l (⟨"com/example/norn/norn/http/EntityTag", "matchesStrongly", "(Lcom/example/norn/norn/http/EntityTag;)Z"⟩ : MethodName) (head1 (Jvm.Cond.code (⟨"com/example/norn/norn/http/EntityTag", "matchesStrongly", "(Lcom/example/norn/norn/http/EntityTag;)Z"⟩ : MethodName) prog_47_method_5_code 2 (some .boolean) :: ws) ({ frames := 2, cells := 0, slots := 0, locals := 28 } : Room)) (fun as_ U => as_ = #[(.ref a), (.ref b)] ∧ Z.Warmed39 U.vm ∧ U.heap = h0) (fun _ _ _ _ _ => True) (fun _ U o U' => ∃ v L, o = .returned v ∧ Q_own_ms Z a b zA zB sx sy tx ty gC cs ds kx ky h0 n0 v U'.heap L ∧ FrameEnd U o U' L ({ frames := 2, cells := 0, slots := 0, locals := 28 } : Room).cells ({ frames := 2, cells := 0, slots := 0, locals := 28 } : Room).slots) := by
  refine MetFree.of_bodySF (plainFor_of_name own_pn4) hisR ?_
  intro p e s m args below meth c s₁ Bd hml0 hP hK
  obtain ⟨rfl, hZ, hh⟩ := hP
  have hx := Bd.exec
  have hby := Bd.bytes
  have hml : c.maxLocals = 2 := hml0
  have hown : s.vm.findClass "com/example/norn/norn/http/EntityTag" = some m.cls := findClass_of_methodNamed Bd.named
  have hnm := (name_of_methodNamed Bd.named Bd.method).1
  have X0 : Stand p l e ({ frames := 2, cells := 0, slots := 0, locals := 28 } : Room) s m #[(.ref a), (.ref b)] below meth c s₁ [] 0 0 := Stand.of_body Bd
  have e0 : s₁.heap = h0 := by rw [← hh, Bd.state]; rfl
  have N0 := Fr.nil n0
  have K0 := Keep.refl h0 []
  show Go p e below (own_F s below (Q_own_ms Z a b zA zB sx sy tx ty gC cs ds kx ky h0 n0) ({ frames := 2, cells := 0, slots := 0, locals := 28 } : Room).cells ({ frames := 2, cells := 0, slots := 0, locals := 28 } : Room).slots) (s₁.setTop (entryFrame m #[(.ref a), (.ref b)] 2))
  rw [own_ef_own_ms m a b]
  refine Go.back (t' := (s₁.setTop (mkF m 1 #[.val (.ref a), .val (.ref b)] [(.ref a)]))) (fun u k => XS.aloadN X0.here hx rfl (hb hby own_d8_0) rfl rfl k) ?_
  obtain ⟨T1, X1, e1, st1⟩ := getF X0 hx hZ hown (host := "") (Or.inl (hw _ (List.mem_of_getElem? (i := 43) rfl))) Via.refl e0 F_a_weak (g := (mkF m 1 #[.val (.ref a), .val (.ref b)] [(.ref a)])) rfl rfl (hb hby own_d8_1)
  refine Go.back (t' := (T1.setTop (mkF m 4 #[.val (.ref a), .val (.ref b)] [(.int zA)]))) st1 ?_
  by_cases hc2 : zA = (0 : Int32)
  · skip
    refine Go.back (t' := (T1.setTop (mkF m 8 #[.val (.ref a), .val (.ref b)] [(.ref b)]))) (fun u k => XS.ifNo X1.here hx rfl (hb hby own_d8_4) rfl (XT.i0_ne_f hc2) (XS.aloadN X1.here hx rfl (hb hby own_d8_7) rfl rfl k)) ?_
    obtain ⟨T3, X3, e3, st3⟩ := getF X1 hx hZ hown (host := "") (Or.inl (hw _ (List.mem_of_getElem? (i := 43) rfl))) Via.refl e1 F_b_weak (g := (mkF m 8 #[.val (.ref a), .val (.ref b)] [(.ref b)])) rfl rfl (hb hby own_d8_8)
    refine Go.back (t' := (T3.setTop (mkF m 11 #[.val (.ref a), .val (.ref b)] [(.int zB)]))) st3 ?_
    by_cases hc4 : zB = (0 : Int32)
    · skip
      refine Go.back (t' := (T3.setTop (mkF m 15 #[.val (.ref a), .val (.ref b)] [(.ref a)]))) (fun u k => XS.ifNo X3.here hx rfl (hb hby own_d8_11) rfl (XT.i0_ne_f hc4) (XS.aloadN X3.here hx rfl (hb hby own_d8_14) rfl rfl k)) ?_
      obtain ⟨T5, X5, e5, st5⟩ := getF X3 hx hZ hown (host := "") (Or.inl (hw _ (List.mem_of_getElem? (i := 45) rfl))) Via.refl e3 F_a_opaque (g := (mkF m 15 #[.val (.ref a), .val (.ref b)] [(.ref a)])) rfl rfl (hb hby own_d8_15)
      refine Go.back (t' := (T5.setTop (mkF m 18 #[.val (.ref a), .val (.ref b)] [(.ref sx)]))) st5 ?_
      refine Go.back (t' := (T5.setTop (mkF m 19 #[.val (.ref a), .val (.ref b)] [(.ref b), (.ref sx)]))) (fun u k => XS.aloadN X5.here hx rfl (hb hby own_d8_18) rfl rfl k) ?_
      obtain ⟨T6, X6, e6, st6⟩ := getF X5 hx hZ hown (host := "") (Or.inl (hw _ (List.mem_of_getElem? (i := 45) rfl))) Via.refl e5 F_b_opaque (g := (mkF m 19 #[.val (.ref a), .val (.ref b)] [(.ref b), (.ref sx)])) rfl rfl (hb hby own_d8_19)
      refine Go.back (t' := (T6.setTop (mkF m 22 #[.val (.ref a), .val (.ref b)] [(.ref sy), (.ref sx)]))) st6 ?_
      have hwe : ∀ d ∈ StrChars.Road.wordsEq, d.before a0 Z = true := fun d hd => hw d ((by decide +kernel : ∀ d ∈ StrChars.Road.wordsEq, d ∈ tables_1) d hd)
      obtain ⟨cq8, kq8, qa8, qb8, qc8⟩ := isOf hZ e6 E_sx
      obtain ⟨_, _, ⟨T7, L7, k7, n7⟩, -, X7, ⟨Lc7, ⟨hv7, hL7, hh7⟩, l7, y7, z7⟩, st7⟩ := X6.virtualBack hx (y := (⟨"java/lang/String", "equals", "(Ljava/lang/Object;)Z"⟩ : MethodName)) (z := (⟨"java/lang/String", "equals", "(Ljava/lang/Object;)Z"⟩ : MethodName)) hown (mvT hZ (hw _ (List.mem_of_getElem? (i := 52) rfl))) (mvT hZ (hw _ (List.mem_of_getElem? (i := 53) rfl))) (notFace_of_selects (args := #[]) (mvT hZ (hw _ (List.mem_of_getElem? (i := 55) rfl)))) (mvT hZ (hw _ (List.mem_of_getElem? (i := 55) rfl))) (mvT hZ (hw _ (List.mem_of_getElem? (i := 54) rfl))) (by decide) (StrChars.Road.eqW (W := 0) hZ hwe (kI := 4) (hw _ (List.mem_of_getElem? (i := 5) rfl)) E_sx F_sx_value F_sx_coder V_tx (Or.inl ⟨rfl, rfl, rfl, fun c hc => (hb_cs.1 c hc).2⟩) (fun c hc => own_c16 (hb_cs.1 c hc)) (by have := hb_cs.2; omega) E_sy F_sy_value F_sy_coder V_ty (Or.inl ⟨rfl, rfl, rfl, fun c hc => (hb_ds.1 c hc).2⟩) (fun c hc => own_c16 (hb_ds.1 c hc)) (by have := hb_ds.2; omega) (SCS.ext Old0.2) P5 (by decide) (by decide)) qa8 qc8 (g := (mkF m 22 #[.val (.ref a), .val (.ref b)] [(.ref sy), (.ref sx)])) rfl (by rw [hml]; rfl) (Steps.refl _) (argsL := [(.ref sy)]) (rest := []) (lenOf own_pd4 rfl) rfl (by show 2 * 0 + _ ≤ _; exact Nat.le_of_eq rfl) (hb hby own_d8_22) (fun _ _ => ⟨rfl, e6, (by decide : 0 + 0 ≤ _), (by decide : 0 + 0 ≤ _)⟩)
      dsimp only [Pt.U, Pt.locs, Pt.cells, Pt.slots] at X7 l7 y7 z7 st7 hh7
      subst l7 y7 z7 hL7
      have NA7 := Fr.app N0 (Fr.nil n0)
      rcases hv7 with ⟨rfl, hq⟩ | ⟨rfl, hq⟩
      · skip
        refine Go.back (t' := (T7.setTop (mkF m 25 #[.val (.ref a), .val (.ref b)] [(.int (1 : Int32))]))) (fun u k => st7.trans k) ?_
        refine Go.back (t' := (T7.setTop (mkF m 33 #[.val (.ref a), .val (.ref b)] [(.int (1 : Int32))]))) (fun u k => XS.ifNo X7.here hx rfl (hb hby own_d8_25) rfl (XT.i0_eq_f (by decide)) (XT.iconstV X7.here hx rfl (1 : Int32) (hb hby own_d8_28) (by decide) (XS.goto X7.here hx rfl (pc0 := 29) (pc' := 33) rfl (hb hby own_d8_29) (by decide) (by decide) k))) ?_
        obtain ⟨fs, hr, hrun, hended, hW, hsame⟩ := X7.leave (v := some (.int (1 : Int32))) (fun h => by rw [Bd.returns] at h; cases h)
        refine ⟨_, _, retN X7 hx (t := .boolean) Bd.returns (by simp) (hb hby own_d8_33) hr, hrun, hended, _, _, rfl, ?_, ⟨_, rfl⟩, hW, hsame.mono (by decide) (by decide)⟩
        show Q_own_ms Z a b zA zB sx sy tx ty gC cs ds kx ky h0 n0 _ T7.heap _
        rw [hh7]
        exact ⟨(by simp only [F_ms, if_pos hc2, if_pos hc4, if_pos hq]), NA7, rfl⟩
      · skip
        refine Go.back (t' := (T7.setTop (mkF m 25 #[.val (.ref a), .val (.ref b)] [(.int (0 : Int32))]))) (fun u k => st7.trans k) ?_
        refine Go.back (t' := (T7.setTop (mkF m 33 #[.val (.ref a), .val (.ref b)] [(.int (0 : Int32))]))) (fun u k => XS.ifYes X7.here hx rfl (pc0 := 25) (pc' := 32) rfl (hb hby own_d8_25) rfl (XT.i0_eq_t (by decide)) (by decide) (by decide) (XT.iconstV X7.here hx rfl (0 : Int32) (hb hby own_d8_32) (by decide) k)) ?_
        obtain ⟨fs, hr, hrun, hended, hW, hsame⟩ := X7.leave (v := some (.int (0 : Int32))) (fun h => by rw [Bd.returns] at h; cases h)
        refine ⟨_, _, retN X7 hx (t := .boolean) Bd.returns (by simp) (hb hby own_d8_33) hr, hrun, hended, _, _, rfl, ?_, ⟨_, rfl⟩, hW, hsame.mono (by decide) (by decide)⟩
        show Q_own_ms Z a b zA zB sx sy tx ty gC cs ds kx ky h0 n0 _ T7.heap _
        rw [hh7]
        exact ⟨(by simp only [F_ms, if_pos hc2, if_pos hc4, if_neg hq]), NA7, rfl⟩
    · skip
      refine Go.back (t' := (T3.setTop (mkF m 33 #[.val (.ref a), .val (.ref b)] [(.int (0 : Int32))]))) (fun u k => XS.ifYes X3.here hx rfl (pc0 := 11) (pc' := 32) rfl (hb hby own_d8_11) rfl (XT.i0_ne_t hc4) (by decide) (by decide) (XT.iconstV X3.here hx rfl (0 : Int32) (hb hby own_d8_32) (by decide) k)) ?_
      obtain ⟨fs, hr, hrun, hended, hW, hsame⟩ := X3.leave (v := some (.int (0 : Int32))) (fun h => by rw [Bd.returns] at h; cases h)
      refine ⟨_, _, retN X3 hx (t := .boolean) Bd.returns (by simp) (hb hby own_d8_33) hr, hrun, hended, _, _, rfl, ?_, ⟨_, rfl⟩, hW, hsame.mono (by decide) (by decide)⟩
      show Q_own_ms Z a b zA zB sx sy tx ty gC cs ds kx ky h0 n0 _ T3.heap _
      rw [e3]
      exact ⟨(by simp only [F_ms, if_pos hc2, if_neg hc4]), N0, rfl⟩
  · skip
    refine Go.back (t' := (T1.setTop (mkF m 33 #[.val (.ref a), .val (.ref b)] [(.int (0 : Int32))]))) (fun u k => XS.ifYes X1.here hx rfl (pc0 := 4) (pc' := 32) rfl (hb hby own_d8_4) rfl (XT.i0_ne_t hc2) (by decide) (by decide) (XT.iconstV X1.here hx rfl (0 : Int32) (hb hby own_d8_32) (by decide) k)) ?_
    obtain ⟨fs, hr, hrun, hended, hW, hsame⟩ := X1.leave (v := some (.int (0 : Int32))) (fun h => by rw [Bd.returns] at h; cases h)
    refine ⟨_, _, retN X1 hx (t := .boolean) Bd.returns (by simp) (hb hby own_d8_33) hr, hrun, hended, _, _, rfl, ?_, ⟨_, rfl⟩, hW, hsame.mono (by decide) (by decide)⟩
    show Q_own_ms Z a b zA zB sx sy tx ty gC cs ds kx ky h0 n0 _ T1.heap _
    rw [e1]
    exact ⟨(by simp only [F_ms, if_neg hc2]), N0, rfl⟩
theorem own_pd5 : parseMethodDescriptor "(ICCC)Ljava/lang/String;" = some ⟨[.int, .char, .char, .char], some (.object "java/lang/String")⟩ := by decide +kernel
theorem own_pd6 : parseMethodDescriptor "(ZLjava/lang/String;)V" = some ⟨[.boolean, (.object "java/lang/String")], none⟩ := by decide +kernel
theorem own_pd7 : parseMethodDescriptor "(Lcom/example/norn/norn/http/EntityTag;)Z" = some ⟨[(.object "com/example/norn/norn/http/EntityTag")], some .boolean⟩ := by decide +kernel
theorem own_ef_own_law0 (m : MethodId) (x0 : Int32) (x1 : Int32) (x2 : Int32) : entryFrame m #[(.int x0), (.int x1), (.int x2)] maxLocals = mkF m 0 #[.val (.int x0), .val (.int x1), .val (.int x2), .unset, .unset, .unset, .unset, .unset, .unset, .unset, .unset, .unset, .unset, .unset, .unset, .unset, .unset, .unset, .unset] [] := by first | (simp [entryFrame, mkF, argsToLocals, Value.category, maxLocals]; done) | rfl
def Q_own_law0 (Z : State) (p0 : Int32) (p1 : Int32) (p2 : Int32) (gC : Int32) (h0 : Heap) (n0 : Nat) (v : Option Value) (h : Heap) (L : List Loc) : Prop := v = some (.int 1) ∧ Fr n0 L ∧ Keep h0 h []
set_option maxRecDepth 65536 in
set_option maxHeartbeats 40000000 in
theorem own_law0 (l : Launch) (Z : State) (a0 : Array Value) (hw : ∀ d ∈ tables_1, d.before a0 Z = true) (ws : List Jvm.Cond) (p0 : Int32) (p1 : Int32) (p2 : Int32) (gC : Int32) (h0 : Heap) (n0 : Nat) (Z0 : n0 ≤ h0.size) (Old0 : Old Z n0 h0) (SCS : Sta Z Z.heap "java/lang/String" "COMPACT_STRINGS" "Z" (.int gC)) (P5 : ¬ gC = 0) :
    MetFree l x (head1 (Jvm.Cond.code x code maxLocals ret :: ws) room_1) (fun as_ U => as_ = #[(.int p0), (.int p1), (.int p2)] ∧ Z.Warmed39 U.vm ∧ U.heap = h0 ∧ CHv Z own_EL U.vm h0) (fun _ _ _ _ _ => True) (fun _ U o U' => ∃ v L, o = .returned v ∧ Q_own_law0 Z p0 p1 p2 gC h0 n0 v U'.heap L ∧ ReturnedEndW U o U' L 32 2176) := by
  refine MetFree.of_bodySF (plainFor_of_name own_pn1) hisR ?_
  intro p e s m args below meth c s₁ Bd hml0 hP hK
  obtain ⟨rfl, hZ, hh, hCH⟩ := hP
  have R0 := CHr.refl hCH
  have hEL : EW Z a0 own_EL := own_hEL hw
  have hx := Bd.exec
  have hby := Bd.bytes
  have hml : c.maxLocals = 19 := hml0
  have hown : s.vm.findClass "com/example/norn/norn/http/EntityTagMatchesStronglyPinLaw" = some m.cls := findClass_of_methodNamed Bd.named
  have hnm := (name_of_methodNamed Bd.named Bd.method).1
  have X0 : Stand p l e room_1 s m #[(.int p0), (.int p1), (.int p2)] below meth c s₁ [] 0 0 := Stand.of_body Bd
  have e0 : s₁.heap = h0 := by rw [← hh, Bd.state]; rfl
  have N0 := Fr.nil n0
  have K0 := Keep.refl h0 []
  have hS0 : s.Since s.vm s.heap.size := (State.WarmedH.refl s).since _
  have hk0 : s.heap.size ≤ h0.size := by rw [hh]; exact Nat.le_refl _
  show Go p e below (own_FW s below (Q_own_law0 Z p0 p1 p2 gC h0 n0) 32 2176) (s₁.setTop (entryFrame m #[(.int p0), (.int p1), (.int p2)] maxLocals))
  rw [own_ef_own_law0 m p0 p1 p2]
  have sg1 : ∀ u, Steps p.tables e below (s₁.setTop (mkF m 11 #[.val (.int p0), .val (.int p1), .val (.int p2), .unset, .unset, .unset, .unset, .unset, .unset, .unset, .unset, .unset, .unset, .unset, .unset, .unset, .unset, .unset, .unset] [(.int (if (p0 &&& (1 : Int32)) = (0 : Int32) then (0 : Int32) else (1 : Int32)))])) u → Steps p.tables e below (s₁.setTop (mkF m 0 #[.val (.int p0), .val (.int p1), .val (.int p2), .unset, .unset, .unset, .unset, .unset, .unset, .unset, .unset, .unset, .unset, .unset, .unset, .unset, .unset, .unset, .unset] [])) u := by
    intro u k
    refine XS.iloadN X0.here hx rfl (hb hby at_0) rfl ?_
    show Steps p.tables e below (s₁.setTop (mkF m 1 #[.val (.int p0), .val (.int p1), .val (.int p2), .unset, .unset, .unset, .unset, .unset, .unset, .unset, .unset, .unset, .unset, .unset, .unset, .unset, .unset, .unset, .unset] [(.int p0)])) u
    refine XT.iconstV X0.here hx rfl (1 : Int32) (hb hby at_1) (by decide) ?_
    show Steps p.tables e below (s₁.setTop (mkF m 2 #[.val (.int p0), .val (.int p1), .val (.int p2), .unset, .unset, .unset, .unset, .unset, .unset, .unset, .unset, .unset, .unset, .unset, .unset, .unset, .unset, .unset, .unset] [(.int (1 : Int32)), (.int p0)])) u
    refine XS.iand X0.here hx rfl (hb hby at_2) rfl ?_
    show Steps p.tables e below (s₁.setTop (mkF m 3 #[.val (.int p0), .val (.int p1), .val (.int p2), .unset, .unset, .unset, .unset, .unset, .unset, .unset, .unset, .unset, .unset, .unset, .unset, .unset, .unset, .unset, .unset] [(.int (p0 &&& (1 : Int32)))])) u
    by_cases hc2 : (p0 &&& (1 : Int32)) = (0 : Int32)
    · skip
      refine XS.ifYes X0.here hx rfl (pc0 := 3) (pc' := 10) rfl (hb hby at_3) rfl (XT.i0_eq_t hc2) (by decide) (by decide) ?_
      show Steps p.tables e below (s₁.setTop (mkF m 10 #[.val (.int p0), .val (.int p1), .val (.int p2), .unset, .unset, .unset, .unset, .unset, .unset, .unset, .unset, .unset, .unset, .unset, .unset, .unset, .unset, .unset, .unset] [])) u
      refine XT.iconstV X0.here hx rfl (0 : Int32) (hb hby at_10) (by decide) ?_
      show Steps p.tables e below (s₁.setTop (mkF m 11 #[.val (.int p0), .val (.int p1), .val (.int p2), .unset, .unset, .unset, .unset, .unset, .unset, .unset, .unset, .unset, .unset, .unset, .unset, .unset, .unset, .unset, .unset] [(.int (0 : Int32))])) u
      try simp only [if_pos hc2] at k
      exact k
    · skip
      refine XS.ifNo X0.here hx rfl (hb hby at_3) rfl (XT.i0_eq_f hc2) ?_
      show Steps p.tables e below (s₁.setTop (mkF m 6 #[.val (.int p0), .val (.int p1), .val (.int p2), .unset, .unset, .unset, .unset, .unset, .unset, .unset, .unset, .unset, .unset, .unset, .unset, .unset, .unset, .unset, .unset] [])) u
      refine XT.iconstV X0.here hx rfl (1 : Int32) (hb hby at_6) (by decide) ?_
      show Steps p.tables e below (s₁.setTop (mkF m 7 #[.val (.int p0), .val (.int p1), .val (.int p2), .unset, .unset, .unset, .unset, .unset, .unset, .unset, .unset, .unset, .unset, .unset, .unset, .unset, .unset, .unset, .unset] [(.int (1 : Int32))])) u
      refine XS.goto X0.here hx rfl (pc0 := 7) (pc' := 11) rfl (hb hby at_7) (by decide) (by decide) ?_
      show Steps p.tables e below (s₁.setTop (mkF m 11 #[.val (.int p0), .val (.int p1), .val (.int p2), .unset, .unset, .unset, .unset, .unset, .unset, .unset, .unset, .unset, .unset, .unset, .unset, .unset, .unset, .unset, .unset] [(.int (1 : Int32))])) u
      try simp only [if_neg hc2] at k
      exact k
  refine Go.back (t' := (s₁.setTop (mkF m 11 #[.val (.int p0), .val (.int p1), .val (.int p2), .unset, .unset, .unset, .unset, .unset, .unset, .unset, .unset, .unset, .unset, .unset, .unset, .unset, .unset, .unset, .unset] [(.int (if (p0 &&& (1 : Int32)) = (0 : Int32) then (0 : Int32) else (1 : Int32)))]))) sg1 ?_
  obtain ⟨zA, h_zA⟩ : ∃ z : Int32, z = (if (p0 &&& (1 : Int32)) = (0 : Int32) then (0 : Int32) else (1 : Int32)) := ⟨_, rfl⟩
  rw [← h_zA]
  have bit_zA : zA = 0 ∨ zA = 1 := by rw [h_zA]; repeat (split <;> try simp)
  refine Go.back (t' := (s₁.setTop (mkF m 12 #[.val (.int p0), .val (.int p1), .val (.int p2), .val (.int zA), .unset, .unset, .unset, .unset, .unset, .unset, .unset, .unset, .unset, .unset, .unset, .unset, .unset, .unset, .unset] []))) (fun u k => XS.istoreN X0.here hx rfl (hb hby at_11) rfl (l' := #[.val (.int p0), .val (.int p1), .val (.int p2), .val (.int zA), .unset, .unset, .unset, .unset, .unset, .unset, .unset, .unset, .unset, .unset, .unset, .unset, .unset, .unset, .unset]) rfl k) ?_
  have sg3 : ∀ u, Steps p.tables e below (s₁.setTop (mkF m 23 #[.val (.int p0), .val (.int p1), .val (.int p2), .val (.int zA), .unset, .unset, .unset, .unset, .unset, .unset, .unset, .unset, .unset, .unset, .unset, .unset, .unset, .unset, .unset] [(.int (if (p0 &&& (2 : Int32)) = (0 : Int32) then (0 : Int32) else (1 : Int32)))])) u → Steps p.tables e below (s₁.setTop (mkF m 12 #[.val (.int p0), .val (.int p1), .val (.int p2), .val (.int zA), .unset, .unset, .unset, .unset, .unset, .unset, .unset, .unset, .unset, .unset, .unset, .unset, .unset, .unset, .unset] [])) u := by
    intro u k
    refine XS.iloadN X0.here hx rfl (hb hby at_12) rfl ?_
    show Steps p.tables e below (s₁.setTop (mkF m 13 #[.val (.int p0), .val (.int p1), .val (.int p2), .val (.int zA), .unset, .unset, .unset, .unset, .unset, .unset, .unset, .unset, .unset, .unset, .unset, .unset, .unset, .unset, .unset] [(.int p0)])) u
    refine XT.iconstV X0.here hx rfl (2 : Int32) (hb hby at_13) (by decide) ?_
    show Steps p.tables e below (s₁.setTop (mkF m 14 #[.val (.int p0), .val (.int p1), .val (.int p2), .val (.int zA), .unset, .unset, .unset, .unset, .unset, .unset, .unset, .unset, .unset, .unset, .unset, .unset, .unset, .unset, .unset] [(.int (2 : Int32)), (.int p0)])) u
    refine XS.iand X0.here hx rfl (hb hby at_14) rfl ?_
    show Steps p.tables e below (s₁.setTop (mkF m 15 #[.val (.int p0), .val (.int p1), .val (.int p2), .val (.int zA), .unset, .unset, .unset, .unset, .unset, .unset, .unset, .unset, .unset, .unset, .unset, .unset, .unset, .unset, .unset] [(.int (p0 &&& (2 : Int32)))])) u
    by_cases hc4 : (p0 &&& (2 : Int32)) = (0 : Int32)
    · skip
      refine XS.ifYes X0.here hx rfl (pc0 := 15) (pc' := 22) rfl (hb hby at_15) rfl (XT.i0_eq_t hc4) (by decide) (by decide) ?_
      show Steps p.tables e below (s₁.setTop (mkF m 22 #[.val (.int p0), .val (.int p1), .val (.int p2), .val (.int zA), .unset, .unset, .unset, .unset, .unset, .unset, .unset, .unset, .unset, .unset, .unset, .unset, .unset, .unset, .unset] [])) u
      refine XT.iconstV X0.here hx rfl (0 : Int32) (hb hby at_22) (by decide) ?_
      show Steps p.tables e below (s₁.setTop (mkF m 23 #[.val (.int p0), .val (.int p1), .val (.int p2), .val (.int zA), .unset, .unset, .unset, .unset, .unset, .unset, .unset, .unset, .unset, .unset, .unset, .unset, .unset, .unset, .unset] [(.int (0 : Int32))])) u
      try simp only [if_pos hc4] at k
      exact k
    · skip
      refine XS.ifNo X0.here hx rfl (hb hby at_15) rfl (XT.i0_eq_f hc4) ?_
      show Steps p.tables e below (s₁.setTop (mkF m 18 #[.val (.int p0), .val (.int p1), .val (.int p2), .val (.int zA), .unset, .unset, .unset, .unset, .unset, .unset, .unset, .unset, .unset, .unset, .unset, .unset, .unset, .unset, .unset] [])) u
      refine XT.iconstV X0.here hx rfl (1 : Int32) (hb hby at_18) (by decide) ?_
      show Steps p.tables e below (s₁.setTop (mkF m 19 #[.val (.int p0), .val (.int p1), .val (.int p2), .val (.int zA), .unset, .unset, .unset, .unset, .unset, .unset, .unset, .unset, .unset, .unset, .unset, .unset, .unset, .unset, .unset] [(.int (1 : Int32))])) u
      refine XS.goto X0.here hx rfl (pc0 := 19) (pc' := 23) rfl (hb hby at_19) (by decide) (by decide) ?_
      show Steps p.tables e below (s₁.setTop (mkF m 23 #[.val (.int p0), .val (.int p1), .val (.int p2), .val (.int zA), .unset, .unset, .unset, .unset, .unset, .unset, .unset, .unset, .unset, .unset, .unset, .unset, .unset, .unset, .unset] [(.int (1 : Int32))])) u
      try simp only [if_neg hc4] at k
      exact k
  refine Go.back (t' := (s₁.setTop (mkF m 23 #[.val (.int p0), .val (.int p1), .val (.int p2), .val (.int zA), .unset, .unset, .unset, .unset, .unset, .unset, .unset, .unset, .unset, .unset, .unset, .unset, .unset, .unset, .unset] [(.int (if (p0 &&& (2 : Int32)) = (0 : Int32) then (0 : Int32) else (1 : Int32)))]))) sg3 ?_
  obtain ⟨zB, h_zB⟩ : ∃ z : Int32, z = (if (p0 &&& (2 : Int32)) = (0 : Int32) then (0 : Int32) else (1 : Int32)) := ⟨_, rfl⟩
  rw [← h_zB]
  have bit_zB : zB = 0 ∨ zB = 1 := by rw [h_zB]; repeat (split <;> try simp)
  refine Go.back (t' := (s₁.setTop (mkF m 30 #[.val (.int p0), .val (.int p1), .val (.int p2), .val (.int zA), .val (.int zB), .unset, .unset, .unset, .unset, .unset, .unset, .unset, .unset, .unset, .unset, .unset, .unset, .unset, .unset] [(.int ((XT.ushr p0 (2 : Int32)) &&& (3 : Int32)))]))) (fun u k => XS.istore X0.here hx rfl (hb hby at_23) rfl (l' := #[.val (.int p0), .val (.int p1), .val (.int p2), .val (.int zA), .val (.int zB), .unset, .unset, .unset, .unset, .unset, .unset, .unset, .unset, .unset, .unset, .unset, .unset, .unset, .unset]) rfl (XS.iloadN X0.here hx rfl (hb hby at_25) rfl (XT.iconstV X0.here hx rfl (2 : Int32) (hb hby at_26) (by decide) (XT.iushr X0.here hx rfl (hb hby at_27) rfl (XT.iconstV X0.here hx rfl (3 : Int32) (hb hby at_28) (by decide) (XS.iand X0.here hx rfl (hb hby at_29) rfl k)))))) ?_
  obtain ⟨la, h_la⟩ : ∃ z : Int32, z = ((XT.ushr p0 (2 : Int32)) &&& (3 : Int32)) := ⟨_, rfl⟩
  rw [← h_la]
  refine Go.back (t' := (s₁.setTop (mkF m 32 #[.val (.int p0), .val (.int p1), .val (.int p2), .val (.int zA), .val (.int zB), .val (.int la), .unset, .unset, .unset, .unset, .unset, .unset, .unset, .unset, .unset, .unset, .unset, .unset, .unset] []))) (fun u k => XS.istore X0.here hx rfl (hb hby at_30) rfl (l' := #[.val (.int p0), .val (.int p1), .val (.int p2), .val (.int zA), .val (.int zB), .val (.int la), .unset, .unset, .unset, .unset, .unset, .unset, .unset, .unset, .unset, .unset, .unset, .unset, .unset]) rfl k) ?_
  have sg5 : ∀ u, Steps p.tables e below (s₁.setTop (mkF m 49 #[.val (.int p0), .val (.int p1), .val (.int p2), .val (.int zA), .val (.int zB), .val (.int la), .unset, .unset, .unset, .unset, .unset, .unset, .unset, .unset, .unset, .unset, .unset, .unset, .unset] [(.int (if (p0 &&& (16 : Int32)) = (0 : Int32) then ((XT.ushr p0 (5 : Int32)) &&& (3 : Int32)) else la))])) u → Steps p.tables e below (s₁.setTop (mkF m 32 #[.val (.int p0), .val (.int p1), .val (.int p2), .val (.int zA), .val (.int zB), .val (.int la), .unset, .unset, .unset, .unset, .unset, .unset, .unset, .unset, .unset, .unset, .unset, .unset, .unset] [])) u := by
    intro u k
    refine XS.iloadN X0.here hx rfl (hb hby at_32) rfl ?_
    show Steps p.tables e below (s₁.setTop (mkF m 33 #[.val (.int p0), .val (.int p1), .val (.int p2), .val (.int zA), .val (.int zB), .val (.int la), .unset, .unset, .unset, .unset, .unset, .unset, .unset, .unset, .unset, .unset, .unset, .unset, .unset] [(.int p0)])) u
    refine XT.bipushV X0.here hx rfl (16 : Int32) (hb hby at_33) (by decide) ?_
    show Steps p.tables e below (s₁.setTop (mkF m 35 #[.val (.int p0), .val (.int p1), .val (.int p2), .val (.int zA), .val (.int zB), .val (.int la), .unset, .unset, .unset, .unset, .unset, .unset, .unset, .unset, .unset, .unset, .unset, .unset, .unset] [(.int (16 : Int32)), (.int p0)])) u
    refine XS.iand X0.here hx rfl (hb hby at_35) rfl ?_
    show Steps p.tables e below (s₁.setTop (mkF m 36 #[.val (.int p0), .val (.int p1), .val (.int p2), .val (.int zA), .val (.int zB), .val (.int la), .unset, .unset, .unset, .unset, .unset, .unset, .unset, .unset, .unset, .unset, .unset, .unset, .unset] [(.int (p0 &&& (16 : Int32)))])) u
    by_cases hc6 : (p0 &&& (16 : Int32)) = (0 : Int32)
    · skip
      refine XS.ifYes X0.here hx rfl (pc0 := 36) (pc' := 44) rfl (hb hby at_36) rfl (XT.i0_eq_t hc6) (by decide) (by decide) ?_
      show Steps p.tables e below (s₁.setTop (mkF m 44 #[.val (.int p0), .val (.int p1), .val (.int p2), .val (.int zA), .val (.int zB), .val (.int la), .unset, .unset, .unset, .unset, .unset, .unset, .unset, .unset, .unset, .unset, .unset, .unset, .unset] [])) u
      refine XS.iloadN X0.here hx rfl (hb hby at_44) rfl ?_
      show Steps p.tables e below (s₁.setTop (mkF m 45 #[.val (.int p0), .val (.int p1), .val (.int p2), .val (.int zA), .val (.int zB), .val (.int la), .unset, .unset, .unset, .unset, .unset, .unset, .unset, .unset, .unset, .unset, .unset, .unset, .unset] [(.int p0)])) u
      refine XT.iconstV X0.here hx rfl (5 : Int32) (hb hby at_45) (by decide) ?_
      show Steps p.tables e below (s₁.setTop (mkF m 46 #[.val (.int p0), .val (.int p1), .val (.int p2), .val (.int zA), .val (.int zB), .val (.int la), .unset, .unset, .unset, .unset, .unset, .unset, .unset, .unset, .unset, .unset, .unset, .unset, .unset] [(.int (5 : Int32)), (.int p0)])) u
      refine XT.iushr X0.here hx rfl (hb hby at_46) rfl ?_
      show Steps p.tables e below (s₁.setTop (mkF m 47 #[.val (.int p0), .val (.int p1), .val (.int p2), .val (.int zA), .val (.int zB), .val (.int la), .unset, .unset, .unset, .unset, .unset, .unset, .unset, .unset, .unset, .unset, .unset, .unset, .unset] [(.int (XT.ushr p0 (5 : Int32)))])) u
      refine XT.iconstV X0.here hx rfl (3 : Int32) (hb hby at_47) (by decide) ?_
      show Steps p.tables e below (s₁.setTop (mkF m 48 #[.val (.int p0), .val (.int p1), .val (.int p2), .val (.int zA), .val (.int zB), .val (.int la), .unset, .unset, .unset, .unset, .unset, .unset, .unset, .unset, .unset, .unset, .unset, .unset, .unset] [(.int (3 : Int32)), (.int (XT.ushr p0 (5 : Int32)))])) u
      refine XS.iand X0.here hx rfl (hb hby at_48) rfl ?_
      show Steps p.tables e below (s₁.setTop (mkF m 49 #[.val (.int p0), .val (.int p1), .val (.int p2), .val (.int zA), .val (.int zB), .val (.int la), .unset, .unset, .unset, .unset, .unset, .unset, .unset, .unset, .unset, .unset, .unset, .unset, .unset] [(.int ((XT.ushr p0 (5 : Int32)) &&& (3 : Int32)))])) u
      try simp only [if_pos hc6] at k
      exact k
    · skip
      refine XS.ifNo X0.here hx rfl (hb hby at_36) rfl (XT.i0_eq_f hc6) ?_
      show Steps p.tables e below (s₁.setTop (mkF m 39 #[.val (.int p0), .val (.int p1), .val (.int p2), .val (.int zA), .val (.int zB), .val (.int la), .unset, .unset, .unset, .unset, .unset, .unset, .unset, .unset, .unset, .unset, .unset, .unset, .unset] [])) u
      refine XS.iload X0.here hx rfl (hb hby at_39) rfl ?_
      show Steps p.tables e below (s₁.setTop (mkF m 41 #[.val (.int p0), .val (.int p1), .val (.int p2), .val (.int zA), .val (.int zB), .val (.int la), .unset, .unset, .unset, .unset, .unset, .unset, .unset, .unset, .unset, .unset, .unset, .unset, .unset] [(.int la)])) u
      refine XS.goto X0.here hx rfl (pc0 := 41) (pc' := 49) rfl (hb hby at_41) (by decide) (by decide) ?_
      show Steps p.tables e below (s₁.setTop (mkF m 49 #[.val (.int p0), .val (.int p1), .val (.int p2), .val (.int zA), .val (.int zB), .val (.int la), .unset, .unset, .unset, .unset, .unset, .unset, .unset, .unset, .unset, .unset, .unset, .unset, .unset] [(.int la)])) u
      try simp only [if_neg hc6] at k
      exact k
  refine Go.back (t' := (s₁.setTop (mkF m 49 #[.val (.int p0), .val (.int p1), .val (.int p2), .val (.int zA), .val (.int zB), .val (.int la), .unset, .unset, .unset, .unset, .unset, .unset, .unset, .unset, .unset, .unset, .unset, .unset, .unset] [(.int (if (p0 &&& (16 : Int32)) = (0 : Int32) then ((XT.ushr p0 (5 : Int32)) &&& (3 : Int32)) else la))]))) sg5 ?_
  obtain ⟨lb, h_lb⟩ : ∃ z : Int32, z = (if (p0 &&& (16 : Int32)) = (0 : Int32) then ((XT.ushr p0 (5 : Int32)) &&& (3 : Int32)) else la) := ⟨_, rfl⟩
  rw [← h_lb]
  refine Go.back (t' := (s₁.setTop (mkF m 57 #[.val (.int p0), .val (.int p1), .val (.int p2), .val (.int zA), .val (.int zB), .val (.int la), .val (.int lb), .unset, .unset, .unset, .unset, .unset, .unset, .unset, .unset, .unset, .unset, .unset, .unset] [(.int ((p1 &&& (255 : Int32)).toUInt32.toUInt16.toUInt32.toInt32))]))) (fun u k => XS.istore X0.here hx rfl (hb hby at_49) rfl (l' := #[.val (.int p0), .val (.int p1), .val (.int p2), .val (.int zA), .val (.int zB), .val (.int la), .val (.int lb), .unset, .unset, .unset, .unset, .unset, .unset, .unset, .unset, .unset, .unset, .unset, .unset]) rfl (XS.iloadN X0.here hx rfl (hb hby at_51) rfl (XT.sipushV X0.here hx rfl (255 : Int32) (hb hby at_52) (by decide) (XS.iand X0.here hx rfl (hb hby at_55) rfl (XT.i2c X0.here hx rfl (hb hby at_56) rfl k))))) ?_
  have rw7 : ((p1 &&& (255 : Int32)).toUInt32.toUInt16.toUInt32.toInt32) = (p1 &&& (255 : Int32)) := i2c_mask _
  rw [rw7]
  obtain ⟨ca0, h_ca0⟩ : ∃ z : Int32, z = (p1 &&& (255 : Int32)) := ⟨_, rfl⟩
  rw [← h_ca0]
  refine Go.back (t' := (s₁.setTop (mkF m 67 #[.val (.int p0), .val (.int p1), .val (.int p2), .val (.int zA), .val (.int zB), .val (.int la), .val (.int lb), .val (.int ca0), .unset, .unset, .unset, .unset, .unset, .unset, .unset, .unset, .unset, .unset, .unset] [(.int ((XT.ushr p1 (8 : Int32)) &&& (255 : Int32)))]))) (fun u k => XS.istore X0.here hx rfl (hb hby at_57) rfl (l' := #[.val (.int p0), .val (.int p1), .val (.int p2), .val (.int zA), .val (.int zB), .val (.int la), .val (.int lb), .val (.int ca0), .unset, .unset, .unset, .unset, .unset, .unset, .unset, .unset, .unset, .unset, .unset]) rfl (XS.iloadN X0.here hx rfl (hb hby at_59) rfl (XT.bipushV X0.here hx rfl (8 : Int32) (hb hby at_60) (by decide) (XT.iushr X0.here hx rfl (hb hby at_62) rfl (XT.sipushV X0.here hx rfl (255 : Int32) (hb hby at_63) (by decide) (XS.iand X0.here hx rfl (hb hby at_66) rfl k)))))) ?_
  refine Go.back (t' := (s₁.setTop (mkF m 68 #[.val (.int p0), .val (.int p1), .val (.int p2), .val (.int zA), .val (.int zB), .val (.int la), .val (.int lb), .val (.int ca0), .unset, .unset, .unset, .unset, .unset, .unset, .unset, .unset, .unset, .unset, .unset] [(.int (((XT.ushr p1 (8 : Int32)) &&& (255 : Int32)).toUInt32.toUInt16.toUInt32.toInt32))]))) (fun u k => XT.i2c X0.here hx rfl (hb hby at_67) rfl k) ?_
  have rw8 : (((XT.ushr p1 (8 : Int32)) &&& (255 : Int32)).toUInt32.toUInt16.toUInt32.toInt32) = ((XT.ushr p1 (8 : Int32)) &&& (255 : Int32)) := i2c_mask _
  rw [rw8]
  obtain ⟨ca1, h_ca1⟩ : ∃ z : Int32, z = ((XT.ushr p1 (8 : Int32)) &&& (255 : Int32)) := ⟨_, rfl⟩
  rw [← h_ca1]
  refine Go.back (t' := (s₁.setTop (mkF m 78 #[.val (.int p0), .val (.int p1), .val (.int p2), .val (.int zA), .val (.int zB), .val (.int la), .val (.int lb), .val (.int ca0), .val (.int ca1), .unset, .unset, .unset, .unset, .unset, .unset, .unset, .unset, .unset, .unset] [(.int ((XT.ushr p1 (16 : Int32)) &&& (255 : Int32)))]))) (fun u k => XS.istore X0.here hx rfl (hb hby at_68) rfl (l' := #[.val (.int p0), .val (.int p1), .val (.int p2), .val (.int zA), .val (.int zB), .val (.int la), .val (.int lb), .val (.int ca0), .val (.int ca1), .unset, .unset, .unset, .unset, .unset, .unset, .unset, .unset, .unset, .unset]) rfl (XS.iloadN X0.here hx rfl (hb hby at_70) rfl (XT.bipushV X0.here hx rfl (16 : Int32) (hb hby at_71) (by decide) (XT.iushr X0.here hx rfl (hb hby at_73) rfl (XT.sipushV X0.here hx rfl (255 : Int32) (hb hby at_74) (by decide) (XS.iand X0.here hx rfl (hb hby at_77) rfl k)))))) ?_
  refine Go.back (t' := (s₁.setTop (mkF m 79 #[.val (.int p0), .val (.int p1), .val (.int p2), .val (.int zA), .val (.int zB), .val (.int la), .val (.int lb), .val (.int ca0), .val (.int ca1), .unset, .unset, .unset, .unset, .unset, .unset, .unset, .unset, .unset, .unset] [(.int (((XT.ushr p1 (16 : Int32)) &&& (255 : Int32)).toUInt32.toUInt16.toUInt32.toInt32))]))) (fun u k => XT.i2c X0.here hx rfl (hb hby at_78) rfl k) ?_
  have rw9 : (((XT.ushr p1 (16 : Int32)) &&& (255 : Int32)).toUInt32.toUInt16.toUInt32.toInt32) = ((XT.ushr p1 (16 : Int32)) &&& (255 : Int32)) := i2c_mask _
  rw [rw9]
  obtain ⟨ca2, h_ca2⟩ : ∃ z : Int32, z = ((XT.ushr p1 (16 : Int32)) &&& (255 : Int32)) := ⟨_, rfl⟩
  rw [← h_ca2]
  refine Go.back (t' := (s₁.setTop (mkF m 81 #[.val (.int p0), .val (.int p1), .val (.int p2), .val (.int zA), .val (.int zB), .val (.int la), .val (.int lb), .val (.int ca0), .val (.int ca1), .val (.int ca2), .unset, .unset, .unset, .unset, .unset, .unset, .unset, .unset, .unset] []))) (fun u k => XS.istore X0.here hx rfl (hb hby at_79) rfl (l' := #[.val (.int p0), .val (.int p1), .val (.int p2), .val (.int zA), .val (.int zB), .val (.int la), .val (.int lb), .val (.int ca0), .val (.int ca1), .val (.int ca2), .unset, .unset, .unset, .unset, .unset, .unset, .unset, .unset, .unset]) rfl k) ?_
  have sg10 : ∀ u, Steps p.tables e below (s₁.setTop (mkF m 100 #[.val (.int p0), .val (.int p1), .val (.int p2), .val (.int zA), .val (.int zB), .val (.int la), .val (.int lb), .val (.int ca0), .val (.int ca1), .val (.int ca2), .unset, .unset, .unset, .unset, .unset, .unset, .unset, .unset, .unset] [(.int (if (p0 &&& (128 : Int32)) = (0 : Int32) then ((p2 &&& (255 : Int32)).toUInt32.toUInt16.toUInt32.toInt32) else ca0))])) u → Steps p.tables e below (s₁.setTop (mkF m 81 #[.val (.int p0), .val (.int p1), .val (.int p2), .val (.int zA), .val (.int zB), .val (.int la), .val (.int lb), .val (.int ca0), .val (.int ca1), .val (.int ca2), .unset, .unset, .unset, .unset, .unset, .unset, .unset, .unset, .unset] [])) u := by
    intro u k
    refine XS.iloadN X0.here hx rfl (hb hby at_81) rfl ?_
    show Steps p.tables e below (s₁.setTop (mkF m 82 #[.val (.int p0), .val (.int p1), .val (.int p2), .val (.int zA), .val (.int zB), .val (.int la), .val (.int lb), .val (.int ca0), .val (.int ca1), .val (.int ca2), .unset, .unset, .unset, .unset, .unset, .unset, .unset, .unset, .unset] [(.int p0)])) u
    refine XT.sipushV X0.here hx rfl (128 : Int32) (hb hby at_82) (by decide) ?_
    show Steps p.tables e below (s₁.setTop (mkF m 85 #[.val (.int p0), .val (.int p1), .val (.int p2), .val (.int zA), .val (.int zB), .val (.int la), .val (.int lb), .val (.int ca0), .val (.int ca1), .val (.int ca2), .unset, .unset, .unset, .unset, .unset, .unset, .unset, .unset, .unset] [(.int (128 : Int32)), (.int p0)])) u
    refine XS.iand X0.here hx rfl (hb hby at_85) rfl ?_
    show Steps p.tables e below (s₁.setTop (mkF m 86 #[.val (.int p0), .val (.int p1), .val (.int p2), .val (.int zA), .val (.int zB), .val (.int la), .val (.int lb), .val (.int ca0), .val (.int ca1), .val (.int ca2), .unset, .unset, .unset, .unset, .unset, .unset, .unset, .unset, .unset] [(.int (p0 &&& (128 : Int32)))])) u
    by_cases hc11 : (p0 &&& (128 : Int32)) = (0 : Int32)
    · skip
      refine XS.ifYes X0.here hx rfl (pc0 := 86) (pc' := 94) rfl (hb hby at_86) rfl (XT.i0_eq_t hc11) (by decide) (by decide) ?_
      show Steps p.tables e below (s₁.setTop (mkF m 94 #[.val (.int p0), .val (.int p1), .val (.int p2), .val (.int zA), .val (.int zB), .val (.int la), .val (.int lb), .val (.int ca0), .val (.int ca1), .val (.int ca2), .unset, .unset, .unset, .unset, .unset, .unset, .unset, .unset, .unset] [])) u
      refine XS.iloadN X0.here hx rfl (hb hby at_94) rfl ?_
      show Steps p.tables e below (s₁.setTop (mkF m 95 #[.val (.int p0), .val (.int p1), .val (.int p2), .val (.int zA), .val (.int zB), .val (.int la), .val (.int lb), .val (.int ca0), .val (.int ca1), .val (.int ca2), .unset, .unset, .unset, .unset, .unset, .unset, .unset, .unset, .unset] [(.int p2)])) u
      refine XT.sipushV X0.here hx rfl (255 : Int32) (hb hby at_95) (by decide) ?_
      show Steps p.tables e below (s₁.setTop (mkF m 98 #[.val (.int p0), .val (.int p1), .val (.int p2), .val (.int zA), .val (.int zB), .val (.int la), .val (.int lb), .val (.int ca0), .val (.int ca1), .val (.int ca2), .unset, .unset, .unset, .unset, .unset, .unset, .unset, .unset, .unset] [(.int (255 : Int32)), (.int p2)])) u
      refine XS.iand X0.here hx rfl (hb hby at_98) rfl ?_
      show Steps p.tables e below (s₁.setTop (mkF m 99 #[.val (.int p0), .val (.int p1), .val (.int p2), .val (.int zA), .val (.int zB), .val (.int la), .val (.int lb), .val (.int ca0), .val (.int ca1), .val (.int ca2), .unset, .unset, .unset, .unset, .unset, .unset, .unset, .unset, .unset] [(.int (p2 &&& (255 : Int32)))])) u
      refine XT.i2c X0.here hx rfl (hb hby at_99) rfl ?_
      show Steps p.tables e below (s₁.setTop (mkF m 100 #[.val (.int p0), .val (.int p1), .val (.int p2), .val (.int zA), .val (.int zB), .val (.int la), .val (.int lb), .val (.int ca0), .val (.int ca1), .val (.int ca2), .unset, .unset, .unset, .unset, .unset, .unset, .unset, .unset, .unset] [(.int ((p2 &&& (255 : Int32)).toUInt32.toUInt16.toUInt32.toInt32))])) u
      try simp only [if_pos hc11] at k
      exact k
    · skip
      refine XS.ifNo X0.here hx rfl (hb hby at_86) rfl (XT.i0_eq_f hc11) ?_
      show Steps p.tables e below (s₁.setTop (mkF m 89 #[.val (.int p0), .val (.int p1), .val (.int p2), .val (.int zA), .val (.int zB), .val (.int la), .val (.int lb), .val (.int ca0), .val (.int ca1), .val (.int ca2), .unset, .unset, .unset, .unset, .unset, .unset, .unset, .unset, .unset] [])) u
      refine XS.iload X0.here hx rfl (hb hby at_89) rfl ?_
      show Steps p.tables e below (s₁.setTop (mkF m 91 #[.val (.int p0), .val (.int p1), .val (.int p2), .val (.int zA), .val (.int zB), .val (.int la), .val (.int lb), .val (.int ca0), .val (.int ca1), .val (.int ca2), .unset, .unset, .unset, .unset, .unset, .unset, .unset, .unset, .unset] [(.int ca0)])) u
      refine XS.goto X0.here hx rfl (pc0 := 91) (pc' := 100) rfl (hb hby at_91) (by decide) (by decide) ?_
      show Steps p.tables e below (s₁.setTop (mkF m 100 #[.val (.int p0), .val (.int p1), .val (.int p2), .val (.int zA), .val (.int zB), .val (.int la), .val (.int lb), .val (.int ca0), .val (.int ca1), .val (.int ca2), .unset, .unset, .unset, .unset, .unset, .unset, .unset, .unset, .unset] [(.int ca0)])) u
      try simp only [if_neg hc11] at k
      exact k
  refine Go.back (t' := (s₁.setTop (mkF m 100 #[.val (.int p0), .val (.int p1), .val (.int p2), .val (.int zA), .val (.int zB), .val (.int la), .val (.int lb), .val (.int ca0), .val (.int ca1), .val (.int ca2), .unset, .unset, .unset, .unset, .unset, .unset, .unset, .unset, .unset] [(.int (if (p0 &&& (128 : Int32)) = (0 : Int32) then ((p2 &&& (255 : Int32)).toUInt32.toUInt16.toUInt32.toInt32) else ca0))]))) sg10 ?_
  obtain ⟨cb0, h_cb0⟩ : ∃ z : Int32, z = (if (p0 &&& (128 : Int32)) = (0 : Int32) then ((p2 &&& (255 : Int32)).toUInt32.toUInt16.toUInt32.toInt32) else ca0) := ⟨_, rfl⟩
  rw [← h_cb0]
  refine Go.back (t' := (s₁.setTop (mkF m 102 #[.val (.int p0), .val (.int p1), .val (.int p2), .val (.int zA), .val (.int zB), .val (.int la), .val (.int lb), .val (.int ca0), .val (.int ca1), .val (.int ca2), .val (.int cb0), .unset, .unset, .unset, .unset, .unset, .unset, .unset, .unset] []))) (fun u k => XS.istore X0.here hx rfl (hb hby at_100) rfl (l' := #[.val (.int p0), .val (.int p1), .val (.int p2), .val (.int zA), .val (.int zB), .val (.int la), .val (.int lb), .val (.int ca0), .val (.int ca1), .val (.int ca2), .val (.int cb0), .unset, .unset, .unset, .unset, .unset, .unset, .unset, .unset]) rfl k) ?_
  have sg12 : ∀ u, Steps p.tables e below (s₁.setTop (mkF m 124 #[.val (.int p0), .val (.int p1), .val (.int p2), .val (.int zA), .val (.int zB), .val (.int la), .val (.int lb), .val (.int ca0), .val (.int ca1), .val (.int ca2), .val (.int cb0), .unset, .unset, .unset, .unset, .unset, .unset, .unset, .unset] [(.int (if (p0 &&& (256 : Int32)) = (0 : Int32) then (((XT.ushr p2 (8 : Int32)) &&& (255 : Int32)).toUInt32.toUInt16.toUInt32.toInt32) else ca1))])) u → Steps p.tables e below (s₁.setTop (mkF m 102 #[.val (.int p0), .val (.int p1), .val (.int p2), .val (.int zA), .val (.int zB), .val (.int la), .val (.int lb), .val (.int ca0), .val (.int ca1), .val (.int ca2), .val (.int cb0), .unset, .unset, .unset, .unset, .unset, .unset, .unset, .unset] [])) u := by
    intro u k
    refine XS.iloadN X0.here hx rfl (hb hby at_102) rfl ?_
    show Steps p.tables e below (s₁.setTop (mkF m 103 #[.val (.int p0), .val (.int p1), .val (.int p2), .val (.int zA), .val (.int zB), .val (.int la), .val (.int lb), .val (.int ca0), .val (.int ca1), .val (.int ca2), .val (.int cb0), .unset, .unset, .unset, .unset, .unset, .unset, .unset, .unset] [(.int p0)])) u
    refine XT.sipushV X0.here hx rfl (256 : Int32) (hb hby at_103) (by decide) ?_
    show Steps p.tables e below (s₁.setTop (mkF m 106 #[.val (.int p0), .val (.int p1), .val (.int p2), .val (.int zA), .val (.int zB), .val (.int la), .val (.int lb), .val (.int ca0), .val (.int ca1), .val (.int ca2), .val (.int cb0), .unset, .unset, .unset, .unset, .unset, .unset, .unset, .unset] [(.int (256 : Int32)), (.int p0)])) u
    refine XS.iand X0.here hx rfl (hb hby at_106) rfl ?_
    show Steps p.tables e below (s₁.setTop (mkF m 107 #[.val (.int p0), .val (.int p1), .val (.int p2), .val (.int zA), .val (.int zB), .val (.int la), .val (.int lb), .val (.int ca0), .val (.int ca1), .val (.int ca2), .val (.int cb0), .unset, .unset, .unset, .unset, .unset, .unset, .unset, .unset] [(.int (p0 &&& (256 : Int32)))])) u
    by_cases hc13 : (p0 &&& (256 : Int32)) = (0 : Int32)
    · skip
      refine XS.ifYes X0.here hx rfl (pc0 := 107) (pc' := 115) rfl (hb hby at_107) rfl (XT.i0_eq_t hc13) (by decide) (by decide) ?_
      show Steps p.tables e below (s₁.setTop (mkF m 115 #[.val (.int p0), .val (.int p1), .val (.int p2), .val (.int zA), .val (.int zB), .val (.int la), .val (.int lb), .val (.int ca0), .val (.int ca1), .val (.int ca2), .val (.int cb0), .unset, .unset, .unset, .unset, .unset, .unset, .unset, .unset] [])) u
      refine XS.iloadN X0.here hx rfl (hb hby at_115) rfl ?_
      show Steps p.tables e below (s₁.setTop (mkF m 116 #[.val (.int p0), .val (.int p1), .val (.int p2), .val (.int zA), .val (.int zB), .val (.int la), .val (.int lb), .val (.int ca0), .val (.int ca1), .val (.int ca2), .val (.int cb0), .unset, .unset, .unset, .unset, .unset, .unset, .unset, .unset] [(.int p2)])) u
      refine XT.bipushV X0.here hx rfl (8 : Int32) (hb hby at_116) (by decide) ?_
      show Steps p.tables e below (s₁.setTop (mkF m 118 #[.val (.int p0), .val (.int p1), .val (.int p2), .val (.int zA), .val (.int zB), .val (.int la), .val (.int lb), .val (.int ca0), .val (.int ca1), .val (.int ca2), .val (.int cb0), .unset, .unset, .unset, .unset, .unset, .unset, .unset, .unset] [(.int (8 : Int32)), (.int p2)])) u
      refine XT.iushr X0.here hx rfl (hb hby at_118) rfl ?_
      show Steps p.tables e below (s₁.setTop (mkF m 119 #[.val (.int p0), .val (.int p1), .val (.int p2), .val (.int zA), .val (.int zB), .val (.int la), .val (.int lb), .val (.int ca0), .val (.int ca1), .val (.int ca2), .val (.int cb0), .unset, .unset, .unset, .unset, .unset, .unset, .unset, .unset] [(.int (XT.ushr p2 (8 : Int32)))])) u
      refine XT.sipushV X0.here hx rfl (255 : Int32) (hb hby at_119) (by decide) ?_
      show Steps p.tables e below (s₁.setTop (mkF m 122 #[.val (.int p0), .val (.int p1), .val (.int p2), .val (.int zA), .val (.int zB), .val (.int la), .val (.int lb), .val (.int ca0), .val (.int ca1), .val (.int ca2), .val (.int cb0), .unset, .unset, .unset, .unset, .unset, .unset, .unset, .unset] [(.int (255 : Int32)), (.int (XT.ushr p2 (8 : Int32)))])) u
      refine XS.iand X0.here hx rfl (hb hby at_122) rfl ?_
      show Steps p.tables e below (s₁.setTop (mkF m 123 #[.val (.int p0), .val (.int p1), .val (.int p2), .val (.int zA), .val (.int zB), .val (.int la), .val (.int lb), .val (.int ca0), .val (.int ca1), .val (.int ca2), .val (.int cb0), .unset, .unset, .unset, .unset, .unset, .unset, .unset, .unset] [(.int ((XT.ushr p2 (8 : Int32)) &&& (255 : Int32)))])) u
      refine XT.i2c X0.here hx rfl (hb hby at_123) rfl ?_
      show Steps p.tables e below (s₁.setTop (mkF m 124 #[.val (.int p0), .val (.int p1), .val (.int p2), .val (.int zA), .val (.int zB), .val (.int la), .val (.int lb), .val (.int ca0), .val (.int ca1), .val (.int ca2), .val (.int cb0), .unset, .unset, .unset, .unset, .unset, .unset, .unset, .unset] [(.int (((XT.ushr p2 (8 : Int32)) &&& (255 : Int32)).toUInt32.toUInt16.toUInt32.toInt32))])) u
      try simp only [if_pos hc13] at k
      exact k
    · skip
      refine XS.ifNo X0.here hx rfl (hb hby at_107) rfl (XT.i0_eq_f hc13) ?_
      show Steps p.tables e below (s₁.setTop (mkF m 110 #[.val (.int p0), .val (.int p1), .val (.int p2), .val (.int zA), .val (.int zB), .val (.int la), .val (.int lb), .val (.int ca0), .val (.int ca1), .val (.int ca2), .val (.int cb0), .unset, .unset, .unset, .unset, .unset, .unset, .unset, .unset] [])) u
      refine XS.iload X0.here hx rfl (hb hby at_110) rfl ?_
      show Steps p.tables e below (s₁.setTop (mkF m 112 #[.val (.int p0), .val (.int p1), .val (.int p2), .val (.int zA), .val (.int zB), .val (.int la), .val (.int lb), .val (.int ca0), .val (.int ca1), .val (.int ca2), .val (.int cb0), .unset, .unset, .unset, .unset, .unset, .unset, .unset, .unset] [(.int ca1)])) u
      refine XS.goto X0.here hx rfl (pc0 := 112) (pc' := 124) rfl (hb hby at_112) (by decide) (by decide) ?_
      show Steps p.tables e below (s₁.setTop (mkF m 124 #[.val (.int p0), .val (.int p1), .val (.int p2), .val (.int zA), .val (.int zB), .val (.int la), .val (.int lb), .val (.int ca0), .val (.int ca1), .val (.int ca2), .val (.int cb0), .unset, .unset, .unset, .unset, .unset, .unset, .unset, .unset] [(.int ca1)])) u
      try simp only [if_neg hc13] at k
      exact k
  refine Go.back (t' := (s₁.setTop (mkF m 124 #[.val (.int p0), .val (.int p1), .val (.int p2), .val (.int zA), .val (.int zB), .val (.int la), .val (.int lb), .val (.int ca0), .val (.int ca1), .val (.int ca2), .val (.int cb0), .unset, .unset, .unset, .unset, .unset, .unset, .unset, .unset] [(.int (if (p0 &&& (256 : Int32)) = (0 : Int32) then (((XT.ushr p2 (8 : Int32)) &&& (255 : Int32)).toUInt32.toUInt16.toUInt32.toInt32) else ca1))]))) sg12 ?_
  obtain ⟨cb1, h_cb1⟩ : ∃ z : Int32, z = (if (p0 &&& (256 : Int32)) = (0 : Int32) then (((XT.ushr p2 (8 : Int32)) &&& (255 : Int32)).toUInt32.toUInt16.toUInt32.toInt32) else ca1) := ⟨_, rfl⟩
  rw [← h_cb1]
  refine Go.back (t' := (s₁.setTop (mkF m 126 #[.val (.int p0), .val (.int p1), .val (.int p2), .val (.int zA), .val (.int zB), .val (.int la), .val (.int lb), .val (.int ca0), .val (.int ca1), .val (.int ca2), .val (.int cb0), .val (.int cb1), .unset, .unset, .unset, .unset, .unset, .unset, .unset] []))) (fun u k => XS.istore X0.here hx rfl (hb hby at_124) rfl (l' := #[.val (.int p0), .val (.int p1), .val (.int p2), .val (.int zA), .val (.int zB), .val (.int la), .val (.int lb), .val (.int ca0), .val (.int ca1), .val (.int ca2), .val (.int cb0), .val (.int cb1), .unset, .unset, .unset, .unset, .unset, .unset, .unset]) rfl k) ?_
  have sg14 : ∀ u, Steps p.tables e below (s₁.setTop (mkF m 148 #[.val (.int p0), .val (.int p1), .val (.int p2), .val (.int zA), .val (.int zB), .val (.int la), .val (.int lb), .val (.int ca0), .val (.int ca1), .val (.int ca2), .val (.int cb0), .val (.int cb1), .unset, .unset, .unset, .unset, .unset, .unset, .unset] [(.int (if (p0 &&& (512 : Int32)) = (0 : Int32) then (((XT.ushr p2 (16 : Int32)) &&& (255 : Int32)).toUInt32.toUInt16.toUInt32.toInt32) else ca2))])) u → Steps p.tables e below (s₁.setTop (mkF m 126 #[.val (.int p0), .val (.int p1), .val (.int p2), .val (.int zA), .val (.int zB), .val (.int la), .val (.int lb), .val (.int ca0), .val (.int ca1), .val (.int ca2), .val (.int cb0), .val (.int cb1), .unset, .unset, .unset, .unset, .unset, .unset, .unset] [])) u := by
    intro u k
    refine XS.iloadN X0.here hx rfl (hb hby at_126) rfl ?_
    show Steps p.tables e below (s₁.setTop (mkF m 127 #[.val (.int p0), .val (.int p1), .val (.int p2), .val (.int zA), .val (.int zB), .val (.int la), .val (.int lb), .val (.int ca0), .val (.int ca1), .val (.int ca2), .val (.int cb0), .val (.int cb1), .unset, .unset, .unset, .unset, .unset, .unset, .unset] [(.int p0)])) u
    refine XT.sipushV X0.here hx rfl (512 : Int32) (hb hby at_127) (by decide) ?_
    show Steps p.tables e below (s₁.setTop (mkF m 130 #[.val (.int p0), .val (.int p1), .val (.int p2), .val (.int zA), .val (.int zB), .val (.int la), .val (.int lb), .val (.int ca0), .val (.int ca1), .val (.int ca2), .val (.int cb0), .val (.int cb1), .unset, .unset, .unset, .unset, .unset, .unset, .unset] [(.int (512 : Int32)), (.int p0)])) u
    refine XS.iand X0.here hx rfl (hb hby at_130) rfl ?_
    show Steps p.tables e below (s₁.setTop (mkF m 131 #[.val (.int p0), .val (.int p1), .val (.int p2), .val (.int zA), .val (.int zB), .val (.int la), .val (.int lb), .val (.int ca0), .val (.int ca1), .val (.int ca2), .val (.int cb0), .val (.int cb1), .unset, .unset, .unset, .unset, .unset, .unset, .unset] [(.int (p0 &&& (512 : Int32)))])) u
    by_cases hc15 : (p0 &&& (512 : Int32)) = (0 : Int32)
    · skip
      refine XS.ifYes X0.here hx rfl (pc0 := 131) (pc' := 139) rfl (hb hby at_131) rfl (XT.i0_eq_t hc15) (by decide) (by decide) ?_
      show Steps p.tables e below (s₁.setTop (mkF m 139 #[.val (.int p0), .val (.int p1), .val (.int p2), .val (.int zA), .val (.int zB), .val (.int la), .val (.int lb), .val (.int ca0), .val (.int ca1), .val (.int ca2), .val (.int cb0), .val (.int cb1), .unset, .unset, .unset, .unset, .unset, .unset, .unset] [])) u
      refine XS.iloadN X0.here hx rfl (hb hby at_139) rfl ?_
      show Steps p.tables e below (s₁.setTop (mkF m 140 #[.val (.int p0), .val (.int p1), .val (.int p2), .val (.int zA), .val (.int zB), .val (.int la), .val (.int lb), .val (.int ca0), .val (.int ca1), .val (.int ca2), .val (.int cb0), .val (.int cb1), .unset, .unset, .unset, .unset, .unset, .unset, .unset] [(.int p2)])) u
      refine XT.bipushV X0.here hx rfl (16 : Int32) (hb hby at_140) (by decide) ?_
      show Steps p.tables e below (s₁.setTop (mkF m 142 #[.val (.int p0), .val (.int p1), .val (.int p2), .val (.int zA), .val (.int zB), .val (.int la), .val (.int lb), .val (.int ca0), .val (.int ca1), .val (.int ca2), .val (.int cb0), .val (.int cb1), .unset, .unset, .unset, .unset, .unset, .unset, .unset] [(.int (16 : Int32)), (.int p2)])) u
      refine XT.iushr X0.here hx rfl (hb hby at_142) rfl ?_
      show Steps p.tables e below (s₁.setTop (mkF m 143 #[.val (.int p0), .val (.int p1), .val (.int p2), .val (.int zA), .val (.int zB), .val (.int la), .val (.int lb), .val (.int ca0), .val (.int ca1), .val (.int ca2), .val (.int cb0), .val (.int cb1), .unset, .unset, .unset, .unset, .unset, .unset, .unset] [(.int (XT.ushr p2 (16 : Int32)))])) u
      refine XT.sipushV X0.here hx rfl (255 : Int32) (hb hby at_143) (by decide) ?_
      show Steps p.tables e below (s₁.setTop (mkF m 146 #[.val (.int p0), .val (.int p1), .val (.int p2), .val (.int zA), .val (.int zB), .val (.int la), .val (.int lb), .val (.int ca0), .val (.int ca1), .val (.int ca2), .val (.int cb0), .val (.int cb1), .unset, .unset, .unset, .unset, .unset, .unset, .unset] [(.int (255 : Int32)), (.int (XT.ushr p2 (16 : Int32)))])) u
      refine XS.iand X0.here hx rfl (hb hby at_146) rfl ?_
      show Steps p.tables e below (s₁.setTop (mkF m 147 #[.val (.int p0), .val (.int p1), .val (.int p2), .val (.int zA), .val (.int zB), .val (.int la), .val (.int lb), .val (.int ca0), .val (.int ca1), .val (.int ca2), .val (.int cb0), .val (.int cb1), .unset, .unset, .unset, .unset, .unset, .unset, .unset] [(.int ((XT.ushr p2 (16 : Int32)) &&& (255 : Int32)))])) u
      refine XT.i2c X0.here hx rfl (hb hby at_147) rfl ?_
      show Steps p.tables e below (s₁.setTop (mkF m 148 #[.val (.int p0), .val (.int p1), .val (.int p2), .val (.int zA), .val (.int zB), .val (.int la), .val (.int lb), .val (.int ca0), .val (.int ca1), .val (.int ca2), .val (.int cb0), .val (.int cb1), .unset, .unset, .unset, .unset, .unset, .unset, .unset] [(.int (((XT.ushr p2 (16 : Int32)) &&& (255 : Int32)).toUInt32.toUInt16.toUInt32.toInt32))])) u
      try simp only [if_pos hc15] at k
      exact k
    · skip
      refine XS.ifNo X0.here hx rfl (hb hby at_131) rfl (XT.i0_eq_f hc15) ?_
      show Steps p.tables e below (s₁.setTop (mkF m 134 #[.val (.int p0), .val (.int p1), .val (.int p2), .val (.int zA), .val (.int zB), .val (.int la), .val (.int lb), .val (.int ca0), .val (.int ca1), .val (.int ca2), .val (.int cb0), .val (.int cb1), .unset, .unset, .unset, .unset, .unset, .unset, .unset] [])) u
      refine XS.iload X0.here hx rfl (hb hby at_134) rfl ?_
      show Steps p.tables e below (s₁.setTop (mkF m 136 #[.val (.int p0), .val (.int p1), .val (.int p2), .val (.int zA), .val (.int zB), .val (.int la), .val (.int lb), .val (.int ca0), .val (.int ca1), .val (.int ca2), .val (.int cb0), .val (.int cb1), .unset, .unset, .unset, .unset, .unset, .unset, .unset] [(.int ca2)])) u
      refine XS.goto X0.here hx rfl (pc0 := 136) (pc' := 148) rfl (hb hby at_136) (by decide) (by decide) ?_
      show Steps p.tables e below (s₁.setTop (mkF m 148 #[.val (.int p0), .val (.int p1), .val (.int p2), .val (.int zA), .val (.int zB), .val (.int la), .val (.int lb), .val (.int ca0), .val (.int ca1), .val (.int ca2), .val (.int cb0), .val (.int cb1), .unset, .unset, .unset, .unset, .unset, .unset, .unset] [(.int ca2)])) u
      try simp only [if_neg hc15] at k
      exact k
  refine Go.back (t' := (s₁.setTop (mkF m 148 #[.val (.int p0), .val (.int p1), .val (.int p2), .val (.int zA), .val (.int zB), .val (.int la), .val (.int lb), .val (.int ca0), .val (.int ca1), .val (.int ca2), .val (.int cb0), .val (.int cb1), .unset, .unset, .unset, .unset, .unset, .unset, .unset] [(.int (if (p0 &&& (512 : Int32)) = (0 : Int32) then (((XT.ushr p2 (16 : Int32)) &&& (255 : Int32)).toUInt32.toUInt16.toUInt32.toInt32) else ca2))]))) sg14 ?_
  obtain ⟨cb2, h_cb2⟩ : ∃ z : Int32, z = (if (p0 &&& (512 : Int32)) = (0 : Int32) then (((XT.ushr p2 (16 : Int32)) &&& (255 : Int32)).toUInt32.toUInt16.toUInt32.toInt32) else ca2) := ⟨_, rfl⟩
  rw [← h_cb2]
  have HL := own_len h_la h_lb
  have hA0 := own_ca h_ca0
  have hB0 := own_cb hA0 h_cb0
  have hA1 := own_ca h_ca1
  have hB1 := own_cb hA1 h_cb1
  have hA2 := own_ca h_ca2
  have hB2 := own_cb hA2 h_cb2
  refine Go.back (t' := (s₁.setTop (mkF m 158 #[.val (.int p0), .val (.int p1), .val (.int p2), .val (.int zA), .val (.int zB), .val (.int la), .val (.int lb), .val (.int ca0), .val (.int ca1), .val (.int ca2), .val (.int cb0), .val (.int cb1), .val (.int cb2), .unset, .unset, .unset, .unset, .unset, .unset] [(.int ca2), (.int ca1), (.int ca0), (.int la)]))) (fun u k => XS.istore X0.here hx rfl (hb hby at_148) rfl (l' := #[.val (.int p0), .val (.int p1), .val (.int p2), .val (.int zA), .val (.int zB), .val (.int la), .val (.int lb), .val (.int ca0), .val (.int ca1), .val (.int ca2), .val (.int cb0), .val (.int cb1), .val (.int cb2), .unset, .unset, .unset, .unset, .unset, .unset]) rfl (XS.iload X0.here hx rfl (hb hby at_150) rfl (XS.iload X0.here hx rfl (hb hby at_152) rfl (XS.iload X0.here hx rfl (hb hby at_154) rfl (XS.iload X0.here hx rfl (hb hby at_156) rfl k))))) ?_
  obtain ⟨_, _, ⟨T16, L16, k16, n16⟩, -, X16, hT16, hg16, ⟨Lc16, hQ16, l16, y16, z16, hC16⟩, st16⟩ := callSS X0 hx (y := (⟨"com/example/norn/norn/http/EntityTagMatchesStronglyPinLaw", "make", "(ICCC)Ljava/lang/String;"⟩ : MethodName)) hown (mvT hZ (hw _ (List.mem_of_getElem? (i := 0) rfl))) (mvT hZ (hw _ (List.mem_of_getElem? (i := 1) rfl))) (mvT hZ (hw _ (List.mem_of_getElem? (i := 2) rfl))) (mvT hZ (hw _ (List.mem_of_getElem? (i := 3) rfl))) (by decide) (backOfSH (s := s) (vm0 := s.vm) (W := 0) (own_make l Z a0 hw [] la ca0 ca1 ca2 gC h0 n0 Z0 Old0 SCS P5 hA0 hA1 hA2) hZ (hw _ (List.mem_of_getElem? (i := 3) rfl)) (hw _ (List.mem_of_getElem? (i := 2) rfl)) (by decide) (by decide) hEL R0.1) (g := (mkF m 158 #[.val (.int p0), .val (.int p1), .val (.int p2), .val (.int zA), .val (.int zB), .val (.int la), .val (.int lb), .val (.int ca0), .val (.int ca1), .val (.int ca2), .val (.int cb0), .val (.int cb1), .val (.int cb2), .unset, .unset, .unset, .unset, .unset, .unset] [(.int ca2), (.int ca1), (.int ca0), (.int la)])) rfl (by rw [hml]; rfl) (argsL := [(.int la), (.int ca0), (.int ca1), (.int ca2)]) (rest := []) (lenOf own_pd5 rfl) rfl (by show 2 * 0 + _ ≤ _; exact Nat.le_of_eq rfl) (hb hby at_158) (fun _ _ => ⟨rfl, e0, (by decide : 0 + 6 ≤ _), (by decide : 0 + 12 ≤ _)⟩)
  dsimp only [Pt.U, Pt.locs, Pt.cells, Pt.slots] at X16 l16 y16 z16 st16 hQ16 hT16 hg16 hC16
  subst l16 y16 z16
  obtain ⟨X16, hS16, hZ, hown⟩ := rebS (s := s) (vm0 := s.vm) hS0 (by rw [e0]; exact hk0) X16 hT16 hg16 hZ hown
  have R16 := R0.trans hC16
  obtain ⟨x16, t16, kb16, rfl, N16, Kc16, gb_x16, szc_x16, P16_0, P16_1, P16_2, P16_3⟩ := hQ16
  have NA16 := Fr.app N0 N16
  have Z16 : n0 ≤ T16.heap.size := Nat.le_trans Z0 Kc16.1
  have K16 := K0.trans Kc16 all0
  have O16 := Old0.keep Kc16 all0
  have sz_x16 : h0.size ≤ x16 := Nat.le_trans K0.1 szc_x16
  refine Go.back (t' := (T16.setTop (mkF m 161 #[.val (.int p0), .val (.int p1), .val (.int p2), .val (.int zA), .val (.int zB), .val (.int la), .val (.int lb), .val (.int ca0), .val (.int ca1), .val (.int ca2), .val (.int cb0), .val (.int cb1), .val (.int cb2), .unset, .unset, .unset, .unset, .unset, .unset] [(.ref x16)]))) (fun u k => st16.trans k) ?_
  refine Go.back (t' := (T16.setTop (mkF m 171 #[.val (.int p0), .val (.int p1), .val (.int p2), .val (.int zA), .val (.int zB), .val (.int la), .val (.int lb), .val (.int ca0), .val (.int ca1), .val (.int ca2), .val (.int cb0), .val (.int cb1), .val (.int cb2), .val (.ref x16), .unset, .unset, .unset, .unset, .unset] [(.int cb2), (.int cb1), (.int cb0), (.int lb)]))) (fun u k => XS.astore X16.here hx rfl (hb hby at_161) rfl rfl (l' := #[.val (.int p0), .val (.int p1), .val (.int p2), .val (.int zA), .val (.int zB), .val (.int la), .val (.int lb), .val (.int ca0), .val (.int ca1), .val (.int ca2), .val (.int cb0), .val (.int cb1), .val (.int cb2), .val (.ref x16), .unset, .unset, .unset, .unset, .unset]) rfl (XS.iload X16.here hx rfl (hb hby at_163) rfl (XS.iload X16.here hx rfl (hb hby at_165) rfl (XS.iload X16.here hx rfl (hb hby at_167) rfl (XS.iload X16.here hx rfl (hb hby at_169) rfl k))))) ?_
  obtain ⟨_, _, ⟨T17, L17, k17, n17⟩, -, X17, hT17, hg17, ⟨Lc17, hQ17, l17, y17, z17, hC17⟩, st17⟩ := callSS X16 hx (y := (⟨"com/example/norn/norn/http/EntityTagMatchesStronglyPinLaw", "make", "(ICCC)Ljava/lang/String;"⟩ : MethodName)) hown (mvT hZ (hw _ (List.mem_of_getElem? (i := 0) rfl))) (mvT hZ (hw _ (List.mem_of_getElem? (i := 1) rfl))) (mvT hZ (hw _ (List.mem_of_getElem? (i := 2) rfl))) (mvT hZ (hw _ (List.mem_of_getElem? (i := 3) rfl))) (by decide) (backOfSH (s := s) (vm0 := T16.vm) (W := 0) (own_make l Z a0 hw [] lb cb0 cb1 cb2 gC T16.heap n0 Z16 O16 SCS P5 hB0 hB1 hB2) hZ (hw _ (List.mem_of_getElem? (i := 3) rfl)) (hw _ (List.mem_of_getElem? (i := 2) rfl)) (by decide) (by decide) hEL R16.1) (g := (mkF m 171 #[.val (.int p0), .val (.int p1), .val (.int p2), .val (.int zA), .val (.int zB), .val (.int la), .val (.int lb), .val (.int ca0), .val (.int ca1), .val (.int ca2), .val (.int cb0), .val (.int cb1), .val (.int cb2), .val (.ref x16), .unset, .unset, .unset, .unset, .unset] [(.int cb2), (.int cb1), (.int cb0), (.int lb)])) rfl (by rw [hml]; rfl) (argsL := [(.int lb), (.int cb0), (.int cb1), (.int cb2)]) (rest := []) (lenOf own_pd5 rfl) rfl (by show 2 * 0 + _ ≤ _; exact Nat.le_of_eq rfl) (hb hby at_171) (fun _ _ => ⟨rfl, rfl, (by decide : 6 + 6 ≤ _), (by decide : 12 + 12 ≤ _)⟩)
  dsimp only [Pt.U, Pt.locs, Pt.cells, Pt.slots] at X17 l17 y17 z17 st17 hQ17 hT17 hg17 hC17
  subst l17 y17 z17
  obtain ⟨X17, hS17, hZ, hown⟩ := rebS (s := s) (vm0 := T16.vm) hS16 (Nat.le_refl _) X17 hT17 hg17 hZ hown
  have R17 := R16.trans hC17
  obtain ⟨x17, t17, kb17, rfl, N17, Kc17, gb_x17, szc_x17, P17_0, P17_1, P17_2, P17_3⟩ := hQ17
  have NA17 := Fr.app NA16 N17
  have Z17 : n0 ≤ T17.heap.size := Nat.le_trans Z16 Kc17.1
  have K17 := K16.trans Kc17 all0
  have O17 := O16.keep Kc17 all0
  have sz_x17 : h0.size ≤ x17 := Nat.le_trans K16.1 szc_x17
  have ne_x16_x17 : x16 ≠ x17 := Nat.ne_of_lt (Nat.lt_of_lt_of_le P16_0.lt szc_x17)
  have ne_t16_x17 : t16 ≠ x17 := Nat.ne_of_lt (Nat.lt_of_lt_of_le P16_3.lt szc_x17)
  refine Go.back (t' := (T17.setTop (mkF m 174 #[.val (.int p0), .val (.int p1), .val (.int p2), .val (.int zA), .val (.int zB), .val (.int la), .val (.int lb), .val (.int ca0), .val (.int ca1), .val (.int ca2), .val (.int cb0), .val (.int cb1), .val (.int cb2), .val (.ref x16), .unset, .unset, .unset, .unset, .unset] [(.ref x17)]))) (fun u k => st17.trans k) ?_
  refine Go.back (t' := (T17.setTop (mkF m 176 #[.val (.int p0), .val (.int p1), .val (.int p2), .val (.int zA), .val (.int zB), .val (.int la), .val (.int lb), .val (.int ca0), .val (.int ca1), .val (.int ca2), .val (.int cb0), .val (.int cb1), .val (.int cb2), .val (.ref x16), .val (.ref x17), .unset, .unset, .unset, .unset] []))) (fun u k => XS.astore X17.here hx rfl (hb hby at_174) rfl rfl (l' := #[.val (.int p0), .val (.int p1), .val (.int p2), .val (.int zA), .val (.int zB), .val (.int la), .val (.int lb), .val (.int ca0), .val (.int ca1), .val (.int ca2), .val (.int cb0), .val (.int cb1), .val (.int cb2), .val (.ref x16), .val (.ref x17), .unset, .unset, .unset, .unset]) rfl k) ?_
  obtain ⟨T18, h18, X18, e18, E18, A18, D18, -, st18⟩ := newO X17 hx hZ hown (hw _ (List.mem_of_getElem? (i := 26) rfl)) (hw _ (List.mem_of_getElem? (i := 27) rfl)) (hw _ (List.mem_of_getElem? (i := 28) rfl)) rfl (g := (mkF m 176 #[.val (.int p0), .val (.int p1), .val (.int p2), .val (.int zA), .val (.int zB), .val (.int la), .val (.int lb), .val (.int ca0), .val (.int ca1), .val (.int ca2), .val (.int cb0), .val (.int cb1), .val (.int cb2), .val (.ref x16), .val (.ref x17), .unset, .unset, .unset, .unset] [])) rfl (hb hby at_176) (by decide) (by decide)
  obtain ⟨b18, g18⟩ : ∃ z, z = T17.heap.size := ⟨_, rfl⟩
  rw [← g18] at A18 D18 st18
  have f19 := (P16_0.keep Kc17)
  have ne_x16_b18 : x16 ≠ b18 := Nat.ne_of_lt (Nat.lt_of_lt_of_le f19.lt (Nat.le_of_eq g18.symm))
  have f20 := (P16_3.keep Kc17 nin0)
  have ne_t16_b18 : t16 ≠ b18 := Nat.ne_of_lt (Nat.lt_of_lt_of_le f20.lt (Nat.le_of_eq g18.symm))
  have ne_x17_b18 : x17 ≠ b18 := Nat.ne_of_lt (Nat.lt_of_lt_of_le P17_0.lt (Nat.le_of_eq g18.symm))
  have ne_t17_b18 : t17 ≠ b18 := Nat.ne_of_lt (Nat.lt_of_lt_of_le P17_3.lt (Nat.le_of_eq g18.symm))
  have gb18 : n0 ≤ b18 := Nat.le_trans Z17 (Nat.le_of_eq g18.symm)
  have sz18 : h0.size ≤ b18 := Nat.le_trans K17.1 (Nat.le_of_eq g18.symm)
  have Z18 : n0 ≤ h18.size := Nat.le_trans Z17 E18.1
  have K18 := K17.ext E18
  have O18 := O17.ext E18
  have hk18 := Nat.le_trans (Nat.le_refl _) E18.1
  have Sf18_b18 := Safe.ext E18 R17.1 (Safe.new (Nat.le_of_eq g18.symm))
  have R18 := R17.trans (CHr.ext E18 R17.1)
  refine Go.back (t' := (T18.setTop (mkF m 179 #[.val (.int p0), .val (.int p1), .val (.int p2), .val (.int zA), .val (.int zB), .val (.int la), .val (.int lb), .val (.int ca0), .val (.int ca1), .val (.int ca2), .val (.int cb0), .val (.int cb1), .val (.int cb2), .val (.ref x16), .val (.ref x17), .unset, .unset, .unset, .unset] [(.ref b18)]))) st18 ?_
  refine Go.back (t' := (T18.setTop (mkF m 183 #[.val (.int p0), .val (.int p1), .val (.int p2), .val (.int zA), .val (.int zB), .val (.int la), .val (.int lb), .val (.int ca0), .val (.int ca1), .val (.int ca2), .val (.int cb0), .val (.int cb1), .val (.int cb2), .val (.ref x16), .val (.ref x17), .unset, .unset, .unset, .unset] [(.ref x16), (.int zA), (.ref b18), (.ref b18)]))) (fun u k => XS.dup X18.here hx rfl (hb hby at_179) rfl rfl (XS.iloadN X18.here hx rfl (hb hby at_180) rfl (XS.aload X18.here hx rfl (hb hby at_181) rfl rfl k))) ?_
  obtain ⟨_, _, ⟨T21, L21, k21, n21⟩, -, X21, hT21, hg21, ⟨Lc21, hQ21, l21, y21, z21⟩, st21⟩ := X18.specialBackS hx (y := (⟨"com/example/norn/norn/http/EntityTag", "<init>", "(ZLjava/lang/String;)V"⟩ : MethodName)) rfl hown (mvT hZ (hw _ (List.mem_of_getElem? (i := 29) rfl))) (mvT hZ (hw _ (List.mem_of_getElem? (i := 30) rfl))) (mvT hZ (hw _ (List.mem_of_getElem? (i := 31) rfl))) (by decide) (backOfS (W := 1) (own_etInit l Z a0 hw [] b18 zA x16 h18 n0 Z18 A18 (D18 (Or.inr (hw _ (List.mem_of_getElem? (i := 44) rfl))) (ty := .boolean) (by decide)) (D18 (Or.inr (hw _ (List.mem_of_getElem? (i := 46) rfl))) (ty := (.object "java/lang/String")) (by decide)) gb18 bit_zA) hZ (hw _ (List.mem_of_getElem? (i := 31) rfl)) (hw _ (List.mem_of_getElem? (i := 28) rfl)) (by decide) (by decide)) (g := (mkF m 183 #[.val (.int p0), .val (.int p1), .val (.int p2), .val (.int zA), .val (.int zB), .val (.int la), .val (.int lb), .val (.int ca0), .val (.int ca1), .val (.int ca2), .val (.int cb0), .val (.int cb1), .val (.int cb2), .val (.ref x16), .val (.ref x17), .unset, .unset, .unset, .unset] [(.ref x16), (.int zA), (.ref b18), (.ref b18)])) rfl (by rw [hml]; rfl) (Steps.refl _) (a := b18) (argsL := [(.int zA), (.ref x16)]) (rest := [(.ref b18)]) (lenOf own_pd6 rfl) rfl (by show 2 * 0 + _ ≤ _; exact Nat.le_of_eq rfl) (hb hby at_183) (fun _ _ => ⟨rfl, e18, (by decide : 13 + 2 ≤ _), (by decide : 26 + 28 ≤ _)⟩)
  dsimp only [Pt.U, Pt.locs, Pt.cells, Pt.slots] at X21 l21 y21 z21 st21 hQ21 hT21 hg21
  subst l21 y21 z21
  obtain ⟨X21, hS21, hZ, hown⟩ := rebS (s := s) (vm0 := T17.vm) hS17 (by rw [e18]; exact hk18) X21 hT21 hg21 hZ hown
  obtain ⟨rfl, N21, Kc21, P21_0, P21_1, P21_2⟩ := hQ21
  have NA21 := Fr.app NA17 N21
  have Z21 : n0 ≤ T21.heap.size := Nat.le_trans Z18 Kc21.1
  have K21 := K18.trans Kc21 (allS (Or.inr sz18) all0)
  have O21 := O18.keep Kc21 (allS gb18 all0)
  refine Go.back (t' := (T21.setTop (mkF m 186 #[.val (.int p0), .val (.int p1), .val (.int p2), .val (.int zA), .val (.int zB), .val (.int la), .val (.int lb), .val (.int ca0), .val (.int ca1), .val (.int ca2), .val (.int cb0), .val (.int cb1), .val (.int cb2), .val (.ref x16), .val (.ref x17), .unset, .unset, .unset, .unset] [(.ref b18)]))) (fun u k => st21.trans k) ?_
  refine Go.back (t' := (T21.setTop (mkF m 188 #[.val (.int p0), .val (.int p1), .val (.int p2), .val (.int zA), .val (.int zB), .val (.int la), .val (.int lb), .val (.int ca0), .val (.int ca1), .val (.int ca2), .val (.int cb0), .val (.int cb1), .val (.int cb2), .val (.ref x16), .val (.ref x17), .val (.ref b18), .unset, .unset, .unset] []))) (fun u k => XS.astore X21.here hx rfl (hb hby at_186) rfl rfl (l' := #[.val (.int p0), .val (.int p1), .val (.int p2), .val (.int zA), .val (.int zB), .val (.int la), .val (.int lb), .val (.int ca0), .val (.int ca1), .val (.int ca2), .val (.int cb0), .val (.int cb1), .val (.int cb2), .val (.ref x16), .val (.ref x17), .val (.ref b18), .unset, .unset, .unset]) rfl k) ?_
  obtain ⟨T22, h22, X22, e22, E22, A22, D22, -, st22⟩ := newO X21 hx hZ hown (hw _ (List.mem_of_getElem? (i := 26) rfl)) (hw _ (List.mem_of_getElem? (i := 27) rfl)) (hw _ (List.mem_of_getElem? (i := 28) rfl)) rfl (g := (mkF m 188 #[.val (.int p0), .val (.int p1), .val (.int p2), .val (.int zA), .val (.int zB), .val (.int la), .val (.int lb), .val (.int ca0), .val (.int ca1), .val (.int ca2), .val (.int cb0), .val (.int cb1), .val (.int cb2), .val (.ref x16), .val (.ref x17), .val (.ref b18), .unset, .unset, .unset] [])) rfl (hb hby at_188) (by decide) (by decide)
  obtain ⟨b22, g22⟩ : ∃ z, z = T21.heap.size := ⟨_, rfl⟩
  rw [← g22] at A22 D22 st22
  have f23 := ((f19.ext E18).keep Kc21)
  have ne_x16_b22 : x16 ≠ b22 := Nat.ne_of_lt (Nat.lt_of_lt_of_le f23.lt (Nat.le_of_eq g22.symm))
  have f24 := ((f20.ext E18).keep Kc21 (ninS ne_t16_b18 nin0))
  have ne_t16_b22 : t16 ≠ b22 := Nat.ne_of_lt (Nat.lt_of_lt_of_le f24.lt (Nat.le_of_eq g22.symm))
  have f25 := ((P17_0.ext E18).keep Kc21)
  have ne_x17_b22 : x17 ≠ b22 := Nat.ne_of_lt (Nat.lt_of_lt_of_le f25.lt (Nat.le_of_eq g22.symm))
  have f26 := ((P17_3.ext E18).keep Kc21 (ninS ne_t17_b18 nin0))
  have ne_t17_b22 : t17 ≠ b22 := Nat.ne_of_lt (Nat.lt_of_lt_of_le f26.lt (Nat.le_of_eq g22.symm))
  have ne_b18_b22 : b18 ≠ b22 := Nat.ne_of_lt (Nat.lt_of_lt_of_le P21_0.lt (Nat.le_of_eq g22.symm))
  have gb22 : n0 ≤ b22 := Nat.le_trans Z21 (Nat.le_of_eq g22.symm)
  have sz22 : h0.size ≤ b22 := Nat.le_trans K21.1 (Nat.le_of_eq g22.symm)
  have Z22 : n0 ≤ h22.size := Nat.le_trans Z21 E22.1
  have K22 := K21.ext E22
  have O22 := O21.ext E22
  have hk22 := Nat.le_trans (Nat.le_refl _) E22.1
  refine Go.back (t' := (T22.setTop (mkF m 191 #[.val (.int p0), .val (.int p1), .val (.int p2), .val (.int zA), .val (.int zB), .val (.int la), .val (.int lb), .val (.int ca0), .val (.int ca1), .val (.int ca2), .val (.int cb0), .val (.int cb1), .val (.int cb2), .val (.ref x16), .val (.ref x17), .val (.ref b18), .unset, .unset, .unset] [(.ref b22)]))) st22 ?_
  refine Go.back (t' := (T22.setTop (mkF m 196 #[.val (.int p0), .val (.int p1), .val (.int p2), .val (.int zA), .val (.int zB), .val (.int la), .val (.int lb), .val (.int ca0), .val (.int ca1), .val (.int ca2), .val (.int cb0), .val (.int cb1), .val (.int cb2), .val (.ref x16), .val (.ref x17), .val (.ref b18), .unset, .unset, .unset] [(.ref x17), (.int zB), (.ref b22), (.ref b22)]))) (fun u k => XS.dup X22.here hx rfl (hb hby at_191) rfl rfl (XS.iload X22.here hx rfl (hb hby at_192) rfl (XS.aload X22.here hx rfl (hb hby at_194) rfl rfl k))) ?_
  obtain ⟨_, _, ⟨T27, L27, k27, n27⟩, -, X27, hT27, hg27, ⟨Lc27, hQ27, l27, y27, z27⟩, st27⟩ := X22.specialBackS hx (y := (⟨"com/example/norn/norn/http/EntityTag", "<init>", "(ZLjava/lang/String;)V"⟩ : MethodName)) rfl hown (mvT hZ (hw _ (List.mem_of_getElem? (i := 29) rfl))) (mvT hZ (hw _ (List.mem_of_getElem? (i := 30) rfl))) (mvT hZ (hw _ (List.mem_of_getElem? (i := 31) rfl))) (by decide) (backOfS (W := 1) (own_etInit l Z a0 hw [] b22 zB x17 h22 n0 Z22 A22 (D22 (Or.inr (hw _ (List.mem_of_getElem? (i := 44) rfl))) (ty := .boolean) (by decide)) (D22 (Or.inr (hw _ (List.mem_of_getElem? (i := 46) rfl))) (ty := (.object "java/lang/String")) (by decide)) gb22 bit_zB) hZ (hw _ (List.mem_of_getElem? (i := 31) rfl)) (hw _ (List.mem_of_getElem? (i := 28) rfl)) (by decide) (by decide)) (g := (mkF m 196 #[.val (.int p0), .val (.int p1), .val (.int p2), .val (.int zA), .val (.int zB), .val (.int la), .val (.int lb), .val (.int ca0), .val (.int ca1), .val (.int ca2), .val (.int cb0), .val (.int cb1), .val (.int cb2), .val (.ref x16), .val (.ref x17), .val (.ref b18), .unset, .unset, .unset] [(.ref x17), (.int zB), (.ref b22), (.ref b22)])) rfl (by rw [hml]; rfl) (Steps.refl _) (a := b22) (argsL := [(.int zB), (.ref x17)]) (rest := [(.ref b22)]) (lenOf own_pd6 rfl) rfl (by show 2 * 0 + _ ≤ _; exact Nat.le_of_eq rfl) (hb hby at_196) (fun _ _ => ⟨rfl, e22, (by decide : 16 + 2 ≤ _), (by decide : 56 + 28 ≤ _)⟩)
  dsimp only [Pt.U, Pt.locs, Pt.cells, Pt.slots] at X27 l27 y27 z27 st27 hQ27 hT27 hg27
  subst l27 y27 z27
  obtain ⟨X27, hS27, hZ, hown⟩ := rebS (s := s) (vm0 := T21.vm) hS21 (by rw [e22]; exact hk22) X27 hT27 hg27 hZ hown
  obtain ⟨rfl, N27, Kc27, P27_0, P27_1, P27_2⟩ := hQ27
  have NA27 := Fr.app NA21 N27
  have Z27 : n0 ≤ T27.heap.size := Nat.le_trans Z22 Kc27.1
  have K27 := K22.trans Kc27 (allS (Or.inr sz22) all0)
  have O27 := O22.keep Kc27 (allS gb22 all0)
  refine Go.back (t' := (T27.setTop (mkF m 199 #[.val (.int p0), .val (.int p1), .val (.int p2), .val (.int zA), .val (.int zB), .val (.int la), .val (.int lb), .val (.int ca0), .val (.int ca1), .val (.int ca2), .val (.int cb0), .val (.int cb1), .val (.int cb2), .val (.ref x16), .val (.ref x17), .val (.ref b18), .unset, .unset, .unset] [(.ref b22)]))) (fun u k => st27.trans k) ?_
  refine Go.back (t' := (T27.setTop (mkF m 201 #[.val (.int p0), .val (.int p1), .val (.int p2), .val (.int zA), .val (.int zB), .val (.int la), .val (.int lb), .val (.int ca0), .val (.int ca1), .val (.int ca2), .val (.int cb0), .val (.int cb1), .val (.int cb2), .val (.ref x16), .val (.ref x17), .val (.ref b18), .val (.ref b22), .unset, .unset] []))) (fun u k => XS.astore X27.here hx rfl (hb hby at_199) rfl rfl (l' := #[.val (.int p0), .val (.int p1), .val (.int p2), .val (.int zA), .val (.int zB), .val (.int la), .val (.int lb), .val (.int ca0), .val (.int ca1), .val (.int ca2), .val (.int cb0), .val (.int cb1), .val (.int cb2), .val (.ref x16), .val (.ref x17), .val (.ref b18), .val (.ref b22), .unset, .unset]) rfl k) ?_
  have sg28 : ∀ u, Steps p.tables e below (T27.setTop (mkF m 252 #[.val (.int p0), .val (.int p1), .val (.int p2), .val (.int zA), .val (.int zB), .val (.int la), .val (.int lb), .val (.int ca0), .val (.int ca1), .val (.int ca2), .val (.int cb0), .val (.int cb1), .val (.int cb2), .val (.ref x16), .val (.ref x17), .val (.ref b18), .val (.ref b22), .unset, .unset] [(.int (if la = lb then (if la < (1 : Int32) then (if la < (2 : Int32) then (if la < (3 : Int32) then (1 : Int32) else (if ca2 = cb2 then (1 : Int32) else (0 : Int32))) else (if ca1 = cb1 then (if la < (3 : Int32) then (1 : Int32) else (if ca2 = cb2 then (1 : Int32) else (0 : Int32))) else (0 : Int32))) else (if ca0 = cb0 then (if la < (2 : Int32) then (if la < (3 : Int32) then (1 : Int32) else (if ca2 = cb2 then (1 : Int32) else (0 : Int32))) else (if ca1 = cb1 then (if la < (3 : Int32) then (1 : Int32) else (if ca2 = cb2 then (1 : Int32) else (0 : Int32))) else (0 : Int32))) else (0 : Int32))) else (0 : Int32)))])) u → Steps p.tables e below (T27.setTop (mkF m 201 #[.val (.int p0), .val (.int p1), .val (.int p2), .val (.int zA), .val (.int zB), .val (.int la), .val (.int lb), .val (.int ca0), .val (.int ca1), .val (.int ca2), .val (.int cb0), .val (.int cb1), .val (.int cb2), .val (.ref x16), .val (.ref x17), .val (.ref b18), .val (.ref b22), .unset, .unset] [])) u := by
    intro u k
    refine XS.iload X27.here hx rfl (hb hby at_201) rfl ?_
    show Steps p.tables e below (T27.setTop (mkF m 203 #[.val (.int p0), .val (.int p1), .val (.int p2), .val (.int zA), .val (.int zB), .val (.int la), .val (.int lb), .val (.int ca0), .val (.int ca1), .val (.int ca2), .val (.int cb0), .val (.int cb1), .val (.int cb2), .val (.ref x16), .val (.ref x17), .val (.ref b18), .val (.ref b22), .unset, .unset] [(.int la)])) u
    refine XS.iload X27.here hx rfl (hb hby at_203) rfl ?_
    show Steps p.tables e below (T27.setTop (mkF m 205 #[.val (.int p0), .val (.int p1), .val (.int p2), .val (.int zA), .val (.int zB), .val (.int la), .val (.int lb), .val (.int ca0), .val (.int ca1), .val (.int ca2), .val (.int cb0), .val (.int cb1), .val (.int cb2), .val (.ref x16), .val (.ref x17), .val (.ref b18), .val (.ref b22), .unset, .unset] [(.int lb), (.int la)])) u
    by_cases hc29 : la = lb
    · skip
      refine XS.icmpNo X27.here hx rfl (hb hby at_205) rfl (XT.ii_ne_f hc29) ?_
      show Steps p.tables e below (T27.setTop (mkF m 208 #[.val (.int p0), .val (.int p1), .val (.int p2), .val (.int zA), .val (.int zB), .val (.int la), .val (.int lb), .val (.int ca0), .val (.int ca1), .val (.int ca2), .val (.int cb0), .val (.int cb1), .val (.int cb2), .val (.ref x16), .val (.ref x17), .val (.ref b18), .val (.ref b22), .unset, .unset] [])) u
      refine XS.iload X27.here hx rfl (hb hby at_208) rfl ?_
      show Steps p.tables e below (T27.setTop (mkF m 210 #[.val (.int p0), .val (.int p1), .val (.int p2), .val (.int zA), .val (.int zB), .val (.int la), .val (.int lb), .val (.int ca0), .val (.int ca1), .val (.int ca2), .val (.int cb0), .val (.int cb1), .val (.int cb2), .val (.ref x16), .val (.ref x17), .val (.ref b18), .val (.ref b22), .unset, .unset] [(.int la)])) u
      refine XT.iconstV X27.here hx rfl (1 : Int32) (hb hby at_210) (by decide) ?_
      show Steps p.tables e below (T27.setTop (mkF m 211 #[.val (.int p0), .val (.int p1), .val (.int p2), .val (.int zA), .val (.int zB), .val (.int la), .val (.int lb), .val (.int ca0), .val (.int ca1), .val (.int ca2), .val (.int cb0), .val (.int cb1), .val (.int cb2), .val (.ref x16), .val (.ref x17), .val (.ref b18), .val (.ref b22), .unset, .unset] [(.int (1 : Int32)), (.int la)])) u
      by_cases hc30 : la < (1 : Int32)
      · skip
        refine XS.icmpYes X27.here hx rfl (pc0 := 211) (pc' := 221) rfl (hb hby at_211) rfl (XT.ii_lt_t hc30) (by decide) (by decide) ?_
        show Steps p.tables e below (T27.setTop (mkF m 221 #[.val (.int p0), .val (.int p1), .val (.int p2), .val (.int zA), .val (.int zB), .val (.int la), .val (.int lb), .val (.int ca0), .val (.int ca1), .val (.int ca2), .val (.int cb0), .val (.int cb1), .val (.int cb2), .val (.ref x16), .val (.ref x17), .val (.ref b18), .val (.ref b22), .unset, .unset] [])) u
        refine XS.iload X27.here hx rfl (hb hby at_221) rfl ?_
        show Steps p.tables e below (T27.setTop (mkF m 223 #[.val (.int p0), .val (.int p1), .val (.int p2), .val (.int zA), .val (.int zB), .val (.int la), .val (.int lb), .val (.int ca0), .val (.int ca1), .val (.int ca2), .val (.int cb0), .val (.int cb1), .val (.int cb2), .val (.ref x16), .val (.ref x17), .val (.ref b18), .val (.ref b22), .unset, .unset] [(.int la)])) u
        refine XT.iconstV X27.here hx rfl (2 : Int32) (hb hby at_223) (by decide) ?_
        show Steps p.tables e below (T27.setTop (mkF m 224 #[.val (.int p0), .val (.int p1), .val (.int p2), .val (.int zA), .val (.int zB), .val (.int la), .val (.int lb), .val (.int ca0), .val (.int ca1), .val (.int ca2), .val (.int cb0), .val (.int cb1), .val (.int cb2), .val (.ref x16), .val (.ref x17), .val (.ref b18), .val (.ref b22), .unset, .unset] [(.int (2 : Int32)), (.int la)])) u
        by_cases hc31 : la < (2 : Int32)
        · skip
          refine XS.icmpYes X27.here hx rfl (pc0 := 224) (pc' := 234) rfl (hb hby at_224) rfl (XT.ii_lt_t hc31) (by decide) (by decide) ?_
          show Steps p.tables e below (T27.setTop (mkF m 234 #[.val (.int p0), .val (.int p1), .val (.int p2), .val (.int zA), .val (.int zB), .val (.int la), .val (.int lb), .val (.int ca0), .val (.int ca1), .val (.int ca2), .val (.int cb0), .val (.int cb1), .val (.int cb2), .val (.ref x16), .val (.ref x17), .val (.ref b18), .val (.ref b22), .unset, .unset] [])) u
          refine XS.iload X27.here hx rfl (hb hby at_234) rfl ?_
          show Steps p.tables e below (T27.setTop (mkF m 236 #[.val (.int p0), .val (.int p1), .val (.int p2), .val (.int zA), .val (.int zB), .val (.int la), .val (.int lb), .val (.int ca0), .val (.int ca1), .val (.int ca2), .val (.int cb0), .val (.int cb1), .val (.int cb2), .val (.ref x16), .val (.ref x17), .val (.ref b18), .val (.ref b22), .unset, .unset] [(.int la)])) u
          refine XT.iconstV X27.here hx rfl (3 : Int32) (hb hby at_236) (by decide) ?_
          show Steps p.tables e below (T27.setTop (mkF m 237 #[.val (.int p0), .val (.int p1), .val (.int p2), .val (.int zA), .val (.int zB), .val (.int la), .val (.int lb), .val (.int ca0), .val (.int ca1), .val (.int ca2), .val (.int cb0), .val (.int cb1), .val (.int cb2), .val (.ref x16), .val (.ref x17), .val (.ref b18), .val (.ref b22), .unset, .unset] [(.int (3 : Int32)), (.int la)])) u
          by_cases hc32 : la < (3 : Int32)
          · skip
            refine XS.icmpYes X27.here hx rfl (pc0 := 237) (pc' := 247) rfl (hb hby at_237) rfl (XT.ii_lt_t hc32) (by decide) (by decide) ?_
            show Steps p.tables e below (T27.setTop (mkF m 247 #[.val (.int p0), .val (.int p1), .val (.int p2), .val (.int zA), .val (.int zB), .val (.int la), .val (.int lb), .val (.int ca0), .val (.int ca1), .val (.int ca2), .val (.int cb0), .val (.int cb1), .val (.int cb2), .val (.ref x16), .val (.ref x17), .val (.ref b18), .val (.ref b22), .unset, .unset] [])) u
            refine XT.iconstV X27.here hx rfl (1 : Int32) (hb hby at_247) (by decide) ?_
            show Steps p.tables e below (T27.setTop (mkF m 248 #[.val (.int p0), .val (.int p1), .val (.int p2), .val (.int zA), .val (.int zB), .val (.int la), .val (.int lb), .val (.int ca0), .val (.int ca1), .val (.int ca2), .val (.int cb0), .val (.int cb1), .val (.int cb2), .val (.ref x16), .val (.ref x17), .val (.ref b18), .val (.ref b22), .unset, .unset] [(.int (1 : Int32))])) u
            refine XS.goto X27.here hx rfl (pc0 := 248) (pc' := 252) rfl (hb hby at_248) (by decide) (by decide) ?_
            show Steps p.tables e below (T27.setTop (mkF m 252 #[.val (.int p0), .val (.int p1), .val (.int p2), .val (.int zA), .val (.int zB), .val (.int la), .val (.int lb), .val (.int ca0), .val (.int ca1), .val (.int ca2), .val (.int cb0), .val (.int cb1), .val (.int cb2), .val (.ref x16), .val (.ref x17), .val (.ref b18), .val (.ref b22), .unset, .unset] [(.int (1 : Int32))])) u
            try simp only [if_pos hc29, if_pos hc30, if_pos hc31, if_pos hc32] at k
            exact k
          · skip
            refine XS.icmpNo X27.here hx rfl (hb hby at_237) rfl (XT.ii_lt_f hc32) ?_
            show Steps p.tables e below (T27.setTop (mkF m 240 #[.val (.int p0), .val (.int p1), .val (.int p2), .val (.int zA), .val (.int zB), .val (.int la), .val (.int lb), .val (.int ca0), .val (.int ca1), .val (.int ca2), .val (.int cb0), .val (.int cb1), .val (.int cb2), .val (.ref x16), .val (.ref x17), .val (.ref b18), .val (.ref b22), .unset, .unset] [])) u
            refine XS.iload X27.here hx rfl (hb hby at_240) rfl ?_
            show Steps p.tables e below (T27.setTop (mkF m 242 #[.val (.int p0), .val (.int p1), .val (.int p2), .val (.int zA), .val (.int zB), .val (.int la), .val (.int lb), .val (.int ca0), .val (.int ca1), .val (.int ca2), .val (.int cb0), .val (.int cb1), .val (.int cb2), .val (.ref x16), .val (.ref x17), .val (.ref b18), .val (.ref b22), .unset, .unset] [(.int ca2)])) u
            refine XS.iload X27.here hx rfl (hb hby at_242) rfl ?_
            show Steps p.tables e below (T27.setTop (mkF m 244 #[.val (.int p0), .val (.int p1), .val (.int p2), .val (.int zA), .val (.int zB), .val (.int la), .val (.int lb), .val (.int ca0), .val (.int ca1), .val (.int ca2), .val (.int cb0), .val (.int cb1), .val (.int cb2), .val (.ref x16), .val (.ref x17), .val (.ref b18), .val (.ref b22), .unset, .unset] [(.int cb2), (.int ca2)])) u
            by_cases hc33 : ca2 = cb2
            · skip
              refine XS.icmpNo X27.here hx rfl (hb hby at_244) rfl (XT.ii_ne_f hc33) ?_
              show Steps p.tables e below (T27.setTop (mkF m 247 #[.val (.int p0), .val (.int p1), .val (.int p2), .val (.int zA), .val (.int zB), .val (.int la), .val (.int lb), .val (.int ca0), .val (.int ca1), .val (.int ca2), .val (.int cb0), .val (.int cb1), .val (.int cb2), .val (.ref x16), .val (.ref x17), .val (.ref b18), .val (.ref b22), .unset, .unset] [])) u
              refine XT.iconstV X27.here hx rfl (1 : Int32) (hb hby at_247) (by decide) ?_
              show Steps p.tables e below (T27.setTop (mkF m 248 #[.val (.int p0), .val (.int p1), .val (.int p2), .val (.int zA), .val (.int zB), .val (.int la), .val (.int lb), .val (.int ca0), .val (.int ca1), .val (.int ca2), .val (.int cb0), .val (.int cb1), .val (.int cb2), .val (.ref x16), .val (.ref x17), .val (.ref b18), .val (.ref b22), .unset, .unset] [(.int (1 : Int32))])) u
              refine XS.goto X27.here hx rfl (pc0 := 248) (pc' := 252) rfl (hb hby at_248) (by decide) (by decide) ?_
              show Steps p.tables e below (T27.setTop (mkF m 252 #[.val (.int p0), .val (.int p1), .val (.int p2), .val (.int zA), .val (.int zB), .val (.int la), .val (.int lb), .val (.int ca0), .val (.int ca1), .val (.int ca2), .val (.int cb0), .val (.int cb1), .val (.int cb2), .val (.ref x16), .val (.ref x17), .val (.ref b18), .val (.ref b22), .unset, .unset] [(.int (1 : Int32))])) u
              try simp only [if_pos hc29, if_pos hc30, if_pos hc31, if_neg hc32, if_pos hc33] at k
              exact k
            · skip
              refine XS.icmpYes X27.here hx rfl (pc0 := 244) (pc' := 251) rfl (hb hby at_244) rfl (XT.ii_ne_t hc33) (by decide) (by decide) ?_
              show Steps p.tables e below (T27.setTop (mkF m 251 #[.val (.int p0), .val (.int p1), .val (.int p2), .val (.int zA), .val (.int zB), .val (.int la), .val (.int lb), .val (.int ca0), .val (.int ca1), .val (.int ca2), .val (.int cb0), .val (.int cb1), .val (.int cb2), .val (.ref x16), .val (.ref x17), .val (.ref b18), .val (.ref b22), .unset, .unset] [])) u
              refine XT.iconstV X27.here hx rfl (0 : Int32) (hb hby at_251) (by decide) ?_
              show Steps p.tables e below (T27.setTop (mkF m 252 #[.val (.int p0), .val (.int p1), .val (.int p2), .val (.int zA), .val (.int zB), .val (.int la), .val (.int lb), .val (.int ca0), .val (.int ca1), .val (.int ca2), .val (.int cb0), .val (.int cb1), .val (.int cb2), .val (.ref x16), .val (.ref x17), .val (.ref b18), .val (.ref b22), .unset, .unset] [(.int (0 : Int32))])) u
              try simp only [if_pos hc29, if_pos hc30, if_pos hc31, if_neg hc32, if_neg hc33] at k
              exact k
        · skip
          refine XS.icmpNo X27.here hx rfl (hb hby at_224) rfl (XT.ii_lt_f hc31) ?_
          show Steps p.tables e below (T27.setTop (mkF m 227 #[.val (.int p0), .val (.int p1), .val (.int p2), .val (.int zA), .val (.int zB), .val (.int la), .val (.int lb), .val (.int ca0), .val (.int ca1), .val (.int ca2), .val (.int cb0), .val (.int cb1), .val (.int cb2), .val (.ref x16), .val (.ref x17), .val (.ref b18), .val (.ref b22), .unset, .unset] [])) u
          refine XS.iload X27.here hx rfl (hb hby at_227) rfl ?_
          show Steps p.tables e below (T27.setTop (mkF m 229 #[.val (.int p0), .val (.int p1), .val (.int p2), .val (.int zA), .val (.int zB), .val (.int la), .val (.int lb), .val (.int ca0), .val (.int ca1), .val (.int ca2), .val (.int cb0), .val (.int cb1), .val (.int cb2), .val (.ref x16), .val (.ref x17), .val (.ref b18), .val (.ref b22), .unset, .unset] [(.int ca1)])) u
          refine XS.iload X27.here hx rfl (hb hby at_229) rfl ?_
          show Steps p.tables e below (T27.setTop (mkF m 231 #[.val (.int p0), .val (.int p1), .val (.int p2), .val (.int zA), .val (.int zB), .val (.int la), .val (.int lb), .val (.int ca0), .val (.int ca1), .val (.int ca2), .val (.int cb0), .val (.int cb1), .val (.int cb2), .val (.ref x16), .val (.ref x17), .val (.ref b18), .val (.ref b22), .unset, .unset] [(.int cb1), (.int ca1)])) u
          by_cases hc34 : ca1 = cb1
          · skip
            refine XS.icmpNo X27.here hx rfl (hb hby at_231) rfl (XT.ii_ne_f hc34) ?_
            show Steps p.tables e below (T27.setTop (mkF m 234 #[.val (.int p0), .val (.int p1), .val (.int p2), .val (.int zA), .val (.int zB), .val (.int la), .val (.int lb), .val (.int ca0), .val (.int ca1), .val (.int ca2), .val (.int cb0), .val (.int cb1), .val (.int cb2), .val (.ref x16), .val (.ref x17), .val (.ref b18), .val (.ref b22), .unset, .unset] [])) u
            refine XS.iload X27.here hx rfl (hb hby at_234) rfl ?_
            show Steps p.tables e below (T27.setTop (mkF m 236 #[.val (.int p0), .val (.int p1), .val (.int p2), .val (.int zA), .val (.int zB), .val (.int la), .val (.int lb), .val (.int ca0), .val (.int ca1), .val (.int ca2), .val (.int cb0), .val (.int cb1), .val (.int cb2), .val (.ref x16), .val (.ref x17), .val (.ref b18), .val (.ref b22), .unset, .unset] [(.int la)])) u
            refine XT.iconstV X27.here hx rfl (3 : Int32) (hb hby at_236) (by decide) ?_
            show Steps p.tables e below (T27.setTop (mkF m 237 #[.val (.int p0), .val (.int p1), .val (.int p2), .val (.int zA), .val (.int zB), .val (.int la), .val (.int lb), .val (.int ca0), .val (.int ca1), .val (.int ca2), .val (.int cb0), .val (.int cb1), .val (.int cb2), .val (.ref x16), .val (.ref x17), .val (.ref b18), .val (.ref b22), .unset, .unset] [(.int (3 : Int32)), (.int la)])) u
            by_cases hc35 : la < (3 : Int32)
            · skip
              refine XS.icmpYes X27.here hx rfl (pc0 := 237) (pc' := 247) rfl (hb hby at_237) rfl (XT.ii_lt_t hc35) (by decide) (by decide) ?_
              show Steps p.tables e below (T27.setTop (mkF m 247 #[.val (.int p0), .val (.int p1), .val (.int p2), .val (.int zA), .val (.int zB), .val (.int la), .val (.int lb), .val (.int ca0), .val (.int ca1), .val (.int ca2), .val (.int cb0), .val (.int cb1), .val (.int cb2), .val (.ref x16), .val (.ref x17), .val (.ref b18), .val (.ref b22), .unset, .unset] [])) u
              refine XT.iconstV X27.here hx rfl (1 : Int32) (hb hby at_247) (by decide) ?_
              show Steps p.tables e below (T27.setTop (mkF m 248 #[.val (.int p0), .val (.int p1), .val (.int p2), .val (.int zA), .val (.int zB), .val (.int la), .val (.int lb), .val (.int ca0), .val (.int ca1), .val (.int ca2), .val (.int cb0), .val (.int cb1), .val (.int cb2), .val (.ref x16), .val (.ref x17), .val (.ref b18), .val (.ref b22), .unset, .unset] [(.int (1 : Int32))])) u
              refine XS.goto X27.here hx rfl (pc0 := 248) (pc' := 252) rfl (hb hby at_248) (by decide) (by decide) ?_
              show Steps p.tables e below (T27.setTop (mkF m 252 #[.val (.int p0), .val (.int p1), .val (.int p2), .val (.int zA), .val (.int zB), .val (.int la), .val (.int lb), .val (.int ca0), .val (.int ca1), .val (.int ca2), .val (.int cb0), .val (.int cb1), .val (.int cb2), .val (.ref x16), .val (.ref x17), .val (.ref b18), .val (.ref b22), .unset, .unset] [(.int (1 : Int32))])) u
              try simp only [if_pos hc29, if_pos hc30, if_neg hc31, if_pos hc34, if_pos hc35] at k
              exact k
            · skip
              refine XS.icmpNo X27.here hx rfl (hb hby at_237) rfl (XT.ii_lt_f hc35) ?_
              show Steps p.tables e below (T27.setTop (mkF m 240 #[.val (.int p0), .val (.int p1), .val (.int p2), .val (.int zA), .val (.int zB), .val (.int la), .val (.int lb), .val (.int ca0), .val (.int ca1), .val (.int ca2), .val (.int cb0), .val (.int cb1), .val (.int cb2), .val (.ref x16), .val (.ref x17), .val (.ref b18), .val (.ref b22), .unset, .unset] [])) u
              refine XS.iload X27.here hx rfl (hb hby at_240) rfl ?_
              show Steps p.tables e below (T27.setTop (mkF m 242 #[.val (.int p0), .val (.int p1), .val (.int p2), .val (.int zA), .val (.int zB), .val (.int la), .val (.int lb), .val (.int ca0), .val (.int ca1), .val (.int ca2), .val (.int cb0), .val (.int cb1), .val (.int cb2), .val (.ref x16), .val (.ref x17), .val (.ref b18), .val (.ref b22), .unset, .unset] [(.int ca2)])) u
              refine XS.iload X27.here hx rfl (hb hby at_242) rfl ?_
              show Steps p.tables e below (T27.setTop (mkF m 244 #[.val (.int p0), .val (.int p1), .val (.int p2), .val (.int zA), .val (.int zB), .val (.int la), .val (.int lb), .val (.int ca0), .val (.int ca1), .val (.int ca2), .val (.int cb0), .val (.int cb1), .val (.int cb2), .val (.ref x16), .val (.ref x17), .val (.ref b18), .val (.ref b22), .unset, .unset] [(.int cb2), (.int ca2)])) u
              by_cases hc36 : ca2 = cb2
              · skip
                refine XS.icmpNo X27.here hx rfl (hb hby at_244) rfl (XT.ii_ne_f hc36) ?_
                show Steps p.tables e below (T27.setTop (mkF m 247 #[.val (.int p0), .val (.int p1), .val (.int p2), .val (.int zA), .val (.int zB), .val (.int la), .val (.int lb), .val (.int ca0), .val (.int ca1), .val (.int ca2), .val (.int cb0), .val (.int cb1), .val (.int cb2), .val (.ref x16), .val (.ref x17), .val (.ref b18), .val (.ref b22), .unset, .unset] [])) u
                refine XT.iconstV X27.here hx rfl (1 : Int32) (hb hby at_247) (by decide) ?_
                show Steps p.tables e below (T27.setTop (mkF m 248 #[.val (.int p0), .val (.int p1), .val (.int p2), .val (.int zA), .val (.int zB), .val (.int la), .val (.int lb), .val (.int ca0), .val (.int ca1), .val (.int ca2), .val (.int cb0), .val (.int cb1), .val (.int cb2), .val (.ref x16), .val (.ref x17), .val (.ref b18), .val (.ref b22), .unset, .unset] [(.int (1 : Int32))])) u
                refine XS.goto X27.here hx rfl (pc0 := 248) (pc' := 252) rfl (hb hby at_248) (by decide) (by decide) ?_
                show Steps p.tables e below (T27.setTop (mkF m 252 #[.val (.int p0), .val (.int p1), .val (.int p2), .val (.int zA), .val (.int zB), .val (.int la), .val (.int lb), .val (.int ca0), .val (.int ca1), .val (.int ca2), .val (.int cb0), .val (.int cb1), .val (.int cb2), .val (.ref x16), .val (.ref x17), .val (.ref b18), .val (.ref b22), .unset, .unset] [(.int (1 : Int32))])) u
                try simp only [if_pos hc29, if_pos hc30, if_neg hc31, if_pos hc34, if_neg hc35, if_pos hc36] at k
                exact k
              · skip
                refine XS.icmpYes X27.here hx rfl (pc0 := 244) (pc' := 251) rfl (hb hby at_244) rfl (XT.ii_ne_t hc36) (by decide) (by decide) ?_
                show Steps p.tables e below (T27.setTop (mkF m 251 #[.val (.int p0), .val (.int p1), .val (.int p2), .val (.int zA), .val (.int zB), .val (.int la), .val (.int lb), .val (.int ca0), .val (.int ca1), .val (.int ca2), .val (.int cb0), .val (.int cb1), .val (.int cb2), .val (.ref x16), .val (.ref x17), .val (.ref b18), .val (.ref b22), .unset, .unset] [])) u
                refine XT.iconstV X27.here hx rfl (0 : Int32) (hb hby at_251) (by decide) ?_
                show Steps p.tables e below (T27.setTop (mkF m 252 #[.val (.int p0), .val (.int p1), .val (.int p2), .val (.int zA), .val (.int zB), .val (.int la), .val (.int lb), .val (.int ca0), .val (.int ca1), .val (.int ca2), .val (.int cb0), .val (.int cb1), .val (.int cb2), .val (.ref x16), .val (.ref x17), .val (.ref b18), .val (.ref b22), .unset, .unset] [(.int (0 : Int32))])) u
                try simp only [if_pos hc29, if_pos hc30, if_neg hc31, if_pos hc34, if_neg hc35, if_neg hc36] at k
                exact k
          · skip
            refine XS.icmpYes X27.here hx rfl (pc0 := 231) (pc' := 251) rfl (hb hby at_231) rfl (XT.ii_ne_t hc34) (by decide) (by decide) ?_
            show Steps p.tables e below (T27.setTop (mkF m 251 #[.val (.int p0), .val (.int p1), .val (.int p2), .val (.int zA), .val (.int zB), .val (.int la), .val (.int lb), .val (.int ca0), .val (.int ca1), .val (.int ca2), .val (.int cb0), .val (.int cb1), .val (.int cb2), .val (.ref x16), .val (.ref x17), .val (.ref b18), .val (.ref b22), .unset, .unset] [])) u
            refine XT.iconstV X27.here hx rfl (0 : Int32) (hb hby at_251) (by decide) ?_
            show Steps p.tables e below (T27.setTop (mkF m 252 #[.val (.int p0), .val (.int p1), .val (.int p2), .val (.int zA), .val (.int zB), .val (.int la), .val (.int lb), .val (.int ca0), .val (.int ca1), .val (.int ca2), .val (.int cb0), .val (.int cb1), .val (.int cb2), .val (.ref x16), .val (.ref x17), .val (.ref b18), .val (.ref b22), .unset, .unset] [(.int (0 : Int32))])) u
            try simp only [if_pos hc29, if_pos hc30, if_neg hc31, if_neg hc34] at k
            exact k
      · skip
        refine XS.icmpNo X27.here hx rfl (hb hby at_211) rfl (XT.ii_lt_f hc30) ?_
        show Steps p.tables e below (T27.setTop (mkF m 214 #[.val (.int p0), .val (.int p1), .val (.int p2), .val (.int zA), .val (.int zB), .val (.int la), .val (.int lb), .val (.int ca0), .val (.int ca1), .val (.int ca2), .val (.int cb0), .val (.int cb1), .val (.int cb2), .val (.ref x16), .val (.ref x17), .val (.ref b18), .val (.ref b22), .unset, .unset] [])) u
        refine XS.iload X27.here hx rfl (hb hby at_214) rfl ?_
        show Steps p.tables e below (T27.setTop (mkF m 216 #[.val (.int p0), .val (.int p1), .val (.int p2), .val (.int zA), .val (.int zB), .val (.int la), .val (.int lb), .val (.int ca0), .val (.int ca1), .val (.int ca2), .val (.int cb0), .val (.int cb1), .val (.int cb2), .val (.ref x16), .val (.ref x17), .val (.ref b18), .val (.ref b22), .unset, .unset] [(.int ca0)])) u
        refine XS.iload X27.here hx rfl (hb hby at_216) rfl ?_
        show Steps p.tables e below (T27.setTop (mkF m 218 #[.val (.int p0), .val (.int p1), .val (.int p2), .val (.int zA), .val (.int zB), .val (.int la), .val (.int lb), .val (.int ca0), .val (.int ca1), .val (.int ca2), .val (.int cb0), .val (.int cb1), .val (.int cb2), .val (.ref x16), .val (.ref x17), .val (.ref b18), .val (.ref b22), .unset, .unset] [(.int cb0), (.int ca0)])) u
        by_cases hc37 : ca0 = cb0
        · skip
          refine XS.icmpNo X27.here hx rfl (hb hby at_218) rfl (XT.ii_ne_f hc37) ?_
          show Steps p.tables e below (T27.setTop (mkF m 221 #[.val (.int p0), .val (.int p1), .val (.int p2), .val (.int zA), .val (.int zB), .val (.int la), .val (.int lb), .val (.int ca0), .val (.int ca1), .val (.int ca2), .val (.int cb0), .val (.int cb1), .val (.int cb2), .val (.ref x16), .val (.ref x17), .val (.ref b18), .val (.ref b22), .unset, .unset] [])) u
          refine XS.iload X27.here hx rfl (hb hby at_221) rfl ?_
          show Steps p.tables e below (T27.setTop (mkF m 223 #[.val (.int p0), .val (.int p1), .val (.int p2), .val (.int zA), .val (.int zB), .val (.int la), .val (.int lb), .val (.int ca0), .val (.int ca1), .val (.int ca2), .val (.int cb0), .val (.int cb1), .val (.int cb2), .val (.ref x16), .val (.ref x17), .val (.ref b18), .val (.ref b22), .unset, .unset] [(.int la)])) u
          refine XT.iconstV X27.here hx rfl (2 : Int32) (hb hby at_223) (by decide) ?_
          show Steps p.tables e below (T27.setTop (mkF m 224 #[.val (.int p0), .val (.int p1), .val (.int p2), .val (.int zA), .val (.int zB), .val (.int la), .val (.int lb), .val (.int ca0), .val (.int ca1), .val (.int ca2), .val (.int cb0), .val (.int cb1), .val (.int cb2), .val (.ref x16), .val (.ref x17), .val (.ref b18), .val (.ref b22), .unset, .unset] [(.int (2 : Int32)), (.int la)])) u
          by_cases hc38 : la < (2 : Int32)
          · skip
            refine XS.icmpYes X27.here hx rfl (pc0 := 224) (pc' := 234) rfl (hb hby at_224) rfl (XT.ii_lt_t hc38) (by decide) (by decide) ?_
            show Steps p.tables e below (T27.setTop (mkF m 234 #[.val (.int p0), .val (.int p1), .val (.int p2), .val (.int zA), .val (.int zB), .val (.int la), .val (.int lb), .val (.int ca0), .val (.int ca1), .val (.int ca2), .val (.int cb0), .val (.int cb1), .val (.int cb2), .val (.ref x16), .val (.ref x17), .val (.ref b18), .val (.ref b22), .unset, .unset] [])) u
            refine XS.iload X27.here hx rfl (hb hby at_234) rfl ?_
            show Steps p.tables e below (T27.setTop (mkF m 236 #[.val (.int p0), .val (.int p1), .val (.int p2), .val (.int zA), .val (.int zB), .val (.int la), .val (.int lb), .val (.int ca0), .val (.int ca1), .val (.int ca2), .val (.int cb0), .val (.int cb1), .val (.int cb2), .val (.ref x16), .val (.ref x17), .val (.ref b18), .val (.ref b22), .unset, .unset] [(.int la)])) u
            refine XT.iconstV X27.here hx rfl (3 : Int32) (hb hby at_236) (by decide) ?_
            show Steps p.tables e below (T27.setTop (mkF m 237 #[.val (.int p0), .val (.int p1), .val (.int p2), .val (.int zA), .val (.int zB), .val (.int la), .val (.int lb), .val (.int ca0), .val (.int ca1), .val (.int ca2), .val (.int cb0), .val (.int cb1), .val (.int cb2), .val (.ref x16), .val (.ref x17), .val (.ref b18), .val (.ref b22), .unset, .unset] [(.int (3 : Int32)), (.int la)])) u
            by_cases hc39 : la < (3 : Int32)
            · skip
              refine XS.icmpYes X27.here hx rfl (pc0 := 237) (pc' := 247) rfl (hb hby at_237) rfl (XT.ii_lt_t hc39) (by decide) (by decide) ?_
              show Steps p.tables e below (T27.setTop (mkF m 247 #[.val (.int p0), .val (.int p1), .val (.int p2), .val (.int zA), .val (.int zB), .val (.int la), .val (.int lb), .val (.int ca0), .val (.int ca1), .val (.int ca2), .val (.int cb0), .val (.int cb1), .val (.int cb2), .val (.ref x16), .val (.ref x17), .val (.ref b18), .val (.ref b22), .unset, .unset] [])) u
              refine XT.iconstV X27.here hx rfl (1 : Int32) (hb hby at_247) (by decide) ?_
              show Steps p.tables e below (T27.setTop (mkF m 248 #[.val (.int p0), .val (.int p1), .val (.int p2), .val (.int zA), .val (.int zB), .val (.int la), .val (.int lb), .val (.int ca0), .val (.int ca1), .val (.int ca2), .val (.int cb0), .val (.int cb1), .val (.int cb2), .val (.ref x16), .val (.ref x17), .val (.ref b18), .val (.ref b22), .unset, .unset] [(.int (1 : Int32))])) u
              refine XS.goto X27.here hx rfl (pc0 := 248) (pc' := 252) rfl (hb hby at_248) (by decide) (by decide) ?_
              show Steps p.tables e below (T27.setTop (mkF m 252 #[.val (.int p0), .val (.int p1), .val (.int p2), .val (.int zA), .val (.int zB), .val (.int la), .val (.int lb), .val (.int ca0), .val (.int ca1), .val (.int ca2), .val (.int cb0), .val (.int cb1), .val (.int cb2), .val (.ref x16), .val (.ref x17), .val (.ref b18), .val (.ref b22), .unset, .unset] [(.int (1 : Int32))])) u
              try simp only [if_pos hc29, if_neg hc30, if_pos hc37, if_pos hc38, if_pos hc39] at k
              exact k
            · skip
              refine XS.icmpNo X27.here hx rfl (hb hby at_237) rfl (XT.ii_lt_f hc39) ?_
              show Steps p.tables e below (T27.setTop (mkF m 240 #[.val (.int p0), .val (.int p1), .val (.int p2), .val (.int zA), .val (.int zB), .val (.int la), .val (.int lb), .val (.int ca0), .val (.int ca1), .val (.int ca2), .val (.int cb0), .val (.int cb1), .val (.int cb2), .val (.ref x16), .val (.ref x17), .val (.ref b18), .val (.ref b22), .unset, .unset] [])) u
              refine XS.iload X27.here hx rfl (hb hby at_240) rfl ?_
              show Steps p.tables e below (T27.setTop (mkF m 242 #[.val (.int p0), .val (.int p1), .val (.int p2), .val (.int zA), .val (.int zB), .val (.int la), .val (.int lb), .val (.int ca0), .val (.int ca1), .val (.int ca2), .val (.int cb0), .val (.int cb1), .val (.int cb2), .val (.ref x16), .val (.ref x17), .val (.ref b18), .val (.ref b22), .unset, .unset] [(.int ca2)])) u
              refine XS.iload X27.here hx rfl (hb hby at_242) rfl ?_
              show Steps p.tables e below (T27.setTop (mkF m 244 #[.val (.int p0), .val (.int p1), .val (.int p2), .val (.int zA), .val (.int zB), .val (.int la), .val (.int lb), .val (.int ca0), .val (.int ca1), .val (.int ca2), .val (.int cb0), .val (.int cb1), .val (.int cb2), .val (.ref x16), .val (.ref x17), .val (.ref b18), .val (.ref b22), .unset, .unset] [(.int cb2), (.int ca2)])) u
              by_cases hc40 : ca2 = cb2
              · skip
                refine XS.icmpNo X27.here hx rfl (hb hby at_244) rfl (XT.ii_ne_f hc40) ?_
                show Steps p.tables e below (T27.setTop (mkF m 247 #[.val (.int p0), .val (.int p1), .val (.int p2), .val (.int zA), .val (.int zB), .val (.int la), .val (.int lb), .val (.int ca0), .val (.int ca1), .val (.int ca2), .val (.int cb0), .val (.int cb1), .val (.int cb2), .val (.ref x16), .val (.ref x17), .val (.ref b18), .val (.ref b22), .unset, .unset] [])) u
                refine XT.iconstV X27.here hx rfl (1 : Int32) (hb hby at_247) (by decide) ?_
                show Steps p.tables e below (T27.setTop (mkF m 248 #[.val (.int p0), .val (.int p1), .val (.int p2), .val (.int zA), .val (.int zB), .val (.int la), .val (.int lb), .val (.int ca0), .val (.int ca1), .val (.int ca2), .val (.int cb0), .val (.int cb1), .val (.int cb2), .val (.ref x16), .val (.ref x17), .val (.ref b18), .val (.ref b22), .unset, .unset] [(.int (1 : Int32))])) u
                refine XS.goto X27.here hx rfl (pc0 := 248) (pc' := 252) rfl (hb hby at_248) (by decide) (by decide) ?_
                show Steps p.tables e below (T27.setTop (mkF m 252 #[.val (.int p0), .val (.int p1), .val (.int p2), .val (.int zA), .val (.int zB), .val (.int la), .val (.int lb), .val (.int ca0), .val (.int ca1), .val (.int ca2), .val (.int cb0), .val (.int cb1), .val (.int cb2), .val (.ref x16), .val (.ref x17), .val (.ref b18), .val (.ref b22), .unset, .unset] [(.int (1 : Int32))])) u
                try simp only [if_pos hc29, if_neg hc30, if_pos hc37, if_pos hc38, if_neg hc39, if_pos hc40] at k
                exact k
              · skip
                refine XS.icmpYes X27.here hx rfl (pc0 := 244) (pc' := 251) rfl (hb hby at_244) rfl (XT.ii_ne_t hc40) (by decide) (by decide) ?_
                show Steps p.tables e below (T27.setTop (mkF m 251 #[.val (.int p0), .val (.int p1), .val (.int p2), .val (.int zA), .val (.int zB), .val (.int la), .val (.int lb), .val (.int ca0), .val (.int ca1), .val (.int ca2), .val (.int cb0), .val (.int cb1), .val (.int cb2), .val (.ref x16), .val (.ref x17), .val (.ref b18), .val (.ref b22), .unset, .unset] [])) u
                refine XT.iconstV X27.here hx rfl (0 : Int32) (hb hby at_251) (by decide) ?_
                show Steps p.tables e below (T27.setTop (mkF m 252 #[.val (.int p0), .val (.int p1), .val (.int p2), .val (.int zA), .val (.int zB), .val (.int la), .val (.int lb), .val (.int ca0), .val (.int ca1), .val (.int ca2), .val (.int cb0), .val (.int cb1), .val (.int cb2), .val (.ref x16), .val (.ref x17), .val (.ref b18), .val (.ref b22), .unset, .unset] [(.int (0 : Int32))])) u
                try simp only [if_pos hc29, if_neg hc30, if_pos hc37, if_pos hc38, if_neg hc39, if_neg hc40] at k
                exact k
          · skip
            refine XS.icmpNo X27.here hx rfl (hb hby at_224) rfl (XT.ii_lt_f hc38) ?_
            show Steps p.tables e below (T27.setTop (mkF m 227 #[.val (.int p0), .val (.int p1), .val (.int p2), .val (.int zA), .val (.int zB), .val (.int la), .val (.int lb), .val (.int ca0), .val (.int ca1), .val (.int ca2), .val (.int cb0), .val (.int cb1), .val (.int cb2), .val (.ref x16), .val (.ref x17), .val (.ref b18), .val (.ref b22), .unset, .unset] [])) u
            refine XS.iload X27.here hx rfl (hb hby at_227) rfl ?_
            show Steps p.tables e below (T27.setTop (mkF m 229 #[.val (.int p0), .val (.int p1), .val (.int p2), .val (.int zA), .val (.int zB), .val (.int la), .val (.int lb), .val (.int ca0), .val (.int ca1), .val (.int ca2), .val (.int cb0), .val (.int cb1), .val (.int cb2), .val (.ref x16), .val (.ref x17), .val (.ref b18), .val (.ref b22), .unset, .unset] [(.int ca1)])) u
            refine XS.iload X27.here hx rfl (hb hby at_229) rfl ?_
            show Steps p.tables e below (T27.setTop (mkF m 231 #[.val (.int p0), .val (.int p1), .val (.int p2), .val (.int zA), .val (.int zB), .val (.int la), .val (.int lb), .val (.int ca0), .val (.int ca1), .val (.int ca2), .val (.int cb0), .val (.int cb1), .val (.int cb2), .val (.ref x16), .val (.ref x17), .val (.ref b18), .val (.ref b22), .unset, .unset] [(.int cb1), (.int ca1)])) u
            by_cases hc41 : ca1 = cb1
            · skip
              refine XS.icmpNo X27.here hx rfl (hb hby at_231) rfl (XT.ii_ne_f hc41) ?_
              show Steps p.tables e below (T27.setTop (mkF m 234 #[.val (.int p0), .val (.int p1), .val (.int p2), .val (.int zA), .val (.int zB), .val (.int la), .val (.int lb), .val (.int ca0), .val (.int ca1), .val (.int ca2), .val (.int cb0), .val (.int cb1), .val (.int cb2), .val (.ref x16), .val (.ref x17), .val (.ref b18), .val (.ref b22), .unset, .unset] [])) u
              refine XS.iload X27.here hx rfl (hb hby at_234) rfl ?_
              show Steps p.tables e below (T27.setTop (mkF m 236 #[.val (.int p0), .val (.int p1), .val (.int p2), .val (.int zA), .val (.int zB), .val (.int la), .val (.int lb), .val (.int ca0), .val (.int ca1), .val (.int ca2), .val (.int cb0), .val (.int cb1), .val (.int cb2), .val (.ref x16), .val (.ref x17), .val (.ref b18), .val (.ref b22), .unset, .unset] [(.int la)])) u
              refine XT.iconstV X27.here hx rfl (3 : Int32) (hb hby at_236) (by decide) ?_
              show Steps p.tables e below (T27.setTop (mkF m 237 #[.val (.int p0), .val (.int p1), .val (.int p2), .val (.int zA), .val (.int zB), .val (.int la), .val (.int lb), .val (.int ca0), .val (.int ca1), .val (.int ca2), .val (.int cb0), .val (.int cb1), .val (.int cb2), .val (.ref x16), .val (.ref x17), .val (.ref b18), .val (.ref b22), .unset, .unset] [(.int (3 : Int32)), (.int la)])) u
              by_cases hc42 : la < (3 : Int32)
              · skip
                refine XS.icmpYes X27.here hx rfl (pc0 := 237) (pc' := 247) rfl (hb hby at_237) rfl (XT.ii_lt_t hc42) (by decide) (by decide) ?_
                show Steps p.tables e below (T27.setTop (mkF m 247 #[.val (.int p0), .val (.int p1), .val (.int p2), .val (.int zA), .val (.int zB), .val (.int la), .val (.int lb), .val (.int ca0), .val (.int ca1), .val (.int ca2), .val (.int cb0), .val (.int cb1), .val (.int cb2), .val (.ref x16), .val (.ref x17), .val (.ref b18), .val (.ref b22), .unset, .unset] [])) u
                refine XT.iconstV X27.here hx rfl (1 : Int32) (hb hby at_247) (by decide) ?_
                show Steps p.tables e below (T27.setTop (mkF m 248 #[.val (.int p0), .val (.int p1), .val (.int p2), .val (.int zA), .val (.int zB), .val (.int la), .val (.int lb), .val (.int ca0), .val (.int ca1), .val (.int ca2), .val (.int cb0), .val (.int cb1), .val (.int cb2), .val (.ref x16), .val (.ref x17), .val (.ref b18), .val (.ref b22), .unset, .unset] [(.int (1 : Int32))])) u
                refine XS.goto X27.here hx rfl (pc0 := 248) (pc' := 252) rfl (hb hby at_248) (by decide) (by decide) ?_
                show Steps p.tables e below (T27.setTop (mkF m 252 #[.val (.int p0), .val (.int p1), .val (.int p2), .val (.int zA), .val (.int zB), .val (.int la), .val (.int lb), .val (.int ca0), .val (.int ca1), .val (.int ca2), .val (.int cb0), .val (.int cb1), .val (.int cb2), .val (.ref x16), .val (.ref x17), .val (.ref b18), .val (.ref b22), .unset, .unset] [(.int (1 : Int32))])) u
                try simp only [if_pos hc29, if_neg hc30, if_pos hc37, if_neg hc38, if_pos hc41, if_pos hc42] at k
                exact k
              · skip
                refine XS.icmpNo X27.here hx rfl (hb hby at_237) rfl (XT.ii_lt_f hc42) ?_
                show Steps p.tables e below (T27.setTop (mkF m 240 #[.val (.int p0), .val (.int p1), .val (.int p2), .val (.int zA), .val (.int zB), .val (.int la), .val (.int lb), .val (.int ca0), .val (.int ca1), .val (.int ca2), .val (.int cb0), .val (.int cb1), .val (.int cb2), .val (.ref x16), .val (.ref x17), .val (.ref b18), .val (.ref b22), .unset, .unset] [])) u
                refine XS.iload X27.here hx rfl (hb hby at_240) rfl ?_
                show Steps p.tables e below (T27.setTop (mkF m 242 #[.val (.int p0), .val (.int p1), .val (.int p2), .val (.int zA), .val (.int zB), .val (.int la), .val (.int lb), .val (.int ca0), .val (.int ca1), .val (.int ca2), .val (.int cb0), .val (.int cb1), .val (.int cb2), .val (.ref x16), .val (.ref x17), .val (.ref b18), .val (.ref b22), .unset, .unset] [(.int ca2)])) u
                refine XS.iload X27.here hx rfl (hb hby at_242) rfl ?_
                show Steps p.tables e below (T27.setTop (mkF m 244 #[.val (.int p0), .val (.int p1), .val (.int p2), .val (.int zA), .val (.int zB), .val (.int la), .val (.int lb), .val (.int ca0), .val (.int ca1), .val (.int ca2), .val (.int cb0), .val (.int cb1), .val (.int cb2), .val (.ref x16), .val (.ref x17), .val (.ref b18), .val (.ref b22), .unset, .unset] [(.int cb2), (.int ca2)])) u
                by_cases hc43 : ca2 = cb2
                · skip
                  refine XS.icmpNo X27.here hx rfl (hb hby at_244) rfl (XT.ii_ne_f hc43) ?_
                  show Steps p.tables e below (T27.setTop (mkF m 247 #[.val (.int p0), .val (.int p1), .val (.int p2), .val (.int zA), .val (.int zB), .val (.int la), .val (.int lb), .val (.int ca0), .val (.int ca1), .val (.int ca2), .val (.int cb0), .val (.int cb1), .val (.int cb2), .val (.ref x16), .val (.ref x17), .val (.ref b18), .val (.ref b22), .unset, .unset] [])) u
                  refine XT.iconstV X27.here hx rfl (1 : Int32) (hb hby at_247) (by decide) ?_
                  show Steps p.tables e below (T27.setTop (mkF m 248 #[.val (.int p0), .val (.int p1), .val (.int p2), .val (.int zA), .val (.int zB), .val (.int la), .val (.int lb), .val (.int ca0), .val (.int ca1), .val (.int ca2), .val (.int cb0), .val (.int cb1), .val (.int cb2), .val (.ref x16), .val (.ref x17), .val (.ref b18), .val (.ref b22), .unset, .unset] [(.int (1 : Int32))])) u
                  refine XS.goto X27.here hx rfl (pc0 := 248) (pc' := 252) rfl (hb hby at_248) (by decide) (by decide) ?_
                  show Steps p.tables e below (T27.setTop (mkF m 252 #[.val (.int p0), .val (.int p1), .val (.int p2), .val (.int zA), .val (.int zB), .val (.int la), .val (.int lb), .val (.int ca0), .val (.int ca1), .val (.int ca2), .val (.int cb0), .val (.int cb1), .val (.int cb2), .val (.ref x16), .val (.ref x17), .val (.ref b18), .val (.ref b22), .unset, .unset] [(.int (1 : Int32))])) u
                  try simp only [if_pos hc29, if_neg hc30, if_pos hc37, if_neg hc38, if_pos hc41, if_neg hc42, if_pos hc43] at k
                  exact k
                · skip
                  refine XS.icmpYes X27.here hx rfl (pc0 := 244) (pc' := 251) rfl (hb hby at_244) rfl (XT.ii_ne_t hc43) (by decide) (by decide) ?_
                  show Steps p.tables e below (T27.setTop (mkF m 251 #[.val (.int p0), .val (.int p1), .val (.int p2), .val (.int zA), .val (.int zB), .val (.int la), .val (.int lb), .val (.int ca0), .val (.int ca1), .val (.int ca2), .val (.int cb0), .val (.int cb1), .val (.int cb2), .val (.ref x16), .val (.ref x17), .val (.ref b18), .val (.ref b22), .unset, .unset] [])) u
                  refine XT.iconstV X27.here hx rfl (0 : Int32) (hb hby at_251) (by decide) ?_
                  show Steps p.tables e below (T27.setTop (mkF m 252 #[.val (.int p0), .val (.int p1), .val (.int p2), .val (.int zA), .val (.int zB), .val (.int la), .val (.int lb), .val (.int ca0), .val (.int ca1), .val (.int ca2), .val (.int cb0), .val (.int cb1), .val (.int cb2), .val (.ref x16), .val (.ref x17), .val (.ref b18), .val (.ref b22), .unset, .unset] [(.int (0 : Int32))])) u
                  try simp only [if_pos hc29, if_neg hc30, if_pos hc37, if_neg hc38, if_pos hc41, if_neg hc42, if_neg hc43] at k
                  exact k
            · skip
              refine XS.icmpYes X27.here hx rfl (pc0 := 231) (pc' := 251) rfl (hb hby at_231) rfl (XT.ii_ne_t hc41) (by decide) (by decide) ?_
              show Steps p.tables e below (T27.setTop (mkF m 251 #[.val (.int p0), .val (.int p1), .val (.int p2), .val (.int zA), .val (.int zB), .val (.int la), .val (.int lb), .val (.int ca0), .val (.int ca1), .val (.int ca2), .val (.int cb0), .val (.int cb1), .val (.int cb2), .val (.ref x16), .val (.ref x17), .val (.ref b18), .val (.ref b22), .unset, .unset] [])) u
              refine XT.iconstV X27.here hx rfl (0 : Int32) (hb hby at_251) (by decide) ?_
              show Steps p.tables e below (T27.setTop (mkF m 252 #[.val (.int p0), .val (.int p1), .val (.int p2), .val (.int zA), .val (.int zB), .val (.int la), .val (.int lb), .val (.int ca0), .val (.int ca1), .val (.int ca2), .val (.int cb0), .val (.int cb1), .val (.int cb2), .val (.ref x16), .val (.ref x17), .val (.ref b18), .val (.ref b22), .unset, .unset] [(.int (0 : Int32))])) u
              try simp only [if_pos hc29, if_neg hc30, if_pos hc37, if_neg hc38, if_neg hc41] at k
              exact k
        · skip
          refine XS.icmpYes X27.here hx rfl (pc0 := 218) (pc' := 251) rfl (hb hby at_218) rfl (XT.ii_ne_t hc37) (by decide) (by decide) ?_
          show Steps p.tables e below (T27.setTop (mkF m 251 #[.val (.int p0), .val (.int p1), .val (.int p2), .val (.int zA), .val (.int zB), .val (.int la), .val (.int lb), .val (.int ca0), .val (.int ca1), .val (.int ca2), .val (.int cb0), .val (.int cb1), .val (.int cb2), .val (.ref x16), .val (.ref x17), .val (.ref b18), .val (.ref b22), .unset, .unset] [])) u
          refine XT.iconstV X27.here hx rfl (0 : Int32) (hb hby at_251) (by decide) ?_
          show Steps p.tables e below (T27.setTop (mkF m 252 #[.val (.int p0), .val (.int p1), .val (.int p2), .val (.int zA), .val (.int zB), .val (.int la), .val (.int lb), .val (.int ca0), .val (.int ca1), .val (.int ca2), .val (.int cb0), .val (.int cb1), .val (.int cb2), .val (.ref x16), .val (.ref x17), .val (.ref b18), .val (.ref b22), .unset, .unset] [(.int (0 : Int32))])) u
          try simp only [if_pos hc29, if_neg hc30, if_neg hc37] at k
          exact k
    · skip
      refine XS.icmpYes X27.here hx rfl (pc0 := 205) (pc' := 251) rfl (hb hby at_205) rfl (XT.ii_ne_t hc29) (by decide) (by decide) ?_
      show Steps p.tables e below (T27.setTop (mkF m 251 #[.val (.int p0), .val (.int p1), .val (.int p2), .val (.int zA), .val (.int zB), .val (.int la), .val (.int lb), .val (.int ca0), .val (.int ca1), .val (.int ca2), .val (.int cb0), .val (.int cb1), .val (.int cb2), .val (.ref x16), .val (.ref x17), .val (.ref b18), .val (.ref b22), .unset, .unset] [])) u
      refine XT.iconstV X27.here hx rfl (0 : Int32) (hb hby at_251) (by decide) ?_
      show Steps p.tables e below (T27.setTop (mkF m 252 #[.val (.int p0), .val (.int p1), .val (.int p2), .val (.int zA), .val (.int zB), .val (.int la), .val (.int lb), .val (.int ca0), .val (.int ca1), .val (.int ca2), .val (.int cb0), .val (.int cb1), .val (.int cb2), .val (.ref x16), .val (.ref x17), .val (.ref b18), .val (.ref b22), .unset, .unset] [(.int (0 : Int32))])) u
      try simp only [if_neg hc29] at k
      exact k
  refine Go.back (t' := (T27.setTop (mkF m 252 #[.val (.int p0), .val (.int p1), .val (.int p2), .val (.int zA), .val (.int zB), .val (.int la), .val (.int lb), .val (.int ca0), .val (.int ca1), .val (.int ca2), .val (.int cb0), .val (.int cb1), .val (.int cb2), .val (.ref x16), .val (.ref x17), .val (.ref b18), .val (.ref b22), .unset, .unset] [(.int (if la = lb then (if la < (1 : Int32) then (if la < (2 : Int32) then (if la < (3 : Int32) then (1 : Int32) else (if ca2 = cb2 then (1 : Int32) else (0 : Int32))) else (if ca1 = cb1 then (if la < (3 : Int32) then (1 : Int32) else (if ca2 = cb2 then (1 : Int32) else (0 : Int32))) else (0 : Int32))) else (if ca0 = cb0 then (if la < (2 : Int32) then (if la < (3 : Int32) then (1 : Int32) else (if ca2 = cb2 then (1 : Int32) else (0 : Int32))) else (if ca1 = cb1 then (if la < (3 : Int32) then (1 : Int32) else (if ca2 = cb2 then (1 : Int32) else (0 : Int32))) else (0 : Int32))) else (0 : Int32))) else (0 : Int32)))]))) sg28 ?_
  obtain ⟨sm, h_sm⟩ : ∃ z : Int32, z = (if la = lb then (if la < (1 : Int32) then (if la < (2 : Int32) then (if la < (3 : Int32) then (1 : Int32) else (if ca2 = cb2 then (1 : Int32) else (0 : Int32))) else (if ca1 = cb1 then (if la < (3 : Int32) then (1 : Int32) else (if ca2 = cb2 then (1 : Int32) else (0 : Int32))) else (0 : Int32))) else (if ca0 = cb0 then (if la < (2 : Int32) then (if la < (3 : Int32) then (1 : Int32) else (if ca2 = cb2 then (1 : Int32) else (0 : Int32))) else (if ca1 = cb1 then (if la < (3 : Int32) then (1 : Int32) else (if ca2 = cb2 then (1 : Int32) else (0 : Int32))) else (0 : Int32))) else (0 : Int32))) else (0 : Int32)) := ⟨_, rfl⟩
  rw [← h_sm]
  refine Go.back (t' := (T27.setTop (mkF m 254 #[.val (.int p0), .val (.int p1), .val (.int p2), .val (.int zA), .val (.int zB), .val (.int la), .val (.int lb), .val (.int ca0), .val (.int ca1), .val (.int ca2), .val (.int cb0), .val (.int cb1), .val (.int cb2), .val (.ref x16), .val (.ref x17), .val (.ref b18), .val (.ref b22), .val (.int sm), .unset] []))) (fun u k => XS.istore X27.here hx rfl (hb hby at_252) rfl (l' := #[.val (.int p0), .val (.int p1), .val (.int p2), .val (.int zA), .val (.int zB), .val (.int la), .val (.int lb), .val (.int ca0), .val (.int ca1), .val (.int ca2), .val (.int cb0), .val (.int cb1), .val (.int cb2), .val (.ref x16), .val (.ref x17), .val (.ref b18), .val (.ref b22), .val (.int sm), .unset]) rfl k) ?_
  have sg44 : ∀ u, Steps p.tables e below (T27.setTop (mkF m 273 #[.val (.int p0), .val (.int p1), .val (.int p2), .val (.int zA), .val (.int zB), .val (.int la), .val (.int lb), .val (.int ca0), .val (.int ca1), .val (.int ca2), .val (.int cb0), .val (.int cb1), .val (.int cb2), .val (.ref x16), .val (.ref x17), .val (.ref b18), .val (.ref b22), .val (.int sm), .unset] [(.int (if zA = (0 : Int32) then (if zB = (0 : Int32) then (if sm = (0 : Int32) then (0 : Int32) else (1 : Int32)) else (0 : Int32)) else (0 : Int32)))])) u → Steps p.tables e below (T27.setTop (mkF m 254 #[.val (.int p0), .val (.int p1), .val (.int p2), .val (.int zA), .val (.int zB), .val (.int la), .val (.int lb), .val (.int ca0), .val (.int ca1), .val (.int ca2), .val (.int cb0), .val (.int cb1), .val (.int cb2), .val (.ref x16), .val (.ref x17), .val (.ref b18), .val (.ref b22), .val (.int sm), .unset] [])) u := by
    intro u k
    refine XS.iloadN X27.here hx rfl (hb hby at_254) rfl ?_
    show Steps p.tables e below (T27.setTop (mkF m 255 #[.val (.int p0), .val (.int p1), .val (.int p2), .val (.int zA), .val (.int zB), .val (.int la), .val (.int lb), .val (.int ca0), .val (.int ca1), .val (.int ca2), .val (.int cb0), .val (.int cb1), .val (.int cb2), .val (.ref x16), .val (.ref x17), .val (.ref b18), .val (.ref b22), .val (.int sm), .unset] [(.int zA)])) u
    by_cases hc45 : zA = (0 : Int32)
    · skip
      refine XS.ifNo X27.here hx rfl (hb hby at_255) rfl (XT.i0_ne_f hc45) ?_
      show Steps p.tables e below (T27.setTop (mkF m 258 #[.val (.int p0), .val (.int p1), .val (.int p2), .val (.int zA), .val (.int zB), .val (.int la), .val (.int lb), .val (.int ca0), .val (.int ca1), .val (.int ca2), .val (.int cb0), .val (.int cb1), .val (.int cb2), .val (.ref x16), .val (.ref x17), .val (.ref b18), .val (.ref b22), .val (.int sm), .unset] [])) u
      refine XS.iload X27.here hx rfl (hb hby at_258) rfl ?_
      show Steps p.tables e below (T27.setTop (mkF m 260 #[.val (.int p0), .val (.int p1), .val (.int p2), .val (.int zA), .val (.int zB), .val (.int la), .val (.int lb), .val (.int ca0), .val (.int ca1), .val (.int ca2), .val (.int cb0), .val (.int cb1), .val (.int cb2), .val (.ref x16), .val (.ref x17), .val (.ref b18), .val (.ref b22), .val (.int sm), .unset] [(.int zB)])) u
      by_cases hc46 : zB = (0 : Int32)
      · skip
        refine XS.ifNo X27.here hx rfl (hb hby at_260) rfl (XT.i0_ne_f hc46) ?_
        show Steps p.tables e below (T27.setTop (mkF m 263 #[.val (.int p0), .val (.int p1), .val (.int p2), .val (.int zA), .val (.int zB), .val (.int la), .val (.int lb), .val (.int ca0), .val (.int ca1), .val (.int ca2), .val (.int cb0), .val (.int cb1), .val (.int cb2), .val (.ref x16), .val (.ref x17), .val (.ref b18), .val (.ref b22), .val (.int sm), .unset] [])) u
        refine XS.iload X27.here hx rfl (hb hby at_263) rfl ?_
        show Steps p.tables e below (T27.setTop (mkF m 265 #[.val (.int p0), .val (.int p1), .val (.int p2), .val (.int zA), .val (.int zB), .val (.int la), .val (.int lb), .val (.int ca0), .val (.int ca1), .val (.int ca2), .val (.int cb0), .val (.int cb1), .val (.int cb2), .val (.ref x16), .val (.ref x17), .val (.ref b18), .val (.ref b22), .val (.int sm), .unset] [(.int sm)])) u
        by_cases hc47 : sm = (0 : Int32)
        · skip
          refine XS.ifYes X27.here hx rfl (pc0 := 265) (pc' := 272) rfl (hb hby at_265) rfl (XT.i0_eq_t hc47) (by decide) (by decide) ?_
          show Steps p.tables e below (T27.setTop (mkF m 272 #[.val (.int p0), .val (.int p1), .val (.int p2), .val (.int zA), .val (.int zB), .val (.int la), .val (.int lb), .val (.int ca0), .val (.int ca1), .val (.int ca2), .val (.int cb0), .val (.int cb1), .val (.int cb2), .val (.ref x16), .val (.ref x17), .val (.ref b18), .val (.ref b22), .val (.int sm), .unset] [])) u
          refine XT.iconstV X27.here hx rfl (0 : Int32) (hb hby at_272) (by decide) ?_
          show Steps p.tables e below (T27.setTop (mkF m 273 #[.val (.int p0), .val (.int p1), .val (.int p2), .val (.int zA), .val (.int zB), .val (.int la), .val (.int lb), .val (.int ca0), .val (.int ca1), .val (.int ca2), .val (.int cb0), .val (.int cb1), .val (.int cb2), .val (.ref x16), .val (.ref x17), .val (.ref b18), .val (.ref b22), .val (.int sm), .unset] [(.int (0 : Int32))])) u
          try simp only [if_pos hc45, if_pos hc46, if_pos hc47] at k
          exact k
        · skip
          refine XS.ifNo X27.here hx rfl (hb hby at_265) rfl (XT.i0_eq_f hc47) ?_
          show Steps p.tables e below (T27.setTop (mkF m 268 #[.val (.int p0), .val (.int p1), .val (.int p2), .val (.int zA), .val (.int zB), .val (.int la), .val (.int lb), .val (.int ca0), .val (.int ca1), .val (.int ca2), .val (.int cb0), .val (.int cb1), .val (.int cb2), .val (.ref x16), .val (.ref x17), .val (.ref b18), .val (.ref b22), .val (.int sm), .unset] [])) u
          refine XT.iconstV X27.here hx rfl (1 : Int32) (hb hby at_268) (by decide) ?_
          show Steps p.tables e below (T27.setTop (mkF m 269 #[.val (.int p0), .val (.int p1), .val (.int p2), .val (.int zA), .val (.int zB), .val (.int la), .val (.int lb), .val (.int ca0), .val (.int ca1), .val (.int ca2), .val (.int cb0), .val (.int cb1), .val (.int cb2), .val (.ref x16), .val (.ref x17), .val (.ref b18), .val (.ref b22), .val (.int sm), .unset] [(.int (1 : Int32))])) u
          refine XS.goto X27.here hx rfl (pc0 := 269) (pc' := 273) rfl (hb hby at_269) (by decide) (by decide) ?_
          show Steps p.tables e below (T27.setTop (mkF m 273 #[.val (.int p0), .val (.int p1), .val (.int p2), .val (.int zA), .val (.int zB), .val (.int la), .val (.int lb), .val (.int ca0), .val (.int ca1), .val (.int ca2), .val (.int cb0), .val (.int cb1), .val (.int cb2), .val (.ref x16), .val (.ref x17), .val (.ref b18), .val (.ref b22), .val (.int sm), .unset] [(.int (1 : Int32))])) u
          try simp only [if_pos hc45, if_pos hc46, if_neg hc47] at k
          exact k
      · skip
        refine XS.ifYes X27.here hx rfl (pc0 := 260) (pc' := 272) rfl (hb hby at_260) rfl (XT.i0_ne_t hc46) (by decide) (by decide) ?_
        show Steps p.tables e below (T27.setTop (mkF m 272 #[.val (.int p0), .val (.int p1), .val (.int p2), .val (.int zA), .val (.int zB), .val (.int la), .val (.int lb), .val (.int ca0), .val (.int ca1), .val (.int ca2), .val (.int cb0), .val (.int cb1), .val (.int cb2), .val (.ref x16), .val (.ref x17), .val (.ref b18), .val (.ref b22), .val (.int sm), .unset] [])) u
        refine XT.iconstV X27.here hx rfl (0 : Int32) (hb hby at_272) (by decide) ?_
        show Steps p.tables e below (T27.setTop (mkF m 273 #[.val (.int p0), .val (.int p1), .val (.int p2), .val (.int zA), .val (.int zB), .val (.int la), .val (.int lb), .val (.int ca0), .val (.int ca1), .val (.int ca2), .val (.int cb0), .val (.int cb1), .val (.int cb2), .val (.ref x16), .val (.ref x17), .val (.ref b18), .val (.ref b22), .val (.int sm), .unset] [(.int (0 : Int32))])) u
        try simp only [if_pos hc45, if_neg hc46] at k
        exact k
    · skip
      refine XS.ifYes X27.here hx rfl (pc0 := 255) (pc' := 272) rfl (hb hby at_255) rfl (XT.i0_ne_t hc45) (by decide) (by decide) ?_
      show Steps p.tables e below (T27.setTop (mkF m 272 #[.val (.int p0), .val (.int p1), .val (.int p2), .val (.int zA), .val (.int zB), .val (.int la), .val (.int lb), .val (.int ca0), .val (.int ca1), .val (.int ca2), .val (.int cb0), .val (.int cb1), .val (.int cb2), .val (.ref x16), .val (.ref x17), .val (.ref b18), .val (.ref b22), .val (.int sm), .unset] [])) u
      refine XT.iconstV X27.here hx rfl (0 : Int32) (hb hby at_272) (by decide) ?_
      show Steps p.tables e below (T27.setTop (mkF m 273 #[.val (.int p0), .val (.int p1), .val (.int p2), .val (.int zA), .val (.int zB), .val (.int la), .val (.int lb), .val (.int ca0), .val (.int ca1), .val (.int ca2), .val (.int cb0), .val (.int cb1), .val (.int cb2), .val (.ref x16), .val (.ref x17), .val (.ref b18), .val (.ref b22), .val (.int sm), .unset] [(.int (0 : Int32))])) u
      try simp only [if_neg hc45] at k
      exact k
  refine Go.back (t' := (T27.setTop (mkF m 273 #[.val (.int p0), .val (.int p1), .val (.int p2), .val (.int zA), .val (.int zB), .val (.int la), .val (.int lb), .val (.int ca0), .val (.int ca1), .val (.int ca2), .val (.int cb0), .val (.int cb1), .val (.int cb2), .val (.ref x16), .val (.ref x17), .val (.ref b18), .val (.ref b22), .val (.int sm), .unset] [(.int (if zA = (0 : Int32) then (if zB = (0 : Int32) then (if sm = (0 : Int32) then (0 : Int32) else (1 : Int32)) else (0 : Int32)) else (0 : Int32)))]))) sg44 ?_
  obtain ⟨ex, h_ex⟩ : ∃ z : Int32, z = (if zA = (0 : Int32) then (if zB = (0 : Int32) then (if sm = (0 : Int32) then (0 : Int32) else (1 : Int32)) else (0 : Int32)) else (0 : Int32)) := ⟨_, rfl⟩
  rw [← h_ex]
  refine Go.back (t' := (T27.setTop (mkF m 279 #[.val (.int p0), .val (.int p1), .val (.int p2), .val (.int zA), .val (.int zB), .val (.int la), .val (.int lb), .val (.int ca0), .val (.int ca1), .val (.int ca2), .val (.int cb0), .val (.int cb1), .val (.int cb2), .val (.ref x16), .val (.ref x17), .val (.ref b18), .val (.ref b22), .val (.int sm), .val (.int ex)] [(.ref b22), (.ref b18)]))) (fun u k => XS.istore X27.here hx rfl (hb hby at_273) rfl (l' := #[.val (.int p0), .val (.int p1), .val (.int p2), .val (.int zA), .val (.int zB), .val (.int la), .val (.int lb), .val (.int ca0), .val (.int ca1), .val (.int ca2), .val (.int cb0), .val (.int cb1), .val (.int cb2), .val (.ref x16), .val (.ref x17), .val (.ref b18), .val (.ref b22), .val (.int sm), .val (.int ex)]) rfl (XS.aload X27.here hx rfl (hb hby at_275) rfl rfl (XS.aload X27.here hx rfl (hb hby at_277) rfl rfl k))) ?_
  have f48 := ((f23.ext E22).keep Kc27)
  have f49 := ((f25.ext E22).keep Kc27)
  have f50 := ((P21_1.ext E22).keep Kc27 (ninS ne_b18_b22 nin0))
  have f51 := ((P21_2.ext E22).keep Kc27 (ninS ne_b18_b22 nin0))
  have f52 := (((((P16_1.keep Kc17 nin0).ext E18).keep Kc21 (ninS ne_x16_b18 nin0)).ext E22).keep Kc27 (ninS ne_x16_b22 nin0))
  have f53 := (((((P16_2.keep Kc17 nin0).ext E18).keep Kc21 (ninS ne_x16_b18 nin0)).ext E22).keep Kc27 (ninS ne_x16_b22 nin0))
  have f54 := ((((P17_1.ext E18).keep Kc21 (ninS ne_x17_b18 nin0)).ext E22).keep Kc27 (ninS ne_x17_b22 nin0))
  have f55 := ((((P17_2.ext E18).keep Kc21 (ninS ne_x17_b18 nin0)).ext E22).keep Kc27 (ninS ne_x17_b22 nin0))
  have f56 := ((f24.ext E22).keep Kc27 (ninS ne_t16_b22 nin0))
  have f57 := ((f26.ext E22).keep Kc27 (ninS ne_t17_b22 nin0))
  have f60 := ((P21_0.ext E22).keep Kc27)
  obtain ⟨cq59, kq59, qa59, qb59, qc59⟩ := isOf hZ rfl f60
  obtain ⟨_, _, ⟨T58, L58, k58, n58⟩, -, X58, ⟨Lc58, hQ58, l58, y58, z58⟩, st58⟩ := X27.virtualBack hx (y := (⟨"com/example/norn/norn/http/EntityTag", "matchesStrongly", "(Lcom/example/norn/norn/http/EntityTag;)Z"⟩ : MethodName)) (z := (⟨"com/example/norn/norn/http/EntityTag", "matchesStrongly", "(Lcom/example/norn/norn/http/EntityTag;)Z"⟩ : MethodName)) hown (mvT hZ (hw _ (List.mem_of_getElem? (i := 47) rfl))) (mvT hZ (hw _ (List.mem_of_getElem? (i := 48) rfl))) (notFace_of_selects (args := #[]) (mvT hZ (hw _ (List.mem_of_getElem? (i := 50) rfl)))) (mvT hZ (hw _ (List.mem_of_getElem? (i := 50) rfl))) (mvT hZ (hw _ (List.mem_of_getElem? (i := 49) rfl))) (by decide) (backOf (W := 0) (own_ms l Z a0 hw [] b18 b22 zA zB x16 x17 t16 t17 gC (own_cs la ca0 ca1 ca2) (own_cs lb cb0 cb1 cb2) kb16 kb17 T27.heap n0 Z27 f48 f49 f50 P27_1 f51 P27_2 f52 f53 f54 f55 O27 SCS P5 f56 (own_csok la hA0 hA1 hA2) f57 (own_csok lb hB0 hB1 hB2)) hZ (hw _ (List.mem_of_getElem? (i := 51) rfl)) (hw _ (List.mem_of_getElem? (i := 28) rfl)) (by decide) (by decide)) qa59 qc59 (g := (mkF m 279 #[.val (.int p0), .val (.int p1), .val (.int p2), .val (.int zA), .val (.int zB), .val (.int la), .val (.int lb), .val (.int ca0), .val (.int ca1), .val (.int ca2), .val (.int cb0), .val (.int cb1), .val (.int cb2), .val (.ref x16), .val (.ref x17), .val (.ref b18), .val (.ref b22), .val (.int sm), .val (.int ex)] [(.ref b22), (.ref b18)])) rfl (by rw [hml]; rfl) (Steps.refl _) (argsL := [(.ref b22)]) (rest := []) (lenOf own_pd7 rfl) rfl (by show 2 * 0 + _ ≤ _; exact Nat.le_of_eq rfl) (hb hby at_279) (fun _ _ => ⟨rfl, rfl, (by decide : 18 + 0 ≤ _), (by decide : 84 + 0 ≤ _)⟩)
  dsimp only [Pt.U, Pt.locs, Pt.cells, Pt.slots] at X58 l58 y58 z58 st58 hQ58
  subst l58 y58 z58
  obtain ⟨rfl, N58, e58⟩ := hQ58
  have NA58 := Fr.app NA27 N58
  refine Go.back (t' := (T58.setTop (mkF m 282 #[.val (.int p0), .val (.int p1), .val (.int p2), .val (.int zA), .val (.int zB), .val (.int la), .val (.int lb), .val (.int ca0), .val (.int ca1), .val (.int ca2), .val (.int cb0), .val (.int cb1), .val (.int cb2), .val (.ref x16), .val (.ref x17), .val (.ref b18), .val (.ref b22), .val (.int sm), .val (.int ex)] [(.int (F_ms zA zB (own_cs la ca0 ca1 ca2) (own_cs lb cb0 cb1 cb2)))]))) (fun u k => st58.trans k) ?_
  refine Go.back (t' := (T58.setTop (mkF m 291 #[.val (.int p0), .val (.int p1), .val (.int p2), .val (.int zA), .val (.int zB), .val (.int la), .val (.int lb), .val (.int ca0), .val (.int ca1), .val (.int ca2), .val (.int cb0), .val (.int cb1), .val (.int cb2), .val (.ref x16), .val (.ref x17), .val (.ref b18), .val (.ref b22), .val (.int sm), .val (.int ex)] [(.ref b18), (.ref b22)]))) (fun u k => XS.iload X58.here hx rfl (hb hby at_282) rfl (XS.icmpNo X58.here hx rfl (hb hby at_284) rfl (XT.ii_ne_f (own_fin HL h_sm h_ex).1) (XS.aload X58.here hx rfl (hb hby at_287) rfl rfl (XS.aload X58.here hx rfl (hb hby at_289) rfl rfl k)))) ?_
  obtain ⟨cq62, kq62, qa62, qb62, qc62⟩ := isOf hZ e58 P27_0
  obtain ⟨_, _, ⟨T61, L61, k61, n61⟩, -, X61, ⟨Lc61, hQ61, l61, y61, z61⟩, st61⟩ := X58.virtualBack hx (y := (⟨"com/example/norn/norn/http/EntityTag", "matchesStrongly", "(Lcom/example/norn/norn/http/EntityTag;)Z"⟩ : MethodName)) (z := (⟨"com/example/norn/norn/http/EntityTag", "matchesStrongly", "(Lcom/example/norn/norn/http/EntityTag;)Z"⟩ : MethodName)) hown (mvT hZ (hw _ (List.mem_of_getElem? (i := 47) rfl))) (mvT hZ (hw _ (List.mem_of_getElem? (i := 48) rfl))) (notFace_of_selects (args := #[]) (mvT hZ (hw _ (List.mem_of_getElem? (i := 50) rfl)))) (mvT hZ (hw _ (List.mem_of_getElem? (i := 50) rfl))) (mvT hZ (hw _ (List.mem_of_getElem? (i := 49) rfl))) (by decide) (backOf (W := 0) (own_ms l Z a0 hw [] b22 b18 zB zA x17 x16 t17 t16 gC (own_cs lb cb0 cb1 cb2) (own_cs la ca0 ca1 ca2) kb17 kb16 T27.heap n0 Z27 f49 f48 P27_1 f50 P27_2 f51 f54 f55 f52 f53 O27 SCS P5 f57 (own_csok lb hB0 hB1 hB2) f56 (own_csok la hA0 hA1 hA2)) hZ (hw _ (List.mem_of_getElem? (i := 51) rfl)) (hw _ (List.mem_of_getElem? (i := 28) rfl)) (by decide) (by decide)) qa62 qc62 (g := (mkF m 291 #[.val (.int p0), .val (.int p1), .val (.int p2), .val (.int zA), .val (.int zB), .val (.int la), .val (.int lb), .val (.int ca0), .val (.int ca1), .val (.int ca2), .val (.int cb0), .val (.int cb1), .val (.int cb2), .val (.ref x16), .val (.ref x17), .val (.ref b18), .val (.ref b22), .val (.int sm), .val (.int ex)] [(.ref b18), (.ref b22)])) rfl (by rw [hml]; rfl) (Steps.refl _) (argsL := [(.ref b18)]) (rest := []) (lenOf own_pd7 rfl) rfl (by show 2 * 0 + _ ≤ _; exact Nat.le_of_eq rfl) (hb hby at_291) (fun _ _ => ⟨rfl, e58, (by decide : 18 + 0 ≤ _), (by decide : 84 + 0 ≤ _)⟩)
  dsimp only [Pt.U, Pt.locs, Pt.cells, Pt.slots] at X61 l61 y61 z61 st61 hQ61
  subst l61 y61 z61
  obtain ⟨rfl, N61, e61⟩ := hQ61
  have NA61 := Fr.app NA58 N61
  refine Go.back (t' := (T61.setTop (mkF m 294 #[.val (.int p0), .val (.int p1), .val (.int p2), .val (.int zA), .val (.int zB), .val (.int la), .val (.int lb), .val (.int ca0), .val (.int ca1), .val (.int ca2), .val (.int cb0), .val (.int cb1), .val (.int cb2), .val (.ref x16), .val (.ref x17), .val (.ref b18), .val (.ref b22), .val (.int sm), .val (.int ex)] [(.int (F_ms zB zA (own_cs lb cb0 cb1 cb2) (own_cs la ca0 ca1 ca2)))]))) (fun u k => st61.trans k) ?_
  refine Go.back (t' := (T61.setTop (mkF m 304 #[.val (.int p0), .val (.int p1), .val (.int p2), .val (.int zA), .val (.int zB), .val (.int la), .val (.int lb), .val (.int ca0), .val (.int ca1), .val (.int ca2), .val (.int cb0), .val (.int cb1), .val (.int cb2), .val (.ref x16), .val (.ref x17), .val (.ref b18), .val (.ref b22), .val (.int sm), .val (.int ex)] [(.int (1 : Int32))]))) (fun u k => XS.iload X61.here hx rfl (hb hby at_294) rfl (XS.icmpNo X61.here hx rfl (hb hby at_296) rfl (XT.ii_ne_f (own_fin HL h_sm h_ex).2) (XT.iconstV X61.here hx rfl (1 : Int32) (hb hby at_299) (by decide) (XS.goto X61.here hx rfl (pc0 := 300) (pc' := 304) rfl (hb hby at_300) (by decide) (by decide) k)))) ?_
  obtain ⟨fs, hr, hrun, hended, hFW⟩ := Jvm.Stand.leaveW (s := s) (vm₁ := T27.vm) X61 hS27 (by rw [e61]; exact (Nat.le_refl _)) (v := some (.int (1 : Int32))) (fun h => by rw [Bd.returns] at h; cases h)
  refine ⟨_, _, retN X61 hx (t := .boolean) Bd.returns (by simp) (hb hby at_304) hr, hrun, hended, _, _, rfl, ?_, hFW.1, hFW.2.1, hFW.2.2.1, hFW.2.2.2.mono (by decide) (by decide)⟩
  show Q_own_law0 Z p0 p1 p2 gC h0 n0 _ T61.heap _
  rw [e61]
  exact ⟨rfl, NA61, K27⟩
set_option maxRecDepth 65536 in
set_option maxHeartbeats 40000000 in
theorem own_comes {Post : Tables → Env → Array Value → State → Outcome → State → Prop} (hpost : ∀ tb e args s v u, (limb_1_1.after args s (.returned v) u = true ∧ limb_1_2.after args s (.returned v) u = true ∧ True) → ReturnedEndW s (.returned v) u (Jvm.fieldLocs frame_1_writes args s ++ Jvm.arrayLocs frame_1_arrays args s ++ Jvm.staticLocs frame_1_statics s) 32 2176 → Post tb e args s (.returned v) u) :
    ArmFor flags0 classFile x code maxLocals ret World_1 tables_1 room_1 Calls_1 rest_1 Pre_1 Post := by
  intro l hfl _ _ p e ha hc hk s m args below hf hA hF happ hP
  obtain ⟨hcalls, hrest, hpre⟩ := hP
  obtain ⟨-, -, -, hnamed, -, -, -, hat⟩ := (Spec.applies_iff hf).mp happ
  obtain ⟨hg, hn⟩ := and_e (Cond.before_iff.mp (show (Jvm.Cond.and given_1 narrow_1).before args s = true from hpre))
  obtain ⟨hg1, hg2⟩ := and_e hg
  obtain ⟨hg3, hg4⟩ := and_e hg2
  obtain ⟨hg5, hg6⟩ := and_e hg4
  obtain ⟨w0, w1, w2, rfl⟩ : ∃ w0 w1 w2 : Value, args = #[w0, w1, w2] := by
    have hs : args.size = 3 := by simpa [Cond.value, given_1] using hg1
    obtain ⟨L⟩ := args
    match L, hs with
    | [w0, w1, w2], _ => exact ⟨w0, w1, w2, rfl⟩
  have hw := fun d (hd : d ∈ tables_1) => atoms_spec (ws := Jvm.Cond.code x code maxLocals ret :: tables_1) hat d (List.mem_cons_of_mem _ hd)
  have hfit : Fit s := fun {y c} hc i hi => by
    obtain ⟨ha, rfl⟩ := Array.getElem?_eq_some_iff.mp hc
    have q := List.all_eq_true.mp ((Array.all_eq_true_iff_forall_mem.mp hF) _ (Array.getElem_mem ha)) i (List.mem_range.mpr hi)
    simpa [Array.getElem?_eq_getElem hi] using q
  obtain ⟨hsets, hown0⟩ := atoms_of _ (rest_1_c_eq ▸ (show rest_1_c.before _ s = true from hrest))
  have hr0 := Cond.before_iff.mp hown0
  obtain ⟨i0, ei0⟩ := is_v hg3
  obtain rfl : w0 = (.int i0) := Option.some.inj ei0
  obtain ⟨i1, ei1⟩ := is_v hg5
  obtain rfl : w1 = (.int i1) := Option.some.inj ei1
  obtain ⟨i2, ei2⟩ := is_v hg6
  obtain rfl : w2 = (.int i2) := Option.some.inj ei2
  obtain ⟨gC, egC⟩ := is_v (Cond.before_iff.mp (hsets _ (List.mem_of_getElem? (i := 1) rfl)))
  have XG := Sta.start egC (Or.inl (hsets _ (List.mem_of_getElem? (i := 0) rfl)))
  have XP : ¬ (gC = (0 : Int32)) := gotF (Cond.eq_ints egC (Term.int_eval (0))) (not_v (Cond.before_iff.mp (hsets _ (List.mem_of_getElem? (i := 2) rfl))))
  have hCHv : CHv s own_EL s.vm s.heap := CHv.start (own_hEL hw) (fun q hq => by cases List.mem_singleton.mp hq; exact hcalls.1 ("java/lang/String", 7) (List.mem_cons_of_mem _ (List.mem_cons_self ..))) (hsets _ (List.mem_of_getElem? (i := 2) rfl)) (hw _ (List.mem_of_getElem? (i := 19) rfl)) (hw _ (List.mem_of_getElem? (i := 5) rfl))
  obtain ⟨n, o, h1, h2, h3, _, L, rfl, ⟨rfl, N, -⟩, hq⟩ := own_law0 l s _ hw tables_1 i0 i1 i2 gC s.heap s.heap.size (Nat.le_refl _) (Old.start s) XG XP p e ha hc hk s m _ below hf ((Spec.applies_iff_loose hf).mp happ).1 ⟨rfl, State.Warmed39.refl s, rfl, hCHv⟩ trivial
  refine ⟨n, _, h1, h2, h3, hpost _ _ _ _ _ _ ⟨Cond.after_iff.mpr rfl, Cond.after_iff.mpr (eq_i res_at (Term.int_eval (1)) rfl), trivial⟩ ⟨hq.1, hq.2.1, hq.2.2.1, (hq.2.2.2.sift fun y hy => Or.inr (N y hy)).mono (by decide) (by decide)⟩⟩
theorem main_1_1 : Claimed_1_1 := own_comes fun _ _ _ _ _ _ h hF => ⟨h.1, hF⟩
theorem main_1_2 : Claimed_1_2 := own_comes fun _ _ _ _ _ _ h hF => ⟨h.2.1, hF⟩
end Jvm.Pilot.@@N@@
namespace Jvm.Pilot.@@N@@
open Jvm Jvm.ClassFile Sem Op Lib Jvm.Free Jvm.Stand Jvm.Pilot.@@N@@.Jvm.D
/-! MADE BY PROGRAM (witnessworld.py) out of the Statement's table words and the real class files: 22 classes; the members and pool entries that the words name. The judged class is class 1, her method 2. -/
namespace start1
open Jvm.ClassFile
def u (s : String) : CpInfo := .utf8 (stringToUtf16 s)
/-- a pool by its gaps: so many unusable entries, then the entry; so many at the end -/
def gap : Nat → List CpInfo → List CpInfo
  | 0, r => r
  | n + 1, r => .unusable :: gap n r
def poolList (es : List (Nat × CpInfo)) (last : Nat) : List CpInfo := es.foldr (fun e r => gap e.1 (e.2 :: r)) (gap last [])
def pool (es : List (Nat × CpInfo)) (last : Nat) : Array CpInfo := ⟨poolList es last⟩
def fileOf (pool : Array CpInfo) (this : Nat) (attrs : Array Attribute := #[]) (ms : Array MethodInfo := #[]) (fl : Nat := 33) (sup : Nat := 0) (ifs : Array Nat := #[]) (fds : Array FieldInfo := #[]) : ClassFile where
  minorVersion := 0
  majorVersion := 65
  constantPool := pool
  accessFlags := fl
  thisClass := this
  superClass := sup
  interfaces := ifs
  fields := fds
  methods := ms
  attributes := attrs
def plain (name : String) (sup : Option ClassId) : Class where
  name := name
  kind := .ordinary
  loader := none
  accessFlags := 33
  super := sup
  interfaces := #[]
  cf := none
  fields := #[]
  methods := #[]
  instanceTypes := #[]
  staticTypes := #[]
  resolved := #[]
  callSites := []
  init := .initialized
  statics := none
  mirror := none

def pool0 : Array CpInfo := pool [(5, u "<init>"), (0, u "()V"), (1, .class_ 10), (1, u "java/lang/Object")] 113

def k0c0 : Code := { maxStack := 0, maxLocals := 1, code := object_method_1_code, exceptionTable := #[], attributes := #[] }
def k0m0 : Method := { name := "<init>", desc := "()V", sig := { parameters := [], returnType := none }, accessFlags := 1, code := some k0c0 }
/-- java/lang/Object -/
def k0 : Class := { plain "java/lang/Object" none with
  accessFlags := 33
  interfaces := #[]
  cf := some (fileOf pool0 8 #[] #[{ accessFlags := 1, nameIndex := 5, descriptorIndex := 6, attributes := #[] }] 33 0 #[] #[])
  fields := #[]
  methods := #[k0m0]
  instanceTypes := #[]
  staticTypes := #[]
  resolved := Array.replicate 124 none
  statics := none }

def pool1 : Array CpInfo := pool [(2, .class_ 4), (1, u "java/lang/Object"), (0, u "<init>"), (0, u "()V"), (0, .class_ 8), (0, u "java/lang/String"), (0, .methodref 7 10), (0, .nameAndType 5 11), (0, u "([C)V"), (0, .methodref 13 14), (0, .class_ 15), (0, .nameAndType 16 17), (0, u "com/example/norn/norn/http/EntityTagMatchesStronglyPinLaw"), (0, u "make"), (0, u "(ICCC)Ljava/lang/String;"), (0, .class_ 19), (0, u "com/example/norn/norn/http/EntityTag"), (0, .methodref 18 21), (0, .nameAndType 5 22), (0, u "(ZLjava/lang/String;)V"), (0, .methodref 18 24), (0, .nameAndType 25 26), (0, u "matchesStrongly"), (0, u "(Lcom/example/norn/norn/http/EntityTag;)Z"), (3, u "law"), (0, u "(III)Z")] 2

def k1m0 : Method := { name := "<init>", desc := "()V", sig := { parameters := [], returnType := none }, accessFlags := 1, code := none }
def k1c1 : Code := { maxStack := 3, maxLocals := 5, code := method_2_code, exceptionTable := #[], attributes := #[] }
def k1m1 : Method := { name := "make", desc := "(ICCC)Ljava/lang/String;", sig := { parameters := [.int, .char, .char, .char], returnType := some (.object "java/lang/String") }, accessFlags := 10, code := some k1c1 }
def k1c2 : Code := { maxStack := 4, maxLocals := 19, code := code, exceptionTable := #[], attributes := #[] }
def k1m2 : Method := { name := "law", desc := "(III)Z", sig := { parameters := [.int, .int, .int], returnType := some .boolean }, accessFlags := 9, code := some k1c2 }
/-- com/example/norn/norn/http/EntityTagMatchesStronglyPinLaw -/
def k1 : Class := { plain "com/example/norn/norn/http/EntityTagMatchesStronglyPinLaw" (some 0) with
  accessFlags := 49
  interfaces := #[]
  cf := some (fileOf pool1 13 #[] #[{ accessFlags := 1, nameIndex := 5, descriptorIndex := 6, attributes := #[] }, { accessFlags := 10, nameIndex := 16, descriptorIndex := 17, attributes := #[] }, { accessFlags := 9, nameIndex := 30, descriptorIndex := 31, attributes := #[] }] 49 2 #[] #[])
  fields := #[]
  methods := #[k1m0, k1m1, k1m2]
  instanceTypes := #[]
  staticTypes := #[]
  resolved := Array.replicate 34 none
  statics := none }

def pool2 : Array CpInfo := pool [(1, .class_ 2), (0, u "java/io/Serializable"), (0, .class_ 4), (0, u "java/lang/Object")] 2

/-- java/io/Serializable -/
def k2 : Class := { plain "java/io/Serializable" (some 0) with
  accessFlags := 1537
  interfaces := #[]
  cf := some (fileOf pool2 1 #[] #[] 1537 3 #[] #[])
  fields := #[]
  methods := #[]
  instanceTypes := #[]
  staticTypes := #[]
  resolved := Array.replicate 7 none
  statics := none }

def pool3 : Array CpInfo := pool [(1, .class_ 2), (0, u "java/lang/Comparable"), (0, .class_ 4), (0, u "java/lang/Object")] 7

/-- java/lang/Comparable -/
def k3 : Class := { plain "java/lang/Comparable" (some 0) with
  accessFlags := 1537
  interfaces := #[]
  cf := some (fileOf pool3 1 #[] #[] 1537 3 #[] #[])
  fields := #[]
  methods := #[]
  instanceTypes := #[]
  staticTypes := #[]
  resolved := Array.replicate 12 none
  statics := none }

def pool4 : Array CpInfo := pool [(2, .class_ 4), (1, u "java/lang/CharSequence"), (42, .class_ 48), (0, u "java/lang/CharSequence$1CodePointIterator"), (10, .class_ 60), (0, u "java/lang/CharSequence$1CharIterator"), (5, .class_ 67), (0, u "java/lang/Object")] 63

/-- java/lang/CharSequence -/
def k4 : Class := { plain "java/lang/CharSequence" (some 0) with
  accessFlags := 1537
  interfaces := #[]
  cf := some (fileOf pool4 2 #[.nestMembers #[47, 59]] #[] 1537 66 #[] #[])
  fields := #[]
  methods := #[]
  instanceTypes := #[]
  staticTypes := #[]
  resolved := Array.replicate 131 none
  statics := none }

def pool5 : Array CpInfo := pool [(1, .class_ 2), (0, u "java/lang/constant/Constable"), (0, .class_ 4), (0, u "java/lang/Object")] 6

/-- java/lang/constant/Constable -/
def k5 : Class := { plain "java/lang/constant/Constable" (some 0) with
  accessFlags := 1537
  interfaces := #[]
  cf := some (fileOf pool5 1 #[] #[] 1537 3 #[] #[])
  fields := #[]
  methods := #[]
  instanceTypes := #[]
  staticTypes := #[]
  resolved := Array.replicate 11 none
  statics := none }

def pool6 : Array CpInfo := pool [(1, .class_ 2), (0, u "java/lang/constant/ConstantDesc"), (0, .class_ 4), (0, u "java/lang/Object")] 32

/-- java/lang/constant/ConstantDesc -/
def k6 : Class := { plain "java/lang/constant/ConstantDesc" (some 0) with
  accessFlags := 1537
  interfaces := #[]
  cf := some (fileOf pool6 1 #[] #[] 1537 3 #[] #[])
  fields := #[]
  methods := #[]
  instanceTypes := #[]
  staticTypes := #[]
  resolved := Array.replicate 37 none
  statics := none }

def pool7 : Array CpInfo := pool [(1, .methodref 2 3), (0, .class_ 4), (0, .nameAndType 5 6), (0, u "java/lang/Object"), (0, u "<init>"), (0, u "()V"), (0, .string 8), (0, u ""), (0, .fieldref 10 11), (0, .class_ 12), (0, .nameAndType 13 14), (0, u "java/lang/String"), (0, u "value"), (0, u "[B"), (0, .fieldref 10 16), (0, .nameAndType 17 18), (0, u "coder"), (0, u "B"), (2, u "hash"), (0, u "I"), (2, u "hashIsZero"), (0, u "Z"), (0, .methodref 10 28), (0, .nameAndType 5 29), (0, u "([CIILjava/lang/Void;)V"), (8, .fieldref 10 39), (0, .nameAndType 40 26), (0, u "COMPACT_STRINGS"), (1, .class_ 44), (1, u "java/lang/StringUTF16"), (0, u "compress"), (1, .methodref 42 48), (0, .nameAndType 49 50), (0, u "coderFromArrayLen"), (0, u "([BI)B"), (56, .class_ 109), (1, u "java/lang/StringLatin1"), (67, .methodref 42 178), (0, .nameAndType 45 179), (0, u "([CII)[B"), (361, .methodref 107 542), (0, .nameAndType 543 544), (0, u "equals"), (0, u "([B[B)Z"), (28, u "(Ljava/lang/Object;)Z"), (1, .class_ 576), (0, u "java/lang/CharSequence"), (22, u "CASE_INSENSITIVE_ORDER"), (0, u "Ljava/util/Comparator;"), (409, u "([C)V"), (90, u "serialPersistentFields"), (0, u "[Ljava/io/ObjectStreamField;"), (0, .class_ 1104), (0, u "java/lang/String$CaseInsensitiveComparator"), (1, .class_ 1107), (0, u "java/io/Serializable"), (0, .class_ 1109), (0, u "java/lang/Comparable"), (0, .class_ 1111), (0, u "java/lang/constant/Constable"), (0, .class_ 1113), (0, u "java/lang/constant/ConstantDesc"), (2, u "serialVersionUID"), (0, u "J"), (3, u "REPL"), (0, u "C"), (2, u "LATIN1"), (1, u "UTF16")] 323

def k7m0 : Method := { name := "<init>", desc := "()V", sig := { parameters := [], returnType := none }, accessFlags := 1, code := none }
def k7c1 : Code := { maxStack := 5, maxLocals := 2, code := jdk_42_method_3_code, exceptionTable := #[], attributes := #[] }
def k7m1 : Method := { name := "<init>", desc := "([C)V", sig := { parameters := [(.array .char)], returnType := none }, accessFlags := 1, code := some k7c1 }
def k7c2 : Code := { maxStack := 2, maxLocals := 3, code := jdk_42_method_66_code, exceptionTable := #[], attributes := #[] }
def k7m2 : Method := { name := "equals", desc := "(Ljava/lang/Object;)Z", sig := { parameters := [(.object "java/lang/Object")], returnType := some .boolean }, accessFlags := 1, code := some k7c2 }
def k7c3 : Code := { maxStack := 4, maxLocals := 6, code := jdk_42_method_149_code, exceptionTable := #[], attributes := #[] }
def k7m3 : Method := { name := "<init>", desc := "([CIILjava/lang/Void;)V", sig := { parameters := [(.array .char), .int, .int, (.object "java/lang/Void")], returnType := none }, accessFlags := 2, code := some k7c3 }
/-- java/lang/String -/
def k7 : Class := { plain "java/lang/String" (some 0) with
  accessFlags := 49
  interfaces := #[2, 3, 4, 5, 6]
  cf := some (fileOf pool7 10 #[.nestMembers #[1103]] #[{ accessFlags := 1, nameIndex := 5, descriptorIndex := 6, attributes := #[] }, { accessFlags := 1, nameIndex := 5, descriptorIndex := 1010, attributes := #[] }, { accessFlags := 1, nameIndex := 543, descriptorIndex := 573, attributes := #[] }, { accessFlags := 2, nameIndex := 5, descriptorIndex := 29, attributes := #[] }] 49 2 #[1106, 1108, 575, 1110, 1112] #[{ accessFlags := 18, nameIndex := 13, descriptorIndex := 14, attributes := #[] }, { accessFlags := 18, nameIndex := 17, descriptorIndex := 18, attributes := #[] }, { accessFlags := 2, nameIndex := 21, descriptorIndex := 22, attributes := #[] }, { accessFlags := 2, nameIndex := 25, descriptorIndex := 26, attributes := #[] }, { accessFlags := 26, nameIndex := 1116, descriptorIndex := 1117, attributes := #[] }, { accessFlags := 24, nameIndex := 40, descriptorIndex := 26, attributes := #[] }, { accessFlags := 26, nameIndex := 1101, descriptorIndex := 1102, attributes := #[] }, { accessFlags := 26, nameIndex := 1121, descriptorIndex := 1122, attributes := #[] }, { accessFlags := 25, nameIndex := 599, descriptorIndex := 600, attributes := #[] }, { accessFlags := 24, nameIndex := 1125, descriptorIndex := 18, attributes := #[] }, { accessFlags := 24, nameIndex := 1127, descriptorIndex := 18, attributes := #[] }])
  fields := #[{ name := "value", type := (.array .byte), accessFlags := 18, slot := 0, constantValue := 0 }, { name := "coder", type := .byte, accessFlags := 18, slot := 1, constantValue := 0 }, { name := "hash", type := .int, accessFlags := 2, slot := 2, constantValue := 0 }, { name := "hashIsZero", type := .boolean, accessFlags := 2, slot := 3, constantValue := 0 }, { name := "serialVersionUID", type := .long, accessFlags := 26, slot := 0, constantValue := 0 }, { name := "COMPACT_STRINGS", type := .boolean, accessFlags := 24, slot := 1, constantValue := 0 }, { name := "serialPersistentFields", type := (.array (.object "java/io/ObjectStreamField")), accessFlags := 26, slot := 2, constantValue := 0 }, { name := "REPL", type := .char, accessFlags := 26, slot := 3, constantValue := 0 }, { name := "CASE_INSENSITIVE_ORDER", type := (.object "java/util/Comparator"), accessFlags := 25, slot := 4, constantValue := 0 }, { name := "LATIN1", type := .byte, accessFlags := 24, slot := 5, constantValue := 0 }, { name := "UTF16", type := .byte, accessFlags := 24, slot := 6, constantValue := 0 }]
  methods := #[k7m0, k7m1, k7m2, k7m3]
  instanceTypes := #[(.array .byte), .byte, .int, .boolean]
  staticTypes := #[.long, .boolean, (.array (.object "java/io/ObjectStreamField")), .char, (.object "java/util/Comparator"), .byte, .byte]
  resolved := Array.replicate 1451 none
  statics := some 0 }

def pool8 : Array CpInfo := pool [(1, .methodref 2 3), (0, .class_ 4), (0, .nameAndType 5 6), (0, u "java/lang/Object"), (0, u "<init>"), (0, u "()V"), (0, .class_ 8), (0, u "java/lang/Record")] 13

def k8c0 : Code := { maxStack := 1, maxLocals := 1, code := jdk_30_method_1_code, exceptionTable := #[], attributes := #[] }
def k8m0 : Method := { name := "<init>", desc := "()V", sig := { parameters := [], returnType := none }, accessFlags := 4, code := some k8c0 }
/-- java/lang/Record -/
def k8 : Class := { plain "java/lang/Record" (some 0) with
  accessFlags := 1057
  interfaces := #[]
  cf := some (fileOf pool8 7 #[] #[{ accessFlags := 4, nameIndex := 5, descriptorIndex := 6, attributes := #[] }] 1057 2 #[] #[])
  fields := #[]
  methods := #[k8m0]
  instanceTypes := #[]
  staticTypes := #[]
  resolved := Array.replicate 22 none
  statics := none }

def pool9 : Array CpInfo := pool [(1, .methodref 2 3), (0, .class_ 4), (0, .nameAndType 5 6), (0, u "java/lang/Record"), (0, u "<init>"), (0, u "()V"), (0, .string 8), (0, u "opaque"), (0, .methodref 10 11), (0, .class_ 12), (0, .nameAndType 13 14), (0, u "java/util/Objects"), (0, u "requireNonNull"), (0, u "(Ljava/lang/Object;Ljava/lang/String;)Ljava/lang/Object;"), (0, .fieldref 16 17), (0, .class_ 18), (0, .nameAndType 19 20), (0, u "com/example/norn/norn/http/EntityTag"), (0, u "weak"), (0, u "Z"), (0, .fieldref 16 22), (0, .nameAndType 8 23), (0, u "Ljava/lang/String;"), (5, .class_ 31), (1, u "java/lang/String"), (36, u "(ZLjava/lang/String;)V"), (0, .methodref 29 70), (0, .nameAndType 71 72), (0, u "equals"), (0, u "(Ljava/lang/Object;)Z"), (13, u "WEAK"), (9, u "matchesStrongly"), (0, u "(Lcom/example/norn/norn/http/EntityTag;)Z")] 32

def k9c0 : Code := { maxStack := 2, maxLocals := 3, code := prog_47_method_1_code, exceptionTable := #[], attributes := #[] }
def k9m0 : Method := { name := "<init>", desc := "(ZLjava/lang/String;)V", sig := { parameters := [.boolean, (.object "java/lang/String")], returnType := none }, accessFlags := 0, code := some k9c0 }
def k9c1 : Code := { maxStack := 2, maxLocals := 2, code := prog_47_method_5_code, exceptionTable := #[], attributes := #[] }
def k9m1 : Method := { name := "matchesStrongly", desc := "(Lcom/example/norn/norn/http/EntityTag;)Z", sig := { parameters := [(.object "com/example/norn/norn/http/EntityTag")], returnType := some .boolean }, accessFlags := 0, code := some k9c1 }
/-- com/example/norn/norn/http/EntityTag -/
def k9 : Class := { plain "com/example/norn/norn/http/EntityTag" (some 8) with
  accessFlags := 48
  interfaces := #[]
  cf := some (fileOf pool9 16 #[] #[{ accessFlags := 0, nameIndex := 5, descriptorIndex := 68, attributes := #[] }, { accessFlags := 0, nameIndex := 96, descriptorIndex := 97, attributes := #[] }] 48 2 #[] #[{ accessFlags := 18, nameIndex := 19, descriptorIndex := 20, attributes := #[] }, { accessFlags := 18, nameIndex := 8, descriptorIndex := 23, attributes := #[] }, { accessFlags := 26, nameIndex := 86, descriptorIndex := 23, attributes := #[] }])
  fields := #[{ name := "weak", type := .boolean, accessFlags := 18, slot := 0, constantValue := 0 }, { name := "opaque", type := (.object "java/lang/String"), accessFlags := 18, slot := 1, constantValue := 0 }, { name := "WEAK", type := (.object "java/lang/String"), accessFlags := 26, slot := 0, constantValue := 0 }]
  methods := #[k9m0, k9m1]
  instanceTypes := #[.boolean, (.object "java/lang/String")]
  staticTypes := #[(.object "java/lang/String")]
  resolved := Array.replicate 130 none
  statics := none }

def pool10 : Array CpInfo := pool [(2, .class_ 4), (1, u "java/lang/Object"), (0, u "<init>"), (0, u "()V"), (35, .class_ 44), (1, u "java/util/Objects"), (0, u "requireNonNull"), (48, u "(Ljava/lang/Object;Ljava/lang/String;)Ljava/lang/Object;")] 89

def k10m0 : Method := { name := "<init>", desc := "()V", sig := { parameters := [], returnType := none }, accessFlags := 2, code := none }
def k10c1 : Code := { maxStack := 3, maxLocals := 2, code := jdk_31_method_11_code, exceptionTable := #[], attributes := #[] }
def k10m1 : Method := { name := "requireNonNull", desc := "(Ljava/lang/Object;Ljava/lang/String;)Ljava/lang/Object;", sig := { parameters := [(.object "java/lang/Object"), (.object "java/lang/String")], returnType := some (.object "java/lang/Object") }, accessFlags := 9, code := some k10c1 }
/-- java/util/Objects -/
def k10 : Class := { plain "java/util/Objects" (some 0) with
  accessFlags := 49
  interfaces := #[]
  cf := some (fileOf pool10 42 #[] #[{ accessFlags := 2, nameIndex := 5, descriptorIndex := 6, attributes := #[] }, { accessFlags := 9, nameIndex := 45, descriptorIndex := 94, attributes := #[] }] 49 2 #[] #[])
  fields := #[]
  methods := #[k10m0, k10m1]
  instanceTypes := #[]
  staticTypes := #[]
  resolved := Array.replicate 184 none
  statics := none }

def pool11 : Array CpInfo := pool [(4, .class_ 6), (1, u "java/lang/Object"), (0, u "<init>"), (0, u "()V"), (5, .class_ 16), (1, u "java/lang/StringLatin1"), (104, u "$assertionsDisabled"), (0, u "Z"), (98, .class_ 223), (1, u "java/lang/StringLatin1$LinesSpliterator"), (57, u "equals"), (0, u "([B[B)Z"), (107, .class_ 391), (0, u "java/lang/StringLatin1$CharsSpliterator")] 3

def k11m0 : Method := { name := "<init>", desc := "()V", sig := { parameters := [], returnType := none }, accessFlags := 0, code := none }
def k11c1 : Code := { maxStack := 3, maxLocals := 3, code := jdk_43_method_13_code, exceptionTable := #[], attributes := #[] }
def k11m1 : Method := { name := "equals", desc := "([B[B)Z", sig := { parameters := [(.array .byte), (.array .byte)], returnType := some .boolean }, accessFlags := 9, code := some k11c1 }
/-- java/lang/StringLatin1 -/
def k11 : Class := { plain "java/lang/StringLatin1" (some 0) with
  accessFlags := 48
  interfaces := #[]
  cf := some (fileOf pool11 14 #[.nestMembers #[390, 221]] #[{ accessFlags := 0, nameIndex := 7, descriptorIndex := 8, attributes := #[] }, { accessFlags := 9, nameIndex := 281, descriptorIndex := 282, attributes := #[] }] 48 4 #[] #[{ accessFlags := 4120, nameIndex := 121, descriptorIndex := 122, attributes := #[] }])
  fields := #[{ name := "$assertionsDisabled", type := .boolean, accessFlags := 4120, slot := 0, constantValue := 0 }]
  methods := #[k11m0, k11m1]
  instanceTypes := #[]
  staticTypes := #[.boolean]
  resolved := Array.replicate 395 none
  statics := none }

def pool12 : Array CpInfo := pool [(6, .class_ 8), (1, u "java/lang/Object"), (0, u "<init>"), (0, u "()V"), (1, .class_ 14), (1, u "java/lang/StringUTF16"), (31, u "$assertionsDisabled"), (0, u "Z"), (13, u "HI_BYTE_SHIFT"), (0, u "I"), (2, u "LO_BYTE_SHIFT"), (49, .methodref 12 116), (0, .nameAndType 117 118), (0, u "compress"), (0, u "([CI[BII)I"), (3, u "([CII)[B"), (138, u "coderFromArrayLen"), (0, u "([BI)B"), (106, .class_ 371), (1, u "java/lang/StringUTF16$LinesSpliterator"), (58, u "MAX_LENGTH"), (196, .class_ 628), (0, u "java/lang/StringUTF16$CodePointsSpliterator"), (0, .class_ 630), (0, u "java/lang/StringUTF16$CharsSpliterator")] 4

def k12m0 : Method := { name := "<init>", desc := "()V", sig := { parameters := [], returnType := none }, accessFlags := 0, code := none }
def k12c1 : Code := { maxStack := 2, maxLocals := 2, code := jdk_52_method_15_code, exceptionTable := #[], attributes := #[] }
def k12m1 : Method := { name := "coderFromArrayLen", desc := "([BI)B", sig := { parameters := [(.array .byte), .int], returnType := some .byte }, accessFlags := 8, code := some k12c1 }
def k12c2 : Code := { maxStack := 5, maxLocals := 6, code := jdk_52_method_16_code, exceptionTable := #[], attributes := #[] }
def k12m2 : Method := { name := "compress", desc := "([CII)[B", sig := { parameters := [(.array .char), .int, .int], returnType := some (.array .byte) }, accessFlags := 9, code := some k12c2 }
def k12c3 : Code := { maxStack := 3, maxLocals := 7, code := jdk_52_method_21_code, exceptionTable := #[], attributes := #[] }
def k12m3 : Method := { name := "compress", desc := "([CI[BII)I", sig := { parameters := [(.array .char), .int, (.array .byte), .int, .int], returnType := some .int }, accessFlags := 9, code := some k12c3 }
/-- java/lang/StringUTF16 -/
def k12 : Class := { plain "java/lang/StringUTF16" (some 0) with
  accessFlags := 48
  interfaces := #[]
  cf := some (fileOf pool12 12 #[.nestMembers #[627, 629, 369]] #[{ accessFlags := 0, nameIndex := 9, descriptorIndex := 10, attributes := #[] }, { accessFlags := 8, nameIndex := 261, descriptorIndex := 262, attributes := #[] }, { accessFlags := 9, nameIndex := 117, descriptorIndex := 122, attributes := #[] }, { accessFlags := 9, nameIndex := 117, descriptorIndex := 118, attributes := #[] }] 48 6 #[] #[{ accessFlags := 26, nameIndex := 61, descriptorIndex := 62, attributes := #[] }, { accessFlags := 26, nameIndex := 65, descriptorIndex := 62, attributes := #[] }, { accessFlags := 24, nameIndex := 430, descriptorIndex := 62, attributes := #[] }, { accessFlags := 4120, nameIndex := 46, descriptorIndex := 47, attributes := #[] }])
  fields := #[{ name := "HI_BYTE_SHIFT", type := .int, accessFlags := 26, slot := 0, constantValue := 0 }, { name := "LO_BYTE_SHIFT", type := .int, accessFlags := 26, slot := 1, constantValue := 0 }, { name := "MAX_LENGTH", type := .int, accessFlags := 24, slot := 2, constantValue := 0 }, { name := "$assertionsDisabled", type := .boolean, accessFlags := 4120, slot := 3, constantValue := 0 }]
  methods := #[k12m0, k12m1, k12m2, k12m3]
  instanceTypes := #[]
  staticTypes := #[.int, .int, .int, .boolean]
  resolved := Array.replicate 635 none
  statics := none }

def pool13 : Array CpInfo := pool [(2, .class_ 4), (1, u "java/lang/Object"), (0, u "<init>"), (0, u "()V"), (17, .class_ 26), (1, u "jdk/internal/util/Preconditions"), (28, .class_ 56), (0, u "jdk/internal/util/Preconditions$4"), (57, .class_ 115), (0, u "jdk/internal/util/Preconditions$1"), (7, u "SIOOBE_FORMATTER"), (0, u "Ljava/util/function/BiFunction;"), (0, .class_ 126), (0, u "jdk/internal/util/Preconditions$2"), (3, u "AIOOBE_FORMATTER"), (0, .class_ 132), (0, u "jdk/internal/util/Preconditions$3"), (3, u "IOOBE_FORMATTER")] 57

def k13m0 : Method := { name := "<init>", desc := "()V", sig := { parameters := [], returnType := none }, accessFlags := 1, code := none }
/-- jdk/internal/util/Preconditions -/
def k13 : Class := { plain "jdk/internal/util/Preconditions" (some 0) with
  accessFlags := 33
  interfaces := #[]
  cf := some (fileOf pool13 24 #[.nestMembers #[55, 131, 125, 114]] #[{ accessFlags := 1, nameIndex := 5, descriptorIndex := 6, attributes := #[] }] 33 2 #[] #[{ accessFlags := 25, nameIndex := 123, descriptorIndex := 124, attributes := #[] }, { accessFlags := 25, nameIndex := 130, descriptorIndex := 124, attributes := #[] }, { accessFlags := 25, nameIndex := 136, descriptorIndex := 124, attributes := #[] }])
  fields := #[{ name := "SIOOBE_FORMATTER", type := (.object "java/util/function/BiFunction"), accessFlags := 25, slot := 0, constantValue := 0 }, { name := "AIOOBE_FORMATTER", type := (.object "java/util/function/BiFunction"), accessFlags := 25, slot := 1, constantValue := 0 }, { name := "IOOBE_FORMATTER", type := (.object "java/util/function/BiFunction"), accessFlags := 25, slot := 2, constantValue := 0 }]
  methods := #[k13m0]
  instanceTypes := #[]
  staticTypes := #[(.object "java/util/function/BiFunction"), (.object "java/util/function/BiFunction"), (.object "java/util/function/BiFunction")]
  resolved := Array.replicate 194 none
  statics := some 1 }

def pool14 : Array CpInfo := pool [(9, u "<init>"), (6, .class_ 18), (1, u "java/lang/Object"), (0, u "()V"), (1, .class_ 23), (1, u "jdk/internal/util/ArraysSupport"), (0, u "LOG2_ARRAY_LONG_INDEX_SCALE"), (0, u "I"), (2, u "U"), (0, u "Ljdk/internal/misc/Unsafe;"), (8, u "BIG_ENDIAN"), (0, u "Z"), (8, u "LOG2_BYTE_BIT_SIZE"), (4, u "LOG2_ARRAY_INT_INDEX_SCALE"), (54, u "JLA"), (0, u "Ljdk/internal/access/JavaLangAccess;"), (11, u "LOG2_ARRAY_BOOLEAN_INDEX_SCALE"), (9, u "LOG2_ARRAY_BYTE_INDEX_SCALE"), (5, u "LOG2_ARRAY_CHAR_INDEX_SCALE"), (5, u "LOG2_ARRAY_SHORT_INDEX_SCALE"), (18, u "LOG2_ARRAY_FLOAT_INDEX_SCALE"), (24, u "LOG2_ARRAY_DOUBLE_INDEX_SCALE"), (89, u "T_BOOLEAN"), (2, u "T_CHAR"), (1, u "T_FLOAT"), (1, u "T_DOUBLE"), (1, u "T_BYTE"), (1, u "T_SHORT"), (1, u "T_INT"), (1, u "T_LONG"), (1, u "SOFT_MAX_ARRAY_LENGTH")] 83

def k14m0 : Method := { name := "<init>", desc := "()V", sig := { parameters := [], returnType := none }, accessFlags := 2, code := none }
/-- jdk/internal/util/ArraysSupport -/
def k14 : Class := { plain "jdk/internal/util/ArraysSupport" (some 0) with
  accessFlags := 33
  interfaces := #[]
  cf := some (fileOf pool14 21 #[] #[{ accessFlags := 2, nameIndex := 9, descriptorIndex := 19, attributes := #[] }] 33 16 #[] #[{ accessFlags := 24, nameIndex := 28, descriptorIndex := 29, attributes := #[] }, { accessFlags := 26, nameIndex := 38, descriptorIndex := 39, attributes := #[] }, { accessFlags := 25, nameIndex := 121, descriptorIndex := 25, attributes := #[] }, { accessFlags := 25, nameIndex := 131, descriptorIndex := 25, attributes := #[] }, { accessFlags := 25, nameIndex := 137, descriptorIndex := 25, attributes := #[] }, { accessFlags := 25, nameIndex := 143, descriptorIndex := 25, attributes := #[] }, { accessFlags := 25, nameIndex := 53, descriptorIndex := 25, attributes := #[] }, { accessFlags := 25, nameIndex := 24, descriptorIndex := 25, attributes := #[] }, { accessFlags := 25, nameIndex := 162, descriptorIndex := 25, attributes := #[] }, { accessFlags := 25, nameIndex := 187, descriptorIndex := 25, attributes := #[] }, { accessFlags := 26, nameIndex := 48, descriptorIndex := 25, attributes := #[] }, { accessFlags := 25, nameIndex := 277, descriptorIndex := 25, attributes := #[] }, { accessFlags := 25, nameIndex := 280, descriptorIndex := 25, attributes := #[] }, { accessFlags := 25, nameIndex := 282, descriptorIndex := 25, attributes := #[] }, { accessFlags := 25, nameIndex := 284, descriptorIndex := 25, attributes := #[] }, { accessFlags := 25, nameIndex := 286, descriptorIndex := 25, attributes := #[] }, { accessFlags := 25, nameIndex := 288, descriptorIndex := 25, attributes := #[] }, { accessFlags := 25, nameIndex := 290, descriptorIndex := 25, attributes := #[] }, { accessFlags := 25, nameIndex := 292, descriptorIndex := 25, attributes := #[] }, { accessFlags := 26, nameIndex := 108, descriptorIndex := 109, attributes := #[] }, { accessFlags := 25, nameIndex := 294, descriptorIndex := 25, attributes := #[] }])
  fields := #[{ name := "U", type := (.object "jdk/internal/misc/Unsafe"), accessFlags := 24, slot := 0, constantValue := 0 }, { name := "BIG_ENDIAN", type := .boolean, accessFlags := 26, slot := 1, constantValue := 0 }, { name := "LOG2_ARRAY_BOOLEAN_INDEX_SCALE", type := .int, accessFlags := 25, slot := 2, constantValue := 0 }, { name := "LOG2_ARRAY_BYTE_INDEX_SCALE", type := .int, accessFlags := 25, slot := 3, constantValue := 0 }, { name := "LOG2_ARRAY_CHAR_INDEX_SCALE", type := .int, accessFlags := 25, slot := 4, constantValue := 0 }, { name := "LOG2_ARRAY_SHORT_INDEX_SCALE", type := .int, accessFlags := 25, slot := 5, constantValue := 0 }, { name := "LOG2_ARRAY_INT_INDEX_SCALE", type := .int, accessFlags := 25, slot := 6, constantValue := 0 }, { name := "LOG2_ARRAY_LONG_INDEX_SCALE", type := .int, accessFlags := 25, slot := 7, constantValue := 0 }, { name := "LOG2_ARRAY_FLOAT_INDEX_SCALE", type := .int, accessFlags := 25, slot := 8, constantValue := 0 }, { name := "LOG2_ARRAY_DOUBLE_INDEX_SCALE", type := .int, accessFlags := 25, slot := 9, constantValue := 0 }, { name := "LOG2_BYTE_BIT_SIZE", type := .int, accessFlags := 26, slot := 10, constantValue := 0 }, { name := "T_BOOLEAN", type := .int, accessFlags := 25, slot := 11, constantValue := 0 }, { name := "T_CHAR", type := .int, accessFlags := 25, slot := 12, constantValue := 0 }, { name := "T_FLOAT", type := .int, accessFlags := 25, slot := 13, constantValue := 0 }, { name := "T_DOUBLE", type := .int, accessFlags := 25, slot := 14, constantValue := 0 }, { name := "T_BYTE", type := .int, accessFlags := 25, slot := 15, constantValue := 0 }, { name := "T_SHORT", type := .int, accessFlags := 25, slot := 16, constantValue := 0 }, { name := "T_INT", type := .int, accessFlags := 25, slot := 17, constantValue := 0 }, { name := "T_LONG", type := .int, accessFlags := 25, slot := 18, constantValue := 0 }, { name := "JLA", type := (.object "jdk/internal/access/JavaLangAccess"), accessFlags := 26, slot := 19, constantValue := 0 }, { name := "SOFT_MAX_ARRAY_LENGTH", type := .int, accessFlags := 25, slot := 20, constantValue := 0 }]
  methods := #[k14m0]
  instanceTypes := #[]
  staticTypes := #[(.object "jdk/internal/misc/Unsafe"), .boolean, .int, .int, .int, .int, .int, .int, .int, .int, .int, .int, .int, .int, .int, .int, .int, .int, .int, (.object "jdk/internal/access/JavaLangAccess"), .int]
  resolved := Array.replicate 378 none
  statics := none }

def pool15 : Array CpInfo := pool [(1, u "java/lang/Cloneable"), (0, .class_ 1), (0, u "java/lang/Object"), (0, .class_ 3)] 3

/-- java/lang/Cloneable -/
def k15 : Class := { plain "java/lang/Cloneable" (some 0) with
  accessFlags := 1537
  interfaces := #[]
  cf := some (fileOf pool15 2 #[] #[] 1537 4 #[] #[])
  fields := #[]
  methods := #[]
  instanceTypes := #[]
  staticTypes := #[]
  resolved := Array.replicate 8 none
  statics := none }

/-- the primitive byte -/
def k16 : Class := { plain "byte" none with kind := .primitive 'B', accessFlags := 0x411 }
/-- [B -/
def k17 : Class := { plain "[B" (some 0) with kind := .array 16 .byte, interfaces := #[15, 2], accessFlags := 1041 }

/-- the primitive char -/
def k18 : Class := { plain "char" none with kind := .primitive 'C', accessFlags := 0x411 }
/-- [C -/
def k19 : Class := { plain "[C" (some 0) with kind := .array 18 .char, interfaces := #[15, 2], accessFlags := 1041 }

/-- the primitive int -/
def k20 : Class := { plain "int" none with kind := .primitive 'I', accessFlags := 0x411 }
/-- [I -/
def k21 : Class := { plain "[I" (some 0) with kind := .array 20 .int, interfaces := #[15, 2], accessFlags := 1041 }

def heap : Heap := #[{ cls := 7, slots := #[.long 0, .int 1, .null, .int 0, .null, .int 0, .int 0], vm := .statics 7 },
  { cls := 13, slots := #[.null, .null, .null], vm := .statics 13 }]
def classes : Array Class := #[k0, k1, k2, k3, k4, k5, k6, k7, k8, k9, k10, k11, k12, k13, k14, k15, k16, k17, k18, k19, k20, k21]
def interned : List (Array UInt16 × Addr) := []
def slotsUsed : Nat := 10
def theMethod : MethodId := ⟨1, 2⟩
def args0 : Array Value := #[.int 5, .int 6, .int 7]
def aboutOver (below : List Frame) : State where
  vm := { classes := classes, interned := interned.toArray }
  heap := heap
  slotsUsed := slotsUsed
  threads := #[{ frames := .invoking theMethod args0 :: below }]
def below0 : List Frame := [.native { method := ⟨0, 0⟩, args := #[] }]
def about1 : State := aboutOver below0
def p0 : Program := .bare "" "" ""
def e0 : Env := launch0.env 0 0 0
theorem w_frames : about1.frames = Frame.invoking theMethod args0 :: below0 := rfl
set_option maxRecDepth 65536 in
theorem w_args : argsFit about1.vm theMethod args0 = true := by decide +kernel
set_option maxRecDepth 65536 in
theorem w_heap : heapFits about1 = true := by decide +kernel
set_option maxRecDepth 65536 in
theorem w_runnable : about1.curStatus? = some .runnable := by decide +kernel
set_option maxRecDepth 65536 in
theorem w_alone : about1.alone = true := by decide +kernel
set_option maxRecDepth 65536 in
theorem w_named : about1.methodNamed? x = some theMethod := by decide +kernel
set_option maxRecDepth 65536 in
theorem w_hears : about1.hears theMethod below0 = true := by decide +kernel
set_option maxRecDepth 65536 in
theorem w_ripe : about1.ripe theMethod args0 below0 = true := by decide +kernel
theorem w_running : about1.status = .running := rfl
set_option maxRecDepth 65536 in
theorem w_room : about1.hasRoom e0.platform room_1 = true :=
  launch0.hasRoom_least _ room_1 (by decide +kernel) (by decide +kernel) (by decide +kernel) (by decide +kernel) (by decide +kernel) (by decide +kernel)
theorem allAtoms_all (ts : List Jvm.Cond) (a : Array Jvm.Value) (st : Jvm.State) : (allAtoms ts).before a st = ts.all (fun c => c.before a st) := by
  induction ts with
  | nil => rfl
  | cons c t ih =>
    show (Jvm.Cond.and c (allAtoms t)).before a st = _
    rw [Jvm.Cond.before_and, ih, List.all_cons]
def words1 : List Jvm.Cond := Jvm.Cond.code x code maxLocals ret :: tables_1
/-- a 'code' word, met by the world's own term for the bytes: nothing is compared byte by byte -/
theorem code_word {y : MethodName} {bytes : ByteArray} {mx : Nat} {rt : Option FieldType} {a : Array Value} {s : State} {m : MethodId} {meth : Method} {c : Code} (h1 : s.methodNamed? y = some m) (h2 : s.vm.method? m = some meth) (h3 : meth.code = some c) (h4 : c.code = bytes)
    (h5 : (c.maxLocals == mx && c.exceptionTable.isEmpty && decide (c.maxStack ≤ mostOperands) && decide (meth.sig.returnType = rt) && !meth.locks && decide (parseMethodDescriptor y.desc = some meth.sig)) = true) : (Jvm.Cond.code y bytes mx rt).before a s = true := by
  simp only [Bool.and_eq_true, beq_iff_eq, Bool.not_eq_true', decide_eq_true_eq] at h5
  obtain ⟨⟨⟨⟨⟨g1, g2⟩, g3⟩, g4⟩, g5⟩, g6⟩ := h5
  simp [Cond.before, Cond.holds, Cond.value, h1, h2, h3, h4, g1, g2, g3, g4, g5, g6]
def isCode : Jvm.Cond → Bool
  | .code _ _ _ _ => true
  | _ => false
theorem all_split {L : List Jvm.Cond} {P : Jvm.Cond → Bool} (h1 : L.all (fun c => isCode c || P c) = true) (h2 : ∀ c ∈ L.filter isCode, P c = true) : L.all P = true := by
  refine List.all_eq_true.mpr fun c hc => ?_
  have h := List.all_eq_true.mp h1 c hc
  rcases Bool.eq_false_or_eq_true (isCode c) with hi | hi
  · exact h2 c (List.mem_filter.mpr ⟨hc, hi⟩)
  · simpa [hi] using h
set_option maxRecDepth 65536 in
theorem w_c0 : (Jvm.Cond.code x code maxLocals ret).before args0 about1 = true := code_word (m := ⟨1, 2⟩) (meth := k1m2) (c := k1c2) (by decide +kernel) rfl rfl rfl (by decide +kernel)
set_option maxRecDepth 65536 in
theorem w_c1 : (Jvm.Cond.code ({ cls := "com/example/norn/norn/http/EntityTagMatchesStronglyPinLaw", name := "make", desc := "(ICCC)Ljava/lang/String;" } : Jvm.MethodName) method_2_code (5 : Nat) (Option.some (Jvm.ClassFile.FieldType.object "java/lang/String"))).before args0 about1 = true := code_word (m := ⟨1, 1⟩) (meth := k1m1) (c := k1c1) (by decide +kernel) rfl rfl rfl (by decide +kernel)
set_option maxRecDepth 65536 in
theorem w_c2 : (Jvm.Cond.code ({ cls := "java/lang/String", name := "<init>", desc := "([C)V" } : Jvm.MethodName) jdk_42_method_3_code (2 : Nat) (Option.none : Option Jvm.ClassFile.FieldType)).before args0 about1 = true := code_word (m := ⟨7, 1⟩) (meth := k7m1) (c := k7c1) (by decide +kernel) rfl rfl rfl (by decide +kernel)
set_option maxRecDepth 65536 in
theorem w_c3 : (Jvm.Cond.code ({ cls := "java/lang/String", name := "<init>", desc := "([CIILjava/lang/Void;)V" } : Jvm.MethodName) jdk_42_method_149_code (6 : Nat) (Option.none : Option Jvm.ClassFile.FieldType)).before args0 about1 = true := code_word (m := ⟨7, 3⟩) (meth := k7m3) (c := k7c3) (by decide +kernel) rfl rfl rfl (by decide +kernel)
set_option maxRecDepth 65536 in
theorem w_c4 : (Jvm.Cond.code ({ cls := "java/lang/Object", name := "<init>", desc := "()V" } : Jvm.MethodName) object_method_1_code (1 : Nat) (Option.none : Option Jvm.ClassFile.FieldType)).before args0 about1 = true := code_word (m := ⟨0, 0⟩) (meth := k0m0) (c := k0c0) (by decide +kernel) rfl rfl rfl (by decide +kernel)
set_option maxRecDepth 65536 in
theorem w_c5 : (Jvm.Cond.code ({ cls := "com/example/norn/norn/http/EntityTag", name := "<init>", desc := "(ZLjava/lang/String;)V" } : Jvm.MethodName) prog_47_method_1_code (3 : Nat) (Option.none : Option Jvm.ClassFile.FieldType)).before args0 about1 = true := code_word (m := ⟨9, 0⟩) (meth := k9m0) (c := k9c0) (by decide +kernel) rfl rfl rfl (by decide +kernel)
set_option maxRecDepth 65536 in
theorem w_c6 : (Jvm.Cond.code ({ cls := "java/lang/Record", name := "<init>", desc := "()V" } : Jvm.MethodName) jdk_30_method_1_code (1 : Nat) (Option.none : Option Jvm.ClassFile.FieldType)).before args0 about1 = true := code_word (m := ⟨8, 0⟩) (meth := k8m0) (c := k8c0) (by decide +kernel) rfl rfl rfl (by decide +kernel)
set_option maxRecDepth 65536 in
theorem w_c7 : (Jvm.Cond.code ({ cls := "java/util/Objects", name := "requireNonNull", desc := "(Ljava/lang/Object;Ljava/lang/String;)Ljava/lang/Object;" } : Jvm.MethodName) jdk_31_method_11_code (2 : Nat) (Option.some (Jvm.ClassFile.FieldType.object "java/lang/Object"))).before args0 about1 = true := code_word (m := ⟨10, 1⟩) (meth := k10m1) (c := k10c1) (by decide +kernel) rfl rfl rfl (by decide +kernel)
set_option maxRecDepth 65536 in
theorem w_c8 : (Jvm.Cond.code ({ cls := "com/example/norn/norn/http/EntityTag", name := "matchesStrongly", desc := "(Lcom/example/norn/norn/http/EntityTag;)Z" } : Jvm.MethodName) prog_47_method_5_code (2 : Nat) (Option.some Jvm.ClassFile.FieldType.boolean)).before args0 about1 = true := code_word (m := ⟨9, 1⟩) (meth := k9m1) (c := k9c1) (by decide +kernel) rfl rfl rfl (by decide +kernel)
set_option maxRecDepth 65536 in
theorem w_c9 : (Jvm.Cond.code ({ cls := "java/lang/String", name := "equals", desc := "(Ljava/lang/Object;)Z" } : Jvm.MethodName) jdk_42_method_66_code (3 : Nat) (Option.some Jvm.ClassFile.FieldType.boolean)).before args0 about1 = true := code_word (m := ⟨7, 2⟩) (meth := k7m2) (c := k7c2) (by decide +kernel) rfl rfl rfl (by decide +kernel)
set_option maxRecDepth 65536 in
theorem w_c10 : (Jvm.Cond.code ({ cls := "java/lang/StringLatin1", name := "equals", desc := "([B[B)Z" } : Jvm.MethodName) jdk_43_method_13_code (3 : Nat) (Option.some Jvm.ClassFile.FieldType.boolean)).before args0 about1 = true := code_word (m := ⟨11, 1⟩) (meth := k11m1) (c := k11c1) (by decide +kernel) rfl rfl rfl (by decide +kernel)
set_option maxRecDepth 65536 in
theorem w_c11 : (Jvm.Cond.code ({ cls := "java/lang/StringUTF16", name := "compress", desc := "([CII)[B" } : Jvm.MethodName) jdk_52_method_16_code (6 : Nat) (Option.some (Jvm.ClassFile.FieldType.array Jvm.ClassFile.FieldType.byte))).before args0 about1 = true := code_word (m := ⟨12, 2⟩) (meth := k12m2) (c := k12c2) (by decide +kernel) rfl rfl rfl (by decide +kernel)
set_option maxRecDepth 65536 in
theorem w_c12 : (Jvm.Cond.code ({ cls := "java/lang/StringUTF16", name := "compress", desc := "([CI[BII)I" } : Jvm.MethodName) jdk_52_method_21_code (7 : Nat) (Option.some Jvm.ClassFile.FieldType.int)).before args0 about1 = true := code_word (m := ⟨12, 3⟩) (meth := k12m3) (c := k12c3) (by decide +kernel) rfl rfl rfl (by decide +kernel)
set_option maxRecDepth 65536 in
theorem w_c13 : (Jvm.Cond.code ({ cls := "java/lang/StringUTF16", name := "coderFromArrayLen", desc := "([BI)B" } : Jvm.MethodName) jdk_52_method_15_code (2 : Nat) (Option.some Jvm.ClassFile.FieldType.byte)).before args0 about1 = true := code_word (m := ⟨12, 1⟩) (meth := k12m1) (c := k12c1) (by decide +kernel) rfl rfl rfl (by decide +kernel)
def codes1 : List Jvm.Cond := [Jvm.Cond.code x code maxLocals ret, Jvm.Cond.code ({ cls := "com/example/norn/norn/http/EntityTagMatchesStronglyPinLaw", name := "make", desc := "(ICCC)Ljava/lang/String;" } : Jvm.MethodName) method_2_code (5 : Nat) (Option.some (Jvm.ClassFile.FieldType.object "java/lang/String")), Jvm.Cond.code ({ cls := "java/lang/String", name := "<init>", desc := "([C)V" } : Jvm.MethodName) jdk_42_method_3_code (2 : Nat) (Option.none : Option Jvm.ClassFile.FieldType), Jvm.Cond.code ({ cls := "java/lang/String", name := "<init>", desc := "([CIILjava/lang/Void;)V" } : Jvm.MethodName) jdk_42_method_149_code (6 : Nat) (Option.none : Option Jvm.ClassFile.FieldType), Jvm.Cond.code ({ cls := "java/lang/Object", name := "<init>", desc := "()V" } : Jvm.MethodName) object_method_1_code (1 : Nat) (Option.none : Option Jvm.ClassFile.FieldType), Jvm.Cond.code ({ cls := "com/example/norn/norn/http/EntityTag", name := "<init>", desc := "(ZLjava/lang/String;)V" } : Jvm.MethodName) prog_47_method_1_code (3 : Nat) (Option.none : Option Jvm.ClassFile.FieldType), Jvm.Cond.code ({ cls := "java/lang/Record", name := "<init>", desc := "()V" } : Jvm.MethodName) jdk_30_method_1_code (1 : Nat) (Option.none : Option Jvm.ClassFile.FieldType), Jvm.Cond.code ({ cls := "java/util/Objects", name := "requireNonNull", desc := "(Ljava/lang/Object;Ljava/lang/String;)Ljava/lang/Object;" } : Jvm.MethodName) jdk_31_method_11_code (2 : Nat) (Option.some (Jvm.ClassFile.FieldType.object "java/lang/Object")), Jvm.Cond.code ({ cls := "com/example/norn/norn/http/EntityTag", name := "matchesStrongly", desc := "(Lcom/example/norn/norn/http/EntityTag;)Z" } : Jvm.MethodName) prog_47_method_5_code (2 : Nat) (Option.some Jvm.ClassFile.FieldType.boolean), Jvm.Cond.code ({ cls := "java/lang/String", name := "equals", desc := "(Ljava/lang/Object;)Z" } : Jvm.MethodName) jdk_42_method_66_code (3 : Nat) (Option.some Jvm.ClassFile.FieldType.boolean), Jvm.Cond.code ({ cls := "java/lang/StringLatin1", name := "equals", desc := "([B[B)Z" } : Jvm.MethodName) jdk_43_method_13_code (3 : Nat) (Option.some Jvm.ClassFile.FieldType.boolean), Jvm.Cond.code ({ cls := "java/lang/StringUTF16", name := "compress", desc := "([CII)[B" } : Jvm.MethodName) jdk_52_method_16_code (6 : Nat) (Option.some (Jvm.ClassFile.FieldType.array Jvm.ClassFile.FieldType.byte)), Jvm.Cond.code ({ cls := "java/lang/StringUTF16", name := "compress", desc := "([CI[BII)I" } : Jvm.MethodName) jdk_52_method_21_code (7 : Nat) (Option.some Jvm.ClassFile.FieldType.int), Jvm.Cond.code ({ cls := "java/lang/StringUTF16", name := "coderFromArrayLen", desc := "([BI)B" } : Jvm.MethodName) jdk_52_method_15_code (2 : Nat) (Option.some Jvm.ClassFile.FieldType.byte)]
set_option maxRecDepth 65536 in
theorem codes_eq : words1.filter isCode = codes1 := rfl
theorem w_codes : ∀ c ∈ words1.filter isCode, c.before args0 about1 = true := by
  rw [codes_eq]
  intro c hc
  simp only [codes1, List.mem_cons, List.not_mem_nil, or_false] at hc
  rcases hc with rfl | rfl | rfl | rfl | rfl | rfl | rfl | rfl | rfl | rfl | rfl | rfl | rfl | rfl
  · exact w_c0
  · exact w_c1
  · exact w_c2
  · exact w_c3
  · exact w_c4
  · exact w_c5
  · exact w_c6
  · exact w_c7
  · exact w_c8
  · exact w_c9
  · exact w_c10
  · exact w_c11
  · exact w_c12
  · exact w_c13
set_option maxRecDepth 65536 in
theorem w_t1 : (words1.take 24).all (fun c => isCode c || c.before args0 about1) = true := by decide +kernel
set_option maxRecDepth 65536 in
theorem w_t2 : ((words1.drop 24).take 24).all (fun c => isCode c || c.before args0 about1) = true := by decide +kernel
set_option maxRecDepth 65536 in
theorem w_t3 : (((words1.drop 24).drop 24).take 24).all (fun c => isCode c || c.before args0 about1) = true := by decide +kernel
set_option maxRecDepth 65536 in
theorem w_t4 : (((words1.drop 24).drop 24).drop 24).all (fun c => isCode c || c.before args0 about1) = true := by decide +kernel
theorem w_tables : (allAtoms (Jvm.Cond.code x code maxLocals ret :: tables_1)).before args0 about1 = true := by
  rw [allAtoms_all]
  show words1.all (fun c => c.before args0 about1) = true
  refine all_split ?_ w_codes
  rw [← List.take_append_drop 24 words1, List.all_append, w_t1, ← List.take_append_drop 24 (words1.drop 24), List.all_append, w_t2, ← List.take_append_drop 24 ((words1.drop 24).drop 24), List.all_append, w_t3, w_t4]
  rfl
set_option maxRecDepth 65536 in
theorem w_rest : rest_1_c.before args0 about1 = true := by decide +kernel
set_option maxRecDepth 65536 in
theorem w_case : (Jvm.Cond.and given_1 narrow_1).before args0 about1 = true := by decide +kernel
set_option maxRecDepth 65536 in
theorem w_consts : constsHeld consts_1 about1 := Jvm.Lit.constsHeldB_iff.mp (by decide +kernel)
theorem w_applies : (headSpec (Jvm.Cond.code x code maxLocals ret :: tables_1) room_1).applies x e0.platform about1 = true :=
  (Spec.applies_iff w_frames).mpr ⟨w_running, w_runnable, w_alone, w_named, w_hears, w_ripe, w_room, w_tables⟩
theorem atStart : AtStart classFile x code maxLocals ret World_1 tables_1 room_1 Calls_1 rest_1 Pre_1 launch0 p0 e0 about1 theMethod args0 below0 :=
  ⟨lists_1, trivial, launch0.admits_env _ _ _, launch0.least_env, fairChoices_fair.cas, fairChoices_fair.clock, w_frames, w_args, w_heap, w_applies, ⟨w_consts, trivial⟩, w_rest, w_case⟩
end start1
theorem witness_1 : WitnessClaimed_1 := ⟨start1.p0, start1.e0, start1.about1, start1.theMethod, start1.args0, start1.below0, start1.atStart⟩
end Jvm.Pilot.@@N@@
