import JvmDerived
import JvmDerived.Pilot.@@N@@Statement
import JvmDerived.Pilot.@@N@@Code
set_option linter.unusedVariables false
set_option linter.unusedSimpArgs false
@@BLOCK:NumsL.lean.txt@@
/- laws to paste: Road.backV (cut by pick.py; bodies as the Statement names them) -/
namespace Jvm.Pilot.@@N@@
namespace StrChars
open Jvm Sem ClassFile Op Lib Jvm.Stand Jvm.Free.XT Jvm.Free.ALB Jvm.Free.JM Jvm.Free
open Jvm.Lib.Cold (StaticIs)
/-- a char array whose places are chars -/
def Ch (a : Addr) (A : Cell) (U : State) : Prop := Arr .char a A U ∧ Typed .char A
theorem Ch.mv {a : Addr} {A : Cell} {U U' : State} (h : Ch a A U) (hal : U.vm.Alike U'.vm) (hh : U'.heap = U.heap) : Ch a A U' := ⟨h.1.mv hal hh, h.2⟩
theorem Ch.keep {a : Addr} {A : Cell} {U U' : State} (h : Ch a A U) (hal : U.vm.Alike U'.vm) (hk : U'.heap[a]? = some A) : Ch a A U' := ⟨h.1.keep hal hk, h.2⟩
/-- what place i of a char[]'s cell holds -/
def cv (A : Cell) (i : Nat) : Int32 := match A.slots[i]? with | some (.int x) => x | _ => 0
theorem Ch.get {a : Addr} {A : Cell} {U : State} (h : Ch a A U) {i : Nat} (hi : i < A.slots.size) : A.slots[i]? = some (.int (cv A i)) := by
  have e := Array.getElem?_eq_getElem hi
  have f := h.2 i _ e
  unfold cv; rw [e]
  generalize A.slots[i] = v at f
  cases v <;> simp [fits] at f ⊢
/-- the byte that i2b leaves of a char -/
def lo8 (x : Int32) : Int32 := x.toInt8.toInt32
theorem fits_lo8 (y : Int32) : fits .byte (.int (lo8 y)) = true := by
  have h1 := y.toInt8.le_toInt
  have h2 := y.toInt8.toInt_lt
  simp only [lo8, fits, Bool.and_eq_true, decide_eq_true_eq, Int32.le_iff_toInt_le, Int8.toInt_toInt32, show (-128 : Int32).toInt = -128 from by decide, show (127 : Int32).toInt = 127 from by decide]
  omega
/-- A' is A but that each place j of lo .. hi - 1 holds f j -/
def Laid (A A' : Cell) (lo hi : Nat) (f : Nat → Value) : Prop := A'.cls = A.cls ∧ A'.vm = A.vm ∧ A'.slots.size = A.slots.size ∧ ∀ i, A'.slots[i]? = if lo ≤ i ∧ i < hi then some (f i) else A.slots[i]?
theorem Laid.zero (A : Cell) (lo : Nat) (f : Nat → Value) : Laid A A lo (lo + 0) f := ⟨rfl, rfl, rfl, fun i => by rw [if_neg (by omega)]⟩
theorem Laid.step {A Ak : Cell} {lo k : Nat} {f : Nat → Value} {v : Value} (h : Laid A Ak lo k f) (hlo : lo ≤ k) (hk : k < Ak.slots.size) (hv : v = f k) : Laid A (Ak.setSlot k v) lo (k + 1) f := by
  refine ⟨h.1, h.2.1, by simpa [Cell.setSlot] using h.2.2.1, fun i => ?_⟩
  by_cases e : k = i
  · subst e; rw [Cell.slots_setSlot_self v hk, if_pos (by omega), hv]
  · rw [Cell.slots_setSlot_ne v e, h.2.2.2 i]
    by_cases q : lo ≤ i ∧ i < k
    · rw [if_pos q, if_pos (by omega)]
    · rw [if_neg q, if_neg (by omega)]
def U16 : String := "java/lang/StringUTF16"
namespace Cmp5
def yN : MethodName := ⟨"java/lang/StringUTF16", "compress", "([CI[BII)I"⟩
abbrev yB : ByteArray := jdk_52_method_21_code
theorem d0 : decode yB 0 = .ok (.iconst 0, 1) := by decide +kernel
theorem d1 : decode yB 1 = .ok (.istore 5, 2) := by decide +kernel
theorem d3 : decode yB 3 = .ok (.iload 5, 2) := by decide +kernel
theorem d5 : decode yB 5 = .ok (.iload 4, 2) := by decide +kernel
theorem d7 : decode yB 7 = .ok (.if_icmp (.ge) 37, 3) := by decide +kernel
theorem d10 : decode yB 10 = .ok (.aload_n 0, 1) := by decide +kernel
theorem d11 : decode yB 11 = .ok (.iload_n 1, 1) := by decide +kernel
theorem d12 : decode yB 12 = .ok (.caload, 1) := by decide +kernel
theorem d13 : decode yB 13 = .ok (.istore 6, 2) := by decide +kernel
theorem d15 : decode yB 15 = .ok (.iload 6, 2) := by decide +kernel
theorem d17 : decode yB 17 = .ok (.sipush 255, 3) := by decide +kernel
theorem d20 : decode yB 20 = .ok (.if_icmp (.le) 6, 3) := by decide +kernel
theorem d26 : decode yB 26 = .ok (.aload_n 2, 1) := by decide +kernel
theorem d27 : decode yB 27 = .ok (.iload_n 3, 1) := by decide +kernel
theorem d28 : decode yB 28 = .ok (.iload 6, 2) := by decide +kernel
theorem d30 : decode yB 30 = .ok (.i2b, 1) := by decide +kernel
theorem d31 : decode yB 31 = .ok (.bastore, 1) := by decide +kernel
theorem d32 : decode yB 32 = .ok (.iinc 1 1, 3) := by decide +kernel
theorem d35 : decode yB 35 = .ok (.iinc 3 1, 3) := by decide +kernel
theorem d38 : decode yB 38 = .ok (.iinc 5 1, 3) := by decide +kernel
theorem d41 : decode yB 41 = .ok (.goto (-38), 3) := by decide +kernel
theorem d44 : decode yB 44 = .ok (.iload 4, 2) := by decide +kernel
theorem d46 : decode yB 46 = .ok (.ireturn, 1) := by decide +kernel
def site : List Cond := []
def tab : Cond := tabOf yN yB 7 (some .int) site
def P (b : Addr) (A : Cell) (d : Addr) (B : Cell) (o q len : Nat) (args : Array Value) (s : State) : Prop := args = #[.ref b, .int (Int32.ofNat o), .ref d, .int (Int32.ofNat q), .int (Int32.ofNat len)] ∧ Ch b A s ∧ Arr .byte d B s ∧ b ≠ d ∧ o + len ≤ A.slots.size ∧ q + len ≤ B.slots.size ∧ ∀ i, i < len → ¬ 255 < cv A (o + i)
def E (b : Addr) (A : Cell) (d : Addr) (B : Cell) (o q len : Nat) (r : Option Value) (s u : State) : Prop := r = some (.int (Int32.ofNat len)) ∧ ∃ B', Put d B' s u ∧ Laid B B' q (q + len) (fun j => Value.int (lo8 (cv A (o + (j - q)))))
/-- no char of the range above 255: len; the places written hold each char's low byte -/
theorem law (l : Launch) (b : Addr) (A : Cell) (d : Addr) (B : Cell) (o q len : Nat) : Law l yN 5 5 0 0 yB 7 (some .int) site (P b A d B o q len) (E b A d B o q len) (copyLocs d q len) 0 0 := by
  refine Law.of_walk (plainFor_of_name (by decide +kernel)) (by decide +kernel) (by decide +kernel) (by decide) (fun _ _ h => by rw [h.1]; rfl) (fun _ U U' hal hh h => ⟨h.1, h.2.1.mv hal hh, h.2.2.1.mv hal hh, h.2.2.2⟩) (fun r U U' V V' h1 hal h2 h => ⟨h.1, h.2.elim fun B' q => ⟨B', q.1.mv h1 h2, q.2⟩⟩) ?_
  intro p e s m args below meth c s₁ X0 hexec hbytes hml hret hlk hnm hown hh0 W hP
  obtain ⟨rfl, hA, hB, hne, l1, l2, hp⟩ := hP
  have c1 : Steps p.tables e below (s₁.setTop (entryFrame m #[.ref b, .int (Int32.ofNat o), .ref d, .int (Int32.ofNat q), .int (Int32.ofNat len)] 7)) (s₁.setTop (mkF m 0 #[.val (.ref b), .val (.int (Int32.ofNat o)), .val (.ref d), .val (.int (Int32.ofNat q)), .val (.int (Int32.ofNat len)), .unset, .unset] [])) := entry rfl
  have hA0 := hA.1.mv X0.warmed.alike hh0
  have hB0 := hB.mv X0.warmed.alike hh0
  have a31 := hA.1.2.2.2
  have c2 : Steps p.tables e below (s₁.setTop (entryFrame m #[.ref b, .int (Int32.ofNat o), .ref d, .int (Int32.ofNat q), .int (Int32.ofNat len)] 7)) (s₁.setTop (mkF m 3 #[.val (.ref b), .val (.int (Int32.ofNat o)), .val (.ref d), .val (.int (Int32.ofNat q)), .val (.int (Int32.ofNat len)), .val (.int 0), .unset] [])) := c1.trans (by
    refine iconstV X0.here hexec rfl 0 (hb hbytes d0) (by decide) ?_
    refine XS.istore X0.here hexec rfl (hb hbytes d1) rfl rfl ?_
    exact Steps.refl _)
  have loop : ∀ (r i : Nat), i + r = len → ∀ (z : Slot), (z = .unset ∨ ∃ w, z = .val w ∧ w.category = 1) → ∀ (Tl : State) (Bk : Cell), Stand p l e { frames := 0, locals := 0, cells := 0, slots := 0 } s m #[.ref b, .int (Int32.ofNat o), .ref d, .int (Int32.ofNat q), .int (Int32.ofNat len)] below meth c Tl ([] ++ copyLocs d q i) 0 0 → Put d Bk s₁ Tl → Laid B Bk q (q + i) (fun j => Value.int (lo8 (cv A (o + (j - q))))) →
      Steps p.tables e below (s₁.setTop (entryFrame m #[.ref b, .int (Int32.ofNat o), .ref d, .int (Int32.ofNat q), .int (Int32.ofNat len)] 7)) (Tl.setTop (mkF m 3 #[.val (.ref b), .val (.int (Int32.ofNat (o + i))), .val (.ref d), .val (.int (Int32.ofNat (q + i))), .val (.int (Int32.ofNat len)), .val (.int (Int32.ofNat i)), z] [])) → ∃ (T' : State) (B' : Cell) (z' : Slot), Stand p l e { frames := 0, locals := 0, cells := 0, slots := 0 } s m #[.ref b, .int (Int32.ofNat o), .ref d, .int (Int32.ofNat q), .int (Int32.ofNat len)] below meth c T' ([] ++ copyLocs d q len) 0 0 ∧ Put d B' s₁ T' ∧ Laid B B' q (q + len) (fun j => Value.int (lo8 (cv A (o + (j - q))))) ∧
      Steps p.tables e below (s₁.setTop (entryFrame m #[.ref b, .int (Int32.ofNat o), .ref d, .int (Int32.ofNat q), .int (Int32.ofNat len)] 7)) (T'.setTop (mkF m 3 #[.val (.ref b), .val (.int (Int32.ofNat (o + len))), .val (.ref d), .val (.int (Int32.ofNat (q + len))), .val (.int (Int32.ofNat len)), .val (.int (Int32.ofNat len)), z'] [])) := by
    intro r
    induction r with
    | zero =>
      intro i hi z hz Tl Bk Xl pl fl cl
      have hil : i = len := by omega
      rw [hil] at Xl fl cl
      exact ⟨Tl, Bk, z, Xl, pl, fl, cl⟩
    | succ r ih =>
      intro i hi z hz Tl Bk Xl pl fl cl
      have all := X0.warmed.alike.symm.trans Xl.warmed.alike
      have hAl := hA0.keep all (pl.other hne hA0.1)
      have hBk := hB0.like all pl.1 fl.1 fl.2.1 fl.2.2.1
      have hlt : q + i < Bk.slots.size := by rw [fl.2.2.1]; omega
      have c3 : Steps p.tables e below (s₁.setTop (entryFrame m #[.ref b, .int (Int32.ofNat o), .ref d, .int (Int32.ofNat q), .int (Int32.ofNat len)] 7)) (Tl.setTop (mkF m 12 #[.val (.ref b), .val (.int (Int32.ofNat (o + i))), .val (.ref d), .val (.int (Int32.ofNat (q + i))), .val (.int (Int32.ofNat len)), .val (.int (Int32.ofNat i)), z] [.int (Int32.ofNat (o + i)), .ref b])) := cl.trans (by
        refine XS.iload Xl.here hexec rfl (hb hbytes d3) rfl ?_
        refine XS.iload Xl.here hexec rfl (hb hbytes d5) rfl ?_
        refine XS.icmpNo Xl.here hexec rfl (hb hbytes d7) rfl (ii_ge_f (lt32 (by omega) (by omega))) ?_
        refine XS.aloadN Xl.here hexec rfl (hb hbytes d10) rfl rfl ?_
        refine XS.iloadN Xl.here hexec rfl (hb hbytes d11) rfl ?_
        exact Steps.refl _)
      have c4 : Steps p.tables e below (s₁.setTop (entryFrame m #[.ref b, .int (Int32.ofNat o), .ref d, .int (Int32.ofNat q), .int (Int32.ofNat len)] 7)) (Tl.setTop (mkF m 13 #[.val (.ref b), .val (.int (Int32.ofNat (o + i))), .val (.ref d), .val (.int (Int32.ofNat (q + i))), .val (.int (Int32.ofNat len)), .val (.int (Int32.ofNat i)), z] [.int (cv A (o + i))])) := c3.trans (by
        refine Xl.aget hexec hAl rfl (hA.get (i := o + i) (by omega)) rfl rfl (hb hbytes d12) ?_
        exact Steps.refl _)
      have c5 : Steps p.tables e below (s₁.setTop (entryFrame m #[.ref b, .int (Int32.ofNat o), .ref d, .int (Int32.ofNat q), .int (Int32.ofNat len)] 7)) (Tl.setTop (mkF m 15 #[.val (.ref b), .val (.int (Int32.ofNat (o + i))), .val (.ref d), .val (.int (Int32.ofNat (q + i))), .val (.int (Int32.ofNat len)), .val (.int (Int32.ofNat i)), .val (.int (cv A (o + i)))] [])) := c4.trans (by
        refine XS.istoreS Xl.here hexec rfl (hb hbytes d13) rfl rfl hz ?_
        exact Steps.refl _)
      have c6 : Steps p.tables e below (s₁.setTop (entryFrame m #[.ref b, .int (Int32.ofNat o), .ref d, .int (Int32.ofNat q), .int (Int32.ofNat len)] 7)) (Tl.setTop (mkF m 31 #[.val (.ref b), .val (.int (Int32.ofNat (o + i))), .val (.ref d), .val (.int (Int32.ofNat (q + i))), .val (.int (Int32.ofNat len)), .val (.int (Int32.ofNat i)), .val (.int (cv A (o + i)))] [.int (lo8 (cv A (o + i))), .int (Int32.ofNat (q + i)), .ref d])) := c5.trans (by
        refine XS.iload Xl.here hexec rfl (hb hbytes d15) rfl ?_
        refine sipushV Xl.here hexec rfl 255 (hb hbytes d17) (by decide) ?_
        refine XS.icmpYes Xl.here hexec rfl (pc0 := 20) rfl (hb hbytes d20) rfl (ii_le_t (hp i (by omega))) (by decide) rfl ?_
        refine XS.aloadN Xl.here hexec rfl (hb hbytes d26) rfl rfl ?_
        refine XS.iloadN Xl.here hexec rfl (hb hbytes d27) rfl ?_
        refine XS.iload Xl.here hexec rfl (hb hbytes d28) rfl ?_
        refine i2b Xl.here hexec rfl (hb hbytes d30) rfl ?_
        exact Steps.refl _)
      obtain ⟨T7, X7, p7, st7⟩ := Xl.aput hexec hBk rfl hlt rfl (fits_lo8 (cv A (o + i))) (g := (mkF m 31 #[.val (.ref b), .val (.int (Int32.ofNat (o + i))), .val (.ref d), .val (.int (Int32.ofNat (q + i))), .val (.int (Int32.ofNat len)), .val (.int (Int32.ofNat i)), .val (.int (cv A (o + i)))] [.int (lo8 (cv A (o + i))), .int (Int32.ofNat (q + i)), .ref d])) rfl (rest := []) rfl (hb hbytes d31)
      have c8 : Steps p.tables e below (s₁.setTop (entryFrame m #[.ref b, .int (Int32.ofNat o), .ref d, .int (Int32.ofNat q), .int (Int32.ofNat len)] 7)) (T7.setTop (mkF m 32 #[.val (.ref b), .val (.int (Int32.ofNat (o + i))), .val (.ref d), .val (.int (Int32.ofNat (q + i))), .val (.int (Int32.ofNat len)), .val (.int (Int32.ofNat i)), .val (.int (cv A (o + i)))] [])) := c6.trans (st7 _ (Steps.refl _))
      have c9 : Steps p.tables e below (s₁.setTop (entryFrame m #[.ref b, .int (Int32.ofNat o), .ref d, .int (Int32.ofNat q), .int (Int32.ofNat len)] 7)) (T7.setTop (mkF m 3 #[.val (.ref b), .val (.int (Int32.ofNat (o + i) + 1)), .val (.ref d), .val (.int (Int32.ofNat (q + i) + 1)), .val (.int (Int32.ofNat len)), .val (.int (Int32.ofNat i + 1)), .val (.int (cv A (o + i)))] [])) := c8.trans (by
        refine iincV X7.here hexec rfl 1 (hb hbytes d32) (by decide) rfl rfl ?_
        refine iincV X7.here hexec rfl 1 (hb hbytes d35) (by decide) rfl rfl ?_
        refine iincV X7.here hexec rfl 1 (hb hbytes d38) (by decide) rfl rfl ?_
        refine XS.goto X7.here hexec rfl (pc0 := 41) rfl (hb hbytes d41) (by decide) rfl ?_
        exact Steps.refl _)
      have c10 : Steps p.tables e below (s₁.setTop (entryFrame m #[.ref b, .int (Int32.ofNat o), .ref d, .int (Int32.ofNat q), .int (Int32.ofNat len)] 7)) (T7.setTop (mkF m 3 #[.val (.ref b), .val (.int (Int32.ofNat (o + (i + 1)))), .val (.ref d), .val (.int (Int32.ofNat (q + (i + 1)))), .val (.int (Int32.ofNat len)), .val (.int (Int32.ofNat (i + 1))), .val (.int (cv A (o + i)))] [])) := by
        have := c9
        rw [succ32, succ32, succ32] at this
        exact this
      exact ih (i + 1) (by omega) _ (Or.inr ⟨_, rfl, rfl⟩) T7 _ (by rw [copyLocs_step, ← List.append_assoc]; exact X7) (pl.trans p7) (fl.step (by omega) hlt (by simp)) c10
  obtain ⟨T9, B9, z9, X9, p9, f9, g9⟩ := loop len 0 (by omega) .unset (Or.inl rfl) s₁ B (by simpa [copyLocs] using X0) ⟨hB0.1, fun _ _ => rfl, rfl⟩ (Laid.zero _ _ _) c2
  have c11 : Steps p.tables e below (s₁.setTop (entryFrame m #[.ref b, .int (Int32.ofNat o), .ref d, .int (Int32.ofNat q), .int (Int32.ofNat len)] 7)) (T9.setTop (mkF m 46 #[.val (.ref b), .val (.int (Int32.ofNat (o + len))), .val (.ref d), .val (.int (Int32.ofNat (q + len))), .val (.int (Int32.ofNat len)), .val (.int (Int32.ofNat len)), z9] [.int (Int32.ofNat len)])) := g9.trans (by
    refine XS.iload X9.here hexec rfl (hb hbytes d3) rfl ?_
    refine XS.iload X9.here hexec rfl (hb hbytes d5) rfl ?_
    refine XS.icmpYes X9.here hexec rfl (pc0 := 7) rfl (hb hbytes d7) rfl (ii_ge_t (nlt32 (by omega) (Nat.le_refl _))) (by decide) rfl ?_
    refine XS.iload X9.here hexec rfl (hb hbytes d44) rfl ?_
    exact Steps.refl _)
  exact ⟨T9, some (.int (Int32.ofNat len)), _, _, _, X9, by simp, rfl, rfl, (fun h => by cases h), ⟨rfl, B9, p9.from hh0, f9⟩, fun fs hl => c11.trans (X9.ireturnOut hexec hret rfl (Or.inl rfl) (hb hbytes d46) hl)⟩
end Cmp5
namespace Cmp3
def yN : MethodName := ⟨"java/lang/StringUTF16", "compress", "([CII)[B"⟩
abbrev yB : ByteArray := jdk_52_method_16_code
theorem d0 : decode yB 0 = .ok (.iload_n 2, 1) := by decide +kernel
theorem d1 : decode yB 1 = .ok (.newarray .byte, 2) := by decide +kernel
theorem d3 : decode yB 3 = .ok (.astore_n 3, 1) := by decide +kernel
theorem d4 : decode yB 4 = .ok (.aload_n 0, 1) := by decide +kernel
theorem d5 : decode yB 5 = .ok (.iload_n 1, 1) := by decide +kernel
theorem d6 : decode yB 6 = .ok (.aload_n 3, 1) := by decide +kernel
theorem d7 : decode yB 7 = .ok (.iconst 0, 1) := by decide +kernel
theorem d8 : decode yB 8 = .ok (.iload_n 2, 1) := by decide +kernel
theorem d9 : decode yB 9 = .ok (.invokestatic 115, 3) := by decide +kernel
theorem d12 : decode yB 12 = .ok (.istore 4, 2) := by decide +kernel
theorem d14 : decode yB 14 = .ok (.iload 4, 2) := by decide +kernel
theorem d16 : decode yB 16 = .ok (.iload_n 2, 1) := by decide +kernel
theorem d17 : decode yB 17 = .ok (.if_icmp (.eq) 40, 3) := by decide +kernel
theorem d57 : decode yB 57 = .ok (.aload_n 3, 1) := by decide +kernel
theorem d58 : decode yB 58 = .ok (.areturn, 1) := by decide +kernel
def site : List Cond := [.arrayClass .byte, Cmp5.tab] ++ staticW U16 115 Cmp5.yN
def tab : Cond := tabOf yN yB 6 (some (.array .byte)) site
def P (b : Addr) (A : Cell) (o len : Nat) (args : Array Value) (s : State) : Prop := args = #[.ref b, .int (Int32.ofNat o), .int (Int32.ofNat len)] ∧ Ch b A s ∧ o + len ≤ A.slots.size ∧ len ≤ 536870912 ∧ ∀ i, i < len → ¬ 255 < cv A (o + i)
def E (b : Addr) (A : Cell) (o len : Nat) (r : Option Value) (s u : State) : Prop := NewArr .byte "[B" len (fun j => .int (lo8 (cv A (o + j)))) r s u ∧ u.heap.size = s.heap.size + 1
/-- no char of the range above 255: a new byte[] of their low bytes -/
theorem law (l : Launch) (b : Addr) (A : Cell) (o len : Nat) : Law l yN 3 3 1 18 yB 6 (some (.array .byte)) site (P b A o len) (E b A o len) [] 1 len := by
  refine Law.of_walk (plainFor_of_name (by decide +kernel)) (by decide +kernel) (by decide +kernel) (by decide) (fun _ _ h => by rw [h.1]; rfl) (fun _ U U' hal hh h => ⟨h.1, h.2.1.mv hal hh, h.2.2⟩) (fun r U U' V V' h1 hal h2 h => ⟨NewArr.mv r U U' V V' h1 hal h2 h.1, by rw [h1, h2]; exact h.2⟩) ?_
  intro p e s m args below meth c s₁ X0 hexec hbytes hml hret hlk hnm hown hh0 W hP
  obtain ⟨rfl, hA, l1, l2, hp⟩ := hP
  have a31 := hA.1.2.2.2
  have c1 : Steps p.tables e below (s₁.setTop (entryFrame m #[.ref b, .int (Int32.ofNat o), .int (Int32.ofNat len)] 6)) (s₁.setTop (mkF m 0 #[.val (.ref b), .val (.int (Int32.ofNat o)), .val (.int (Int32.ofNat len)), .unset, .unset, .unset] [])) := entry rfl
  have c2 : Steps p.tables e below (s₁.setTop (entryFrame m #[.ref b, .int (Int32.ofNat o), .int (Int32.ofNat len)] 6)) (s₁.setTop (mkF m 1 #[.val (.ref b), .val (.int (Int32.ofNat o)), .val (.int (Int32.ofNat len)), .unset, .unset, .unset] [.int (Int32.ofNat len)])) := c1.trans (by
    refine XS.iloadN X0.here hexec rfl (hb hbytes d0) rfl ?_
    exact Steps.refl _)
  obtain ⟨T3, B3, X3, ba3, bs3, bv3, bh3, bf3, st3⟩ := X0.anew hexec (atype := .byte) (wk W (.arrayClass .byte)) rfl (by show len * 1 ≤ _; omega) (by omega) (g := (mkF m 1 #[.val (.ref b), .val (.int (Int32.ofNat o)), .val (.int (Int32.ofNat len)), .unset, .unset, .unset] [.int (Int32.ofNat len)])) rfl (hb hbytes d1) (rest := []) rfl (Nat.le_refl _) (by show 0 + len ≤ len; omega)
  rw [hh0] at ba3 st3
  have kp3 : XT.Kept s T3 := (XT.Kept.of_eq hh0).push bh3
  have hA3 := hA.keep X3.warmed.alike (kp3 _ _ hA.1.1)
  have hne : b ≠ s.heap.size := hA.1.ne
  have c4 : Steps p.tables e below (s₁.setTop (entryFrame m #[.ref b, .int (Int32.ofNat o), .int (Int32.ofNat len)] 6)) (T3.setTop (mkF m 3 #[.val (.ref b), .val (.int (Int32.ofNat o)), .val (.int (Int32.ofNat len)), .unset, .unset, .unset] [.ref s.heap.size])) := c2.trans (st3 _ (Steps.refl _))
  have c5 : Steps p.tables e below (s₁.setTop (entryFrame m #[.ref b, .int (Int32.ofNat o), .int (Int32.ofNat len)] 6)) (T3.setTop (mkF m 9 #[.val (.ref b), .val (.int (Int32.ofNat o)), .val (.int (Int32.ofNat len)), .val (.ref s.heap.size), .unset, .unset] [.int (Int32.ofNat len), .int 0, .ref s.heap.size, .int (Int32.ofNat o), .ref b])) := c4.trans (by
    refine XS.astoreN X3.here hexec rfl (hb hbytes d3) rfl rfl rfl ?_
    refine XS.aloadN X3.here hexec rfl (hb hbytes d4) rfl rfl ?_
    refine XS.iloadN X3.here hexec rfl (hb hbytes d5) rfl ?_
    refine XS.aloadN X3.here hexec rfl (hb hbytes d6) rfl rfl ?_
    refine iconstV X3.here hexec rfl 0 (hb hbytes d7) (by decide) ?_
    refine XS.iloadN X3.here hexec rfl (hb hbytes d8) rfl ?_
    exact Steps.refl _)
  obtain ⟨v6, T6, X6, E6, g6⟩ := X3.callS hexec (Cmp5.law l b A s.heap.size B3 o 0 len) hown (wks W (staticW U16 115 Cmp5.yN)) (wk W Cmp5.tab) (W := 0) (Nat.le_of_ble_eq_true rfl) (Nat.le_of_ble_eq_true rfl) (Nat.le_refl _) (by show 0 + len + 0 ≤ len; omega) (g := (mkF m 9 #[.val (.ref b), .val (.int (Int32.ofNat o)), .val (.int (Int32.ofNat len)), .val (.ref s.heap.size), .unset, .unset] [.int (Int32.ofNat len), .int (Int32.ofNat 0), .ref s.heap.size, .int (Int32.ofNat o), .ref b])) rfl (by rw [hml]; rfl) c5 (argsL := [.ref b, .int (Int32.ofNat o), .ref s.heap.size, .int (Int32.ofNat 0), .int (Int32.ofNat len)]) (rest := []) rfl rfl (by show 2 * 0 + 0 ≤ _; decide) (hb hbytes d9) (⟨rfl, hA3, ba3, hne, l1, by rw [bs3]; simp, hp⟩)
  obtain ⟨rfl, B6, p6, f6⟩ := E6
  have c7 : Steps p.tables e below (s₁.setTop (entryFrame m #[.ref b, .int (Int32.ofNat o), .int (Int32.ofNat len)] 6)) (T6.setTop (mkF m 12 #[.val (.ref b), .val (.int (Int32.ofNat o)), .val (.int (Int32.ofNat len)), .val (.ref s.heap.size), .unset, .unset] [.int (Int32.ofNat len)])) := g6
  have c8 : Steps p.tables e below (s₁.setTop (entryFrame m #[.ref b, .int (Int32.ofNat o), .int (Int32.ofNat len)] 6)) (T6.setTop (mkF m 58 #[.val (.ref b), .val (.int (Int32.ofNat o)), .val (.int (Int32.ofNat len)), .val (.ref s.heap.size), .val (.int (Int32.ofNat len)), .unset] [.ref s.heap.size])) := c7.trans (by
    refine XS.istore X6.here hexec rfl (hb hbytes d12) rfl rfl ?_
    refine XS.iload X6.here hexec rfl (hb hbytes d14) rfl ?_
    refine XS.iloadN X6.here hexec rfl (hb hbytes d16) rfl ?_
    refine XS.icmpYes X6.here hexec rfl (pc0 := 17) rfl (hb hbytes d17) rfl (ii_eq_t rfl) (by decide) rfl ?_
    refine XS.aloadN X6.here hexec rfl (hb hbytes d57) rfl rfl ?_
    exact Steps.refl _)
  have X8 := X6.wide (L' := []) (cells' := 1) (slots' := len) (fun x hx hlt => by
    simp only [List.nil_append, copyLocs, List.mem_map, List.mem_range] at hx
    obtain ⟨i, -, rfl⟩ := hx
    exact absurd hlt (Nat.lt_irrefl _)) (Nat.le_refl _) (by omega)
  exact ⟨T6, some (.ref s.heap.size), _, _, _, X8, rfl, rfl, rfl, (fun h => by cases h), ⟨⟨rfl, B6, ba3.like (X3.warmed.alike.symm.trans X6.warmed.alike) p6.1 f6.1 f6.2.1 f6.2.2.1, f6.2.1.trans bv3, by rw [X6.warmed.alike.findClass, f6.1]; exact bf3, by rw [f6.2.2.1, bs3]; simp, fun j hj => by rw [f6.2.2.2 j, if_pos (by omega)]; rfl, kp3.put p6 (Nat.le_refl _)⟩, by rw [p6.2.2, bh3, hh0]; simp⟩, fun fs hl => c8.trans (X8.areturnOut hexec rfl hret rfl (hb hbytes d58) hl)⟩
end Cmp3
namespace CodL
def yN : MethodName := ⟨"java/lang/StringUTF16", "coderFromArrayLen", "([BI)B"⟩
abbrev yB : ByteArray := jdk_52_method_15_code
theorem d0 : decode yB 0 = .ok (.iload_n 1, 1) := by decide +kernel
theorem d1 : decode yB 1 = .ok (.aload_n 0, 1) := by decide +kernel
theorem d2 : decode yB 2 = .ok (.arraylength, 1) := by decide +kernel
theorem d3 : decode yB 3 = .ok (.isub, 1) := by decide +kernel
theorem d4 : decode yB 4 = .ok (.bipush 31, 2) := by decide +kernel
theorem d6 : decode yB 6 = .ok (.iushr, 1) := by decide +kernel
theorem d7 : decode yB 7 = .ok (.i2b, 1) := by decide +kernel
theorem d8 : decode yB 8 = .ok (.ireturn, 1) := by decide +kernel
def site : List Cond := []
def tab : Cond := tabOf yN yB 2 (some .byte) site
def P (d : Addr) (B : Cell) (args : Array Value) (s : State) : Prop := args = #[.ref d, .int (Int32.ofNat B.slots.size)] ∧ Arr .byte d B s
def E (r : Option Value) (s u : State) : Prop := XT.PureE (some (.int 0)) r s u
/-- an array as long as the number of chars: LATIN1 -/
theorem law (l : Launch) (d : Addr) (B : Cell) : Law l yN 2 2 0 0 yB 2 (some .byte) site (P d B) E [] 0 0 := by
  refine Law.of_walk (plainFor_of_name (by decide +kernel)) (by decide +kernel) (by decide +kernel) (by decide) (fun _ _ h => by rw [h.1]; rfl) (fun _ U U' hal hh h => ⟨h.1, h.2.mv hal hh⟩) (fun r U U' V V' h1 hal h2 h => XT.PureE.mv r U U' V V' h1 hal h2 h) ?_
  intro p e s m args below meth c s₁ X0 hexec hbytes hml hret hlk hnm hown hh0 W hP
  obtain ⟨rfl, hB⟩ := hP
  have hB0 := hB.mv X0.warmed.alike hh0
  have c1 : Steps p.tables e below (s₁.setTop (entryFrame m #[.ref d, .int (Int32.ofNat B.slots.size)] 2)) (s₁.setTop (mkF m 0 #[.val (.ref d), .val (.int (Int32.ofNat B.slots.size))] [])) := entry rfl
  have c2 : Steps p.tables e below (s₁.setTop (entryFrame m #[.ref d, .int (Int32.ofNat B.slots.size)] 2)) (s₁.setTop (mkF m 2 #[.val (.ref d), .val (.int (Int32.ofNat B.slots.size))] [.ref d, .int (Int32.ofNat B.slots.size)])) := c1.trans (by
    refine XS.iloadN X0.here hexec rfl (hb hbytes d0) rfl ?_
    refine XS.aloadN X0.here hexec rfl (hb hbytes d1) rfl rfl ?_
    exact Steps.refl _)
  have c3 : Steps p.tables e below (s₁.setTop (entryFrame m #[.ref d, .int (Int32.ofNat B.slots.size)] 2)) (s₁.setTop (mkF m 8 #[.val (.ref d), .val (.int (Int32.ofNat B.slots.size))] [.int (lo8 (ushr (Int32.ofNat B.slots.size - Int32.ofNat B.slots.size) 31))])) := c2.trans (by
    refine X0.alen hexec hB0 rfl rfl (hb hbytes d2) ?_
    refine XS.isub X0.here hexec rfl (hb hbytes d3) rfl ?_
    refine bipushV X0.here hexec rfl 31 (hb hbytes d4) (by decide) ?_
    refine iushr X0.here hexec rfl (hb hbytes d6) rfl ?_
    refine i2b X0.here hexec rfl (hb hbytes d7) rfl ?_
    exact Steps.refl _)
  have e0 : lo8 (ushr (Int32.ofNat B.slots.size - Int32.ofNat B.slots.size) 31) = 0 := by rw [Int32.sub_self]; decide
  rw [e0] at c3
  exact ⟨s₁, some (.int 0), _, _, _, X0, rfl, rfl, rfl, (fun h => by cases h), ⟨rfl, hh0⟩, fun fs hl => c3.trans (X0.ireturnOut hexec hret rfl (Or.inr (Or.inr (Or.inl rfl))) (hb hbytes d8) hl)⟩
end CodL
/-- the String at a is Latin-1 over a new byte[] (the heap's one new cell): the low bytes of the len chars of A from o on; every cell but a is kept -/
def Got (a : Addr) (D : Cell) (fV fC : Field) (A : Cell) (o len : Nat) (r : Option Value) (s u : State) : Prop := r = none ∧ ∃ D' V : Cell, Blank "java/lang/String" a D' u ∧ Same D D' [fV.slot, fC.slot] ∧ D'.slots[fV.slot]? = some (.ref s.heap.size) ∧ D'.slots[fC.slot]? = some (.int 0) ∧ Arr .byte s.heap.size V u ∧ V.vm = .none ∧ u.vm.findClass "[B" = some V.cls ∧ V.slots.size = len ∧ (∀ j, j < len → V.slots[j]? = some (.int (lo8 (cv A (o + j))))) ∧ (∀ (y : Addr) (c : Cell), y ≠ a → s.heap[y]? = some c → u.heap[y]? = some c) ∧ u.heap.size = s.heap.size + 1
theorem Got.mv {a : Addr} {D A : Cell} {fV fC : Field} {o len : Nat} : ∀ r (U U' V V' : State), U'.heap = U.heap → V.vm.Alike V'.vm → V'.heap = V.heap → Got a D fV fC A o len r U V → Got a D fV fC A o len r U' V' :=
  fun r U U' V V' h1 hal h2 ⟨e0, D', X, a1, a2, a3, a4, a5, a6, a7, a8, a9, a10, a11⟩ => ⟨e0, D', X, a1.mv hal h2, a2, by rw [h1]; exact a3, a4, by rw [h1]; exact a5.mv hal h2, a6, by rw [hal.findClass]; exact a7, a8, a9, by rw [h1, h2]; exact a10, by rw [h1, h2]; exact a11⟩
namespace New4
def yN : MethodName := ⟨"java/lang/String", "<init>", "([CIILjava/lang/Void;)V"⟩
abbrev yB : ByteArray := jdk_42_method_149_code
theorem d0 : decode yB 0 = .ok (.aload_n 0, 1) := by decide +kernel
theorem d1 : decode yB 1 = .ok (.invokespecial 1, 3) := by decide +kernel
theorem d4 : decode yB 4 = .ok (.iload_n 3, 1) := by decide +kernel
theorem d5 : decode yB 5 = .ok (.ifCond (.ne) 22, 3) := by decide +kernel
theorem d27 : decode yB 27 = .ok (.getstatic 38, 3) := by decide +kernel
theorem d30 : decode yB 30 = .ok (.ifCond (.eq) 28, 3) := by decide +kernel
theorem d33 : decode yB 33 = .ok (.aload_n 1, 1) := by decide +kernel
theorem d34 : decode yB 34 = .ok (.iload_n 2, 1) := by decide +kernel
theorem d35 : decode yB 35 = .ok (.iload_n 3, 1) := by decide +kernel
theorem d36 : decode yB 36 = .ok (.invokestatic 177, 3) := by decide +kernel
theorem d39 : decode yB 39 = .ok (.astore 5, 2) := by decide +kernel
theorem d41 : decode yB 41 = .ok (.aload_n 0, 1) := by decide +kernel
theorem d42 : decode yB 42 = .ok (.aload 5, 2) := by decide +kernel
theorem d44 : decode yB 44 = .ok (.iload_n 3, 1) := by decide +kernel
theorem d45 : decode yB 45 = .ok (.invokestatic 47, 3) := by decide +kernel
theorem d48 : decode yB 48 = .ok (.putfield 15, 3) := by decide +kernel
theorem d51 : decode yB 51 = .ok (.aload_n 0, 1) := by decide +kernel
theorem d52 : decode yB 52 = .ok (.aload 5, 2) := by decide +kernel
theorem d54 : decode yB 54 = .ok (.putfield 9, 3) := by decide +kernel
theorem d57 : decode yB 57 = .ok (.return_, 1) := by decide +kernel
def site : List Cond := [.fieldLink "java/lang/String" 38 "java/lang/String" "COMPACT_STRINGS" "Z", Cmp3.tab, CodL.tab, .laysFinal "java/lang/String" "java/lang/String" "value" "[B", .fieldLink "java/lang/String" 9 "java/lang/String" "value" "[B", .laysFinal "java/lang/String" "java/lang/String" "coder" "B", .fieldLink "java/lang/String" 15 "java/lang/String" "coder" "B"] ++ objW "java/lang/String" 1 ++ staticW "java/lang/String" 177 Cmp3.yN ++ staticW "java/lang/String" 47 CodL.yN
def tab : Cond := tabOf yN yB 6 none site
def P (a : Addr) (D : Cell) (fV fC : Field) (b : Addr) (A : Cell) (z : Int32) (o len : Nat) (args : Array Value) (s : State) : Prop := args = #[.ref a, .ref b, .int (Int32.ofNat o), .int (Int32.ofNat len), .null] ∧ Blank "java/lang/String" a D s ∧ Found "java/lang/String" "value" "[B" fV s ∧ Found "java/lang/String" "coder" "B" fC s ∧ Ch b A s ∧ StaticIs s "java/lang/String" "COMPACT_STRINGS" "Z" (.int z) ∧ ¬ z = 0 ∧ 0 < len ∧ o + len ≤ A.slots.size ∧ len ≤ 536870912 ∧ ∀ i, i < len → ¬ 255 < cv A (o + i)
def E (a : Addr) (D : Cell) (fV fC : Field) (A : Cell) (o len : Nat) (r : Option Value) (s u : State) : Prop := Got a D fV fC A o len r s u
/-- len > 0, no char of the range above 255: a Latin-1 String of their low bytes -/
theorem law (l : Launch) (a : Addr) (D : Cell) (fV fC : Field) (b : Addr) (A : Cell) (z : Int32) (o len : Nat) : Law l yN 5 4 2 35 yB 6 none site (P a D fV fC b A z o len) (E a D fV fC A o len) [⟨a, fC.slot⟩, ⟨a, fV.slot⟩] 1 len := by
  refine Law.of_walk (plainFor_of_name (by decide +kernel)) (by decide +kernel) (by decide +kernel) (by decide) (fun _ _ h => by rw [h.1]; rfl) (fun _ U U' hal hh h => ⟨h.1, h.2.1.mv hal hh, h.2.2.1.al hal, h.2.2.2.1.al hal, h.2.2.2.2.1.mv hal hh, h.2.2.2.2.2.1.there hal hh, h.2.2.2.2.2.2⟩) (fun r U U' V V' h1 hal h2 h => Got.mv r U U' V V' h1 hal h2 h) ?_
  intro p e s m args below meth c s₁ X0 hexec hbytes hml hret hlk hnm hown hh0 W hP
  obtain ⟨rfl, hB, f1, f2, hA, s1, hz, l0, l1, l2, hp⟩ := hP
  have a31 := hA.1.2.2.2
  have c1 : Steps p.tables e below (s₁.setTop (entryFrame m #[.ref a, .ref b, .int (Int32.ofNat o), .int (Int32.ofNat len), .null] 6)) (s₁.setTop (mkF m 0 #[.val (.ref a), .val (.ref b), .val (.int (Int32.ofNat o)), .val (.int (Int32.ofNat len)), .val .null, .unset] [])) := entry rfl
  have c2 : Steps p.tables e below (s₁.setTop (entryFrame m #[.ref a, .ref b, .int (Int32.ofNat o), .int (Int32.ofNat len), .null] 6)) (s₁.setTop (mkF m 1 #[.val (.ref a), .val (.ref b), .val (.int (Int32.ofNat o)), .val (.int (Int32.ofNat len)), .val .null, .unset] [.ref a])) := c1.trans (by
    refine XS.aloadN X0.here hexec rfl (hb hbytes d0) rfl rfl ?_
    exact Steps.refl _)
  obtain ⟨T3, X3, q3, st3⟩ := X0.oinit hexec hown (wks W (objW "java/lang/String" 1)) (g := (mkF m 1 #[.val (.ref a), .val (.ref b), .val (.int (Int32.ofNat o)), .val (.int (Int32.ofNat len)), .val .null, .unset] [.ref a])) rfl (by rw [hml]; rfl) (rest := []) rfl (hb hbytes d1) (W := 0) (by show 2 * 0 + 0 ≤ _; decide) (Nat.le_of_ble_eq_true rfl) (Nat.le_of_ble_eq_true rfl)
  have hh3 := q3.trans hh0
  have c4 : Steps p.tables e below (s₁.setTop (entryFrame m #[.ref a, .ref b, .int (Int32.ofNat o), .int (Int32.ofNat len), .null] 6)) (T3.setTop (mkF m 27 #[.val (.ref a), .val (.ref b), .val (.int (Int32.ofNat o)), .val (.int (Int32.ofNat len)), .val .null, .unset] [])) := (c2.trans (st3 _ (Steps.refl _))).trans (by
    refine XS.iloadN X3.here hexec rfl (hb hbytes d4) rfl ?_
    refine XS.ifYes X3.here hexec rfl (pc0 := 5) rfl (hb hbytes d5) rfl (i0_ne_t (nz32 (by omega) l0)) (by decide) rfl ?_
    exact Steps.refl _)
  obtain ⟨T5, X5, q5, st5⟩ := X3.sget hexec hown (wk W (.fieldLink "java/lang/String" 38 "java/lang/String" "COMPACT_STRINGS" "Z")) s1 (fun _ _ h => by rw [hh3]; exact h) (g := (mkF m 27 #[.val (.ref a), .val (.ref b), .val (.int (Int32.ofNat o)), .val (.int (Int32.ofNat len)), .val .null, .unset] [])) rfl (hb hbytes d27)
  have hh5 := q5.trans hh3
  have c6 : Steps p.tables e below (s₁.setTop (entryFrame m #[.ref a, .ref b, .int (Int32.ofNat o), .int (Int32.ofNat len), .null] 6)) (T5.setTop (mkF m 30 #[.val (.ref a), .val (.ref b), .val (.int (Int32.ofNat o)), .val (.int (Int32.ofNat len)), .val .null, .unset] [.int z])) := c4.trans (st5 _ (Steps.refl _))
  have c7 : Steps p.tables e below (s₁.setTop (entryFrame m #[.ref a, .ref b, .int (Int32.ofNat o), .int (Int32.ofNat len), .null] 6)) (T5.setTop (mkF m 36 #[.val (.ref a), .val (.ref b), .val (.int (Int32.ofNat o)), .val (.int (Int32.ofNat len)), .val .null, .unset] [.int (Int32.ofNat len), .int (Int32.ofNat o), .ref b])) := c6.trans (by
    refine XS.ifNo X5.here hexec rfl (hb hbytes d30) rfl (i0_eq_f hz) ?_
    refine XS.aloadN X5.here hexec rfl (hb hbytes d33) rfl rfl ?_
    refine XS.iloadN X5.here hexec rfl (hb hbytes d34) rfl ?_
    refine XS.iloadN X5.here hexec rfl (hb hbytes d35) rfl ?_
    exact Steps.refl _)
  obtain ⟨v8, T8, X8, E8, g8⟩ := X5.callS hexec (Cmp3.law l b A o len) hown (wks W (staticW "java/lang/String" 177 Cmp3.yN)) (wk W Cmp3.tab) (W := 0) (Nat.le_of_ble_eq_true rfl) (Nat.le_of_ble_eq_true rfl) (Nat.le_refl _) (by show 0 + len ≤ len; omega) (g := (mkF m 36 #[.val (.ref a), .val (.ref b), .val (.int (Int32.ofNat o)), .val (.int (Int32.ofNat len)), .val .null, .unset] [.int (Int32.ofNat len), .int (Int32.ofNat o), .ref b])) rfl (by rw [hml]; rfl) c7 (argsL := [.ref b, .int (Int32.ofNat o), .int (Int32.ofNat len)]) (rest := []) rfl rfl (by show 2 * 0 + 0 ≤ _; decide) (hb hbytes d36) (⟨rfl, hA.mv X5.warmed.alike hh5, l1, l2, hp⟩)
  obtain ⟨e8, z8⟩ := E8
  obtain ⟨rfl, N, n1, n2, n3, n4, n5, n6⟩ := NewArr.mv _ T5 s _ _ hh5.symm (Vm.Alike.refl _) rfl e8
  rw [hh5] at z8
  have hB1 := hB.keep X8.warmed.alike (n6 _ _ hB.1)
  have hne : s.heap.size ≠ a := (Nat.ne_of_lt (Array.getElem?_eq_some_iff.mp hB.1).1).symm
  have c9 : Steps p.tables e below (s₁.setTop (entryFrame m #[.ref a, .ref b, .int (Int32.ofNat o), .int (Int32.ofNat len), .null] 6)) (T8.setTop (mkF m 39 #[.val (.ref a), .val (.ref b), .val (.int (Int32.ofNat o)), .val (.int (Int32.ofNat len)), .val .null, .unset] [.ref s.heap.size])) := g8
  have c10 : Steps p.tables e below (s₁.setTop (entryFrame m #[.ref a, .ref b, .int (Int32.ofNat o), .int (Int32.ofNat len), .null] 6)) (T8.setTop (mkF m 45 #[.val (.ref a), .val (.ref b), .val (.int (Int32.ofNat o)), .val (.int (Int32.ofNat len)), .val .null, .val (.ref s.heap.size)] [.int (Int32.ofNat N.slots.size), .ref s.heap.size, .ref a])) := by
    have hc : Steps p.tables e below (s₁.setTop (entryFrame m #[.ref a, .ref b, .int (Int32.ofNat o), .int (Int32.ofNat len), .null] 6)) (T8.setTop (mkF m 45 #[.val (.ref a), .val (.ref b), .val (.int (Int32.ofNat o)), .val (.int (Int32.ofNat len)), .val .null, .val (.ref s.heap.size)] [.int (Int32.ofNat len), .ref s.heap.size, .ref a])) := c9.trans (by
      refine XS.astore X8.here hexec rfl (hb hbytes d39) rfl rfl rfl ?_
      refine XS.aloadN X8.here hexec rfl (hb hbytes d41) rfl rfl ?_
      refine XS.aload X8.here hexec rfl (hb hbytes d42) rfl rfl ?_
      refine XS.iloadN X8.here hexec rfl (hb hbytes d44) rfl ?_
      exact Steps.refl _)
    rw [n4]; exact hc
  obtain ⟨v11, T11, X11, E11, g11⟩ := X8.callS hexec (CodL.law l s.heap.size N) hown (wks W (staticW "java/lang/String" 47 CodL.yN)) (wk W CodL.tab) (W := 1) (Nat.le_of_ble_eq_true rfl) (Nat.le_of_ble_eq_true rfl) (Nat.le_refl _) (by show 0 + len + 0 ≤ len; omega) (g := (mkF m 45 #[.val (.ref a), .val (.ref b), .val (.int (Int32.ofNat o)), .val (.int (Int32.ofNat len)), .val .null, .val (.ref s.heap.size)] [.int (Int32.ofNat N.slots.size), .ref s.heap.size, .ref a])) rfl (by rw [hml]; rfl) c10 (argsL := [.ref s.heap.size, .int (Int32.ofNat N.slots.size)]) (rest := [.ref a]) rfl rfl (by show 2 * 0 + (1 + 0) ≤ _; decide) (hb hbytes d45) (⟨rfl, n1⟩)
  obtain ⟨rfl, q11⟩ := E11
  have hB11 := hB1.mv (X8.warmed.alike.symm.trans X11.warmed.alike) q11
  have c12 : Steps p.tables e below (s₁.setTop (entryFrame m #[.ref a, .ref b, .int (Int32.ofNat o), .int (Int32.ofNat len), .null] 6)) (T11.setTop (mkF m 48 #[.val (.ref a), .val (.ref b), .val (.int (Int32.ofNat o)), .val (.int (Int32.ofNat len)), .val .null, .val (.ref s.heap.size)] [.int 0, .ref a])) := g11
  obtain ⟨T13, X13, p13, bl13, sl13, st13⟩ := X11.finit hexec hown (wk W (.fieldLink "java/lang/String" 15 "java/lang/String" "coder" "B")) (Or.inr ⟨_, (wk W (.laysFinal "java/lang/String" "java/lang/String" "coder" "B"))⟩) (Or.inl ⟨rfl, hnm⟩) f2 (Or.inl rfl) hB11 (t := .byte) (by decide +kernel) rfl (g := (mkF m 48 #[.val (.ref a), .val (.ref b), .val (.int (Int32.ofNat o)), .val (.int (Int32.ofNat len)), .val .null, .val (.ref s.heap.size)] [.int 0, .ref a])) rfl (rest := []) rfl (hb hbytes d48)
  have c14 : Steps p.tables e below (s₁.setTop (entryFrame m #[.ref a, .ref b, .int (Int32.ofNat o), .int (Int32.ofNat len), .null] 6)) (T13.setTop (mkF m 54 #[.val (.ref a), .val (.ref b), .val (.int (Int32.ofNat o)), .val (.int (Int32.ofNat len)), .val .null, .val (.ref s.heap.size)] [.ref s.heap.size, .ref a])) := (c12.trans (st13 _ (Steps.refl _))).trans (by
    refine XS.aloadN X13.here hexec rfl (hb hbytes d51) rfl rfl ?_
    refine XS.aload X13.here hexec rfl (hb hbytes d52) rfl rfl ?_
    exact Steps.refl _)
  obtain ⟨T15, X15, p15, bl15, sl15, st15⟩ := X13.finit hexec hown (wk W (.fieldLink "java/lang/String" 9 "java/lang/String" "value" "[B")) (Or.inr ⟨_, (wk W (.laysFinal "java/lang/String" "java/lang/String" "value" "[B"))⟩) (Or.inl ⟨rfl, hnm⟩) f1 (Or.inl rfl) bl13 (t := (.array .byte)) (by decide +kernel) rfl (g := (mkF m 54 #[.val (.ref a), .val (.ref b), .val (.int (Int32.ofNat o)), .val (.int (Int32.ofNat len)), .val .null, .val (.ref s.heap.size)] [.ref s.heap.size, .ref a])) rfl (rest := []) rfl (hb hbytes d54)
  have c16 : Steps p.tables e below (s₁.setTop (entryFrame m #[.ref a, .ref b, .int (Int32.ofNat o), .int (Int32.ofNat len), .null] 6)) (T15.setTop (mkF m 57 #[.val (.ref a), .val (.ref b), .val (.int (Int32.ofNat o)), .val (.int (Int32.ofNat len)), .val .null, .val (.ref s.heap.size)] [])) := c14.trans (st15 _ (Steps.refl _))
  have ap := apart (Or.inr ⟨_, (wk W (.laysFinal "java/lang/String" "java/lang/String" "value" "[B"))⟩) (Or.inr ⟨_, (wk W (.laysFinal "java/lang/String" "java/lang/String" "coder" "B"))⟩) f1 f2 (t₁ := .array .byte) (t₂ := .byte) (by decide +kernel) (by decide +kernel) (by decide)
  have al := X8.warmed.alike.symm.trans X15.warmed.alike
  have n7 : T11.heap[s.heap.size]? = some N := by rw [q11]; exact n1.1
  exact ⟨T15, none, _, _, _, X15, by simp, rfl, by omega, (fun _ => rfl), ⟨rfl, _, N, bl15, ((Same.refl D _).set _ (by simp)).set _ (by simp), sl15, (Cell.slots_setSlot_ne _ ap).trans sl13, n1.keep al (p15.other hne (p13.other hne n7)), n2, by rw [al.findClass]; exact n3, n4, n5, fun y c h1 h2 => p15.other h1 (p13.other h1 (by rw [q11]; exact n6 y c h2)), by rw [p15.2.2, p13.2.2, q11]; exact z8⟩, fun fs hl => c16.trans (X15.returnOut hexec hret (hb hbytes d57) hl)⟩
end New4
namespace New1
def yN : MethodName := ⟨"java/lang/String", "<init>", "([C)V"⟩
abbrev yB : ByteArray := jdk_42_method_3_code
theorem d0 : decode yB 0 = .ok (.aload_n 0, 1) := by decide +kernel
theorem d1 : decode yB 1 = .ok (.aload_n 1, 1) := by decide +kernel
theorem d2 : decode yB 2 = .ok (.iconst 0, 1) := by decide +kernel
theorem d3 : decode yB 3 = .ok (.aload_n 1, 1) := by decide +kernel
theorem d4 : decode yB 4 = .ok (.arraylength, 1) := by decide +kernel
theorem d5 : decode yB 5 = .ok (.aconst_null, 1) := by decide +kernel
theorem d6 : decode yB 6 = .ok (.invokespecial 27, 3) := by decide +kernel
theorem d9 : decode yB 9 = .ok (.return_, 1) := by decide +kernel
def site : List Cond := [New4.tab] ++ initW "java/lang/String" 27 New4.yN
def tab : Cond := tabOf yN yB 2 none site
def P (a : Addr) (D : Cell) (fV fC : Field) (b : Addr) (A : Cell) (z : Int32) (args : Array Value) (s : State) : Prop := args = #[.ref a, .ref b] ∧ Blank "java/lang/String" a D s ∧ Found "java/lang/String" "value" "[B" fV s ∧ Found "java/lang/String" "coder" "B" fC s ∧ Ch b A s ∧ StaticIs s "java/lang/String" "COMPACT_STRINGS" "Z" (.int z) ∧ ¬ z = 0 ∧ 0 < A.slots.size ∧ A.slots.size ≤ 536870912 ∧ ∀ i, i < A.slots.size → ¬ 255 < cv A i
def E (a : Addr) (D : Cell) (fV fC : Field) (A : Cell) (r : Option Value) (s u : State) : Prop := Got a D fV fC A 0 A.slots.size r s u
/-- new String(chars), not empty, no char above 255: a Latin-1 String of their low bytes -/
theorem law (l : Launch) (a : Addr) (D : Cell) (fV fC : Field) (b : Addr) (A : Cell) (z : Int32) : Law l yN 2 1 3 52 yB 2 none site (P a D fV fC b A z) (E a D fV fC A) [⟨a, fC.slot⟩, ⟨a, fV.slot⟩] 1 A.slots.size := by
  refine Law.of_walk (plainFor_of_name (by decide +kernel)) (by decide +kernel) (by decide +kernel) (by decide) (fun _ _ h => by rw [h.1]; rfl) (fun _ U U' hal hh h => ⟨h.1, h.2.1.mv hal hh, h.2.2.1.al hal, h.2.2.2.1.al hal, h.2.2.2.2.1.mv hal hh, h.2.2.2.2.2.1.there hal hh, h.2.2.2.2.2.2⟩) (fun r U U' V V' h1 hal h2 h => Got.mv r U U' V V' h1 hal h2 h) ?_
  intro p e s m args below meth c s₁ X0 hexec hbytes hml hret hlk hnm hown hh0 W hP
  obtain ⟨rfl, hB, f1, f2, hA, s1, hz, l0, l2, hp⟩ := hP
  have c1 : Steps p.tables e below (s₁.setTop (entryFrame m #[.ref a, .ref b] 2)) (s₁.setTop (mkF m 0 #[.val (.ref a), .val (.ref b)] [])) := entry rfl
  have c2 : Steps p.tables e below (s₁.setTop (entryFrame m #[.ref a, .ref b] 2)) (s₁.setTop (mkF m 6 #[.val (.ref a), .val (.ref b)] [.null, .int (Int32.ofNat A.slots.size), .int 0, .ref b, .ref a])) := c1.trans (by
    refine XS.aloadN X0.here hexec rfl (hb hbytes d0) rfl rfl ?_
    refine XS.aloadN X0.here hexec rfl (hb hbytes d1) rfl rfl ?_
    refine iconstV X0.here hexec rfl 0 (hb hbytes d2) (by decide) ?_
    refine XS.aloadN X0.here hexec rfl (hb hbytes d3) rfl rfl ?_
    refine X0.alen hexec (hA.1.mv X0.warmed.alike hh0) rfl rfl (hb hbytes d4) ?_
    refine XS.aconstNull X0.here hexec rfl (hb hbytes d5) ?_
    exact Steps.refl _)
  obtain ⟨v3, T3, X3, E3, g3⟩ := X0.callN hexec (New4.law l a D fV fC b A z 0 A.slots.size) rfl hown (wks W (initW "java/lang/String" 27 New4.yN)) (W New4.tab (by simp only [site, List.mem_cons, List.mem_append, true_or, or_true])) (W := 0) (Nat.le_of_ble_eq_true rfl) (Nat.le_of_ble_eq_true rfl) (Nat.le_refl _) (by show 0 + A.slots.size ≤ A.slots.size; omega) (g := (mkF m 6 #[.val (.ref a), .val (.ref b)] [.null, .int (Int32.ofNat A.slots.size), .int (Int32.ofNat 0), .ref b, .ref a])) rfl (by rw [hml]; rfl) c2 (argsL := [.ref b, .int (Int32.ofNat 0), .int (Int32.ofNat A.slots.size), .null]) (rest := []) rfl rfl (by show 2 * 0 + 0 ≤ _; decide) (hb hbytes d6) (⟨rfl, hB.mv X0.warmed.alike hh0, f1.al X0.warmed.alike, f2.al X0.warmed.alike, hA.mv X0.warmed.alike hh0, s1.there X0.warmed.alike hh0, hz, l0, by omega, l2, fun i hi => by rw [Nat.zero_add]; exact hp i hi⟩)
  have e0 := Got.mv _ s₁ s _ _ hh0.symm (Vm.Alike.refl _) rfl E3
  obtain rfl := e0.1
  have c4 : Steps p.tables e below (s₁.setTop (entryFrame m #[.ref a, .ref b] 2)) (T3.setTop (mkF m 9 #[.val (.ref a), .val (.ref b)] [])) := g3
  exact ⟨T3, none, _, _, _, X3, by simp, rfl, by omega, (fun _ => rfl), e0, fun fs hl => c4.trans (X3.returnOut hexec hret (hb hbytes d9) hl)⟩
theorem pays {l : Launch} {R : Room} {p : Program} {e : Env} {below : List Frame} {s : State} {sargs : Array Value} {len W : Nat} (a : Addr) (D : Cell) (fV fC : Field) (b : Addr) (A : Cell) (z : Int32) (htab : tab.before sargs s = true) (hfr : 4 ≤ R.frames) (hlo : W + 65 ≤ R.locals) :
    Back l R p e below s sargs yN len W (fun A₁ a₁ => A₁.cells + 1 ≤ R.cells ∧ A₁.slots + A.slots.size ≤ R.slots ∧ P a D fV fC b A z a₁ A₁.U) (fun A₁ _ v₁ B₁ => E a D fV fC A v₁ A₁.U B₁.U ∧ B₁.locs = A₁.locs ++ [⟨a, fC.slot⟩, ⟨a, fV.slot⟩] ∧ B₁.cells = A₁.cells + 1 ∧ B₁.slots = A₁.slots + A.slots.size) :=
  (law l a D fV fC b A z).pays htab hfr (by omega)
end New1
end StrChars
namespace StrChars.Road
open Jvm Sem ClassFile Op Lib Jvm.Stand Jvm.Free Jvm.Free.XT
open Jvm.Lib.Cold (StaticIs)
abbrev ST : String := "java/lang/String"
/-- every table word that New1's law asks, flat -/
abbrev words : List Jvm.Cond := [.code New1.yN New1.yB 2 none, .initialized ST, .methodLink ST 27 New4.yN, .instanceMethod New4.yN,
  .code New4.yN New4.yB 6 none, .fieldLink ST 38 ST "COMPACT_STRINGS" "Z", .laysFinal ST ST "value" "[B", .fieldLink ST 9 ST "value" "[B", .laysFinal ST ST "coder" "B", .fieldLink ST 15 ST "coder" "B",
  .methodLink ST 1 Lib.objectInit, .instanceMethod Lib.objectInit, .code Lib.objectInit ⟨#[0xb1]⟩ 1 none, .methodLink ST 177 Cmp3.yN, .static Cmp3.yN, .methodLink ST 47 CodL.yN, .static CodL.yN,
  .code Cmp3.yN Cmp3.yB 6 (some (.array .byte)), .initialized U16, .arrayClass .byte, .methodLink U16 115 Cmp5.yN, .static Cmp5.yN, .code Cmp5.yN Cmp5.yB 7 (some .int), .code CodL.yN CodL.yB 2 (some .byte)]
theorem tab_of {a : Array Value} {s : State} (h : ∀ w ∈ words, w.before a s = true) : New1.tab.before a s = true := by
  have h5 : Cmp5.tab.before a s = true := unparts (wk h (.code Cmp5.yN Cmp5.yB 7 (some .int))) (wks h (.initialized Cmp5.yN.cls :: Cmp5.site))
  have hc : CodL.tab.before a s = true := unparts (wk h (.code CodL.yN CodL.yB 2 (some .byte))) (wks h (.initialized CodL.yN.cls :: CodL.site))
  have q5 : ∀ w ∈ Cmp5.tab :: words, w.before a s = true := fun w hw => (List.mem_cons.mp hw).elim (fun e => e ▸ h5) (h w)
  have h3 : Cmp3.tab.before a s = true := unparts (wk q5 (.code Cmp3.yN Cmp3.yB 6 (some (.array .byte)))) (wks q5 (.initialized Cmp3.yN.cls :: Cmp3.site))
  have q3 : ∀ w ∈ Cmp3.tab :: CodL.tab :: words, w.before a s = true := fun w hw => (List.mem_cons.mp hw).elim (fun e => e ▸ h3) fun hw => (List.mem_cons.mp hw).elim (fun e => e ▸ hc) (h w)
  have h4 : New4.tab.before a s = true := unparts (wk q3 (.code New4.yN New4.yB 6 none)) (wks q3 (.initialized New4.yN.cls :: New4.site))
  have q4 : ∀ w ∈ New4.tab :: words, w.before a s = true := fun w hw => (List.mem_cons.mp hw).elim (fun e => e ▸ h4) (h w)
  exact unparts (wk q4 (.code New1.yN New1.yB 2 none)) (wks q4 (.initialized New1.yN.cls :: New1.site))
/-- the words ride from the start Z to the walk's own state -/
theorem moved {Z s : State} {a0 args : Array Value} (hZ : Z.Warmed39 s.vm) (hw : ∀ d ∈ words, d.before a0 Z = true) : ∀ d ∈ words, d.before args s = true := fun d hd => by
  have q := hw d hd
  have t : ∀ d ∈ words, d = .arrayClass .byte ∨ (d.onTables && d.keepsFace) = true := by decide +kernel
  rcases t d hd with rfl | t
  · exact RoadKit.mvA hZ q
  · exact RoadKit.mv hZ q t
/-- WHAT COMES BACK, over the tables of the start Z: h the heap at the call, h' behind it -/
def Q (Z : State) (x : Addr) (A : Cell) (h : Heap) (v : Option Value) (h' : Heap) (L : List Loc) : Prop := v = none ∧ (∀ y ∈ L, y.base = x) ∧ RoadKit.Keep h h' [x] ∧ h'.size = h.size + 1 ∧ RoadKit.Exa Z h' x ST ∧ RoadKit.Fld Z h' x ST "value" "[B" (.ref h.size) ∧ RoadKit.Fld Z h' x ST "coder" "B" (.int 0) ∧
  (∃ V : Cell, RoadKit.Arr Z h' h.size V .byte ∧ V.vm = .none ∧ Z.vm.findClass "[B" = some V.cls ∧ V.slots.size = A.slots.size ∧ ∀ j, j < A.slots.size → V.slots[j]? = some (.int (lo8 (cv A j)))) ∧
  ∀ (O n d : String) (w : Value), RoadKit.Fld Z h x O n d w → RoadKit.slotOf Z O n d ≠ RoadKit.slotOf Z ST "value" "[B" → RoadKit.slotOf Z O n d ≠ RoadKit.slotOf Z ST "coder" "B" → RoadKit.Fld Z h' x O n d w
/-- **new String(chars) AT A CALL, IN THE ROAD'S FORM**: for specialBack behind newO: x the fresh String, b the char[] with the cell A -/
theorem back {p : Program} {l : Launch} {e : Env} {R : Room} {s : State} {args : Array Value} {below : List Frame} {len W : Nat} {Z : State} {a0 : Array Value} {h : Heap} (hZ : Z.Warmed39 s.vm) (hw : ∀ d ∈ words, d.before a0 Z = true) {kI : Nat} (wi : (Jvm.Cond.instantiable ST kI).before a0 Z = true)
    {x b : Addr} {A : Cell} {z : Int32} {v0 c0 : Value} (E : RoadKit.Exa Z h x ST) (V : RoadKit.Fld Z h x ST "value" "[B" v0) (C : RoadKit.Fld Z h x ST "coder" "B" c0) (K : RoadKit.Arr Z h b A .char) (hty : Typed .char A) (S : RoadKit.Sta Z h ST "COMPACT_STRINGS" "Z" (.int z)) (hz : ¬ z = 0)
    (l0 : 0 < A.slots.size) (l2 : A.slots.size ≤ 536870912) (hp : ∀ i, i < A.slots.size → ¬ 255 < cv A i) (hfr : 4 ≤ R.frames) (hlo : W + 65 ≤ R.locals) :
    Back l R p e below s args New1.yN len W (fun P a => a = #[.ref x, .ref b] ∧ P.U.heap = h ∧ P.cells + 1 ≤ R.cells ∧ P.slots + A.slots.size ≤ R.slots)
      (fun P _ v B => ∃ L, Q Z x A h v B.U.heap L ∧ B.locs = P.locs ++ L ∧ B.cells = P.cells + 1 ∧ B.slots = P.slots + A.slots.size) := by
  intro m meth c P g ig mk a X hg hsize hdg hW hn hp'
  obtain ⟨rfl, rfl, r1, r2⟩ := hp'
  have al : Z.vm.Alike P.U.vm := hZ.alike.trans X.warmed.alike
  obtain ⟨D, cfV, kV, iV, fV, hD, gV, stV, knV, obV, asV, slV⟩ := id V
  obtain ⟨D', cfC, kC, iC, fC, hD', gC, stC, -, -, asC, slC⟩ := id C
  cases hD.symm.trans hD'
  obtain ⟨D2, kD, e1, e2, e3, e4, e5⟩ := id E
  cases hD.symm.trans e1
  obtain ⟨c2, k2, i1, i2, i3, -⟩ := Cond.instantiable_spec wi
  cases e2.symm.trans i1
  cases e3.symm.trans i2
  obtain ⟨kU, u1, u2⟩ := al.2.2 _ _ e3
  have hB : Blank ST x D P.U := ⟨hD, ⟨knV, fun q hq => by rw [hq] at obV; cases obV⟩, by rw [al.findClass]; exact e2, kU, u1, by rw [u2]; exact i3, by rw [u2]; exact e5 i3⟩
  have F1 : Found ST "value" "[B" fV P.U := ⟨SBG.found_only al ⟨cfV, kV, iV, gV⟩, stV⟩
  have F2 : Found ST "coder" "B" fC P.U := ⟨SBG.found_only al ⟨cfC, kC, iC, gC⟩, stC⟩
  have hA : Ch b A P.U := ⟨⟨K.1, State.isArrayOf_alike al K.2.1, K.2.2, by omega⟩, hty⟩
  have hS : StaticIs P.U ST "COMPACT_STRINGS" "Z" (.int z) := by
    obtain ⟨cfS, iS, kS, fS, st, cS, t1, t2, t3, t4, t5, t6, t7⟩ := S
    exact StaticIs.there (s := { Z with heap := P.U.heap }) ⟨cfS, iS, kS, fS, st, cS, t1, t2, t3, t4, t5, (fun q => by rw [q] at t6; cases t6), t7⟩ al rfl
  obtain ⟨v, B, X', ⟨⟨hv, E', V', q1, q2, q3, q4, q5, q6, q7, q8, q9, q10, q11⟩, hl, hc, hs⟩, st⟩ := New1.pays x D fV fC b A z (tab_of (moved hZ hw)) hfr hlo m meth c P g ig mk _ X hg hsize hdg hW hn ⟨r1, r2, rfl, hB, F1, F2, hA, hS, hz, l0, l2, hp⟩
  have al' : Z.vm.Alike B.U.vm := hZ.alike.trans X'.warmed.alike
  have hsz : E'.slots.size = D.slots.size := by
    obtain ⟨-, -, -, kB, w1, w2, w3⟩ := q1
    obtain ⟨kB', y1, y2⟩ := al'.2.2 _ _ e3
    rw [q2.2.1] at w1
    cases w1.symm.trans y1
    rw [w3, e5 i3, y2]
  refine ⟨v, B, X', ⟨_, ⟨hv, ?_, ⟨by omega, fun y cy hy hn' => q10 y cy (by simpa using hn') hy, fun y cy hy => ?_⟩, q11, ⟨E', _, q1.1, by rw [q2.2.1]; exact e2, by rw [q2.2.1]; exact e3, by rw [q2.1]; exact obV, fun _ => by rw [hsz]; exact e5 i3⟩,
    ⟨E', cfV, kV, iV, fV, q1.1, gV, stV, by rw [q2.1]; exact knV, by rw [q2.1]; exact obV, by rw [q2.2.1]; exact asV, q3⟩, ⟨E', cfC, kC, iC, fC, q1.1, gC, stC, by rw [q2.1]; exact knV, by rw [q2.1]; exact obV, by rw [q2.2.1]; exact asC, q4⟩,
    ⟨V', ⟨q5.1, State.isArrayOf_alike al'.symm q5.2.1, q5.2.2.1⟩, q6, by rw [← al'.findClass]; exact q7, q8, fun j hj => by have := q9 j hj; rwa [Nat.zero_add] at this⟩, fun O n d w F n1 n2 => ?_⟩, hl, hc, hs⟩, st⟩
  · intro y hy
    simp only [List.mem_cons, List.not_mem_nil, or_false] at hy
    rcases hy with rfl | rfl <;> rfl
  · by_cases q : y = x
    · subst q
      cases hD.symm.trans hy
      exact ⟨E', q1.1, q2.2.1, q2.1, hsz⟩
    · exact ⟨cy, q10 y cy q hy, rfl, rfl, rfl⟩
  · obtain ⟨D3, cf, k, i, f, g1, g2, g3, g4, g5, g6, g7⟩ := F
    cases hD.symm.trans g1
    simp only [RoadKit.slotOf, g2, gV, gC, Option.map_some, Option.getD_some] at n1 n2
    exact ⟨E', cf, k, i, f, q1.1, g2, g3, by rw [q2.1]; exact g4, by rw [q2.1]; exact g5, by rw [q2.2.1]; exact g6, by rw [q2.2.2 f.slot (by simp [n1, n2])]; exact g7⟩
end StrChars.Road
namespace StrChars.Road
open Jvm Sem ClassFile Op Lib Jvm.Stand Jvm.Free Jvm.Free.XT
/-- WHAT COMES BACK, the byte[] as a list of values -/
def QA (Z : State) (x : Addr) (zn : Int32) (cs : List Int32) (h : Heap) (v : Option Value) (h' : Heap) (L : List Loc) : Prop := v = none ∧ (∀ y ∈ L, y.base = x) ∧ RoadKit.Keep h h' [x] ∧ h'.size = h.size + 1 ∧ RoadKit.Exa Z h' x ST ∧ RoadKit.Fld Z h' x ST "value" "[B" (.ref h.size) ∧ RoadKit.Fld Z h' x ST "coder" "B" (.int 0) ∧
  (∃ kb, Z.vm.findClass "[B" = some kb ∧ RoadKit.Arv Z h' h.size kb .byte zn (cs.map fun c => .int (lo8 c)) (.int 0)) ∧
  ∀ (O n d : String) (w : Value), RoadKit.Fld Z h x O n d w → RoadKit.slotOf Z O n d ≠ RoadKit.slotOf Z ST "value" "[B" → RoadKit.slotOf Z O n d ≠ RoadKit.slotOf Z ST "coder" "B" → RoadKit.Fld Z h' x O n d w
/-- **new String(chars) AT A CALL, THE ARRAYS AS LISTS**: the char[] at b holds cs, not empty, no char above 255 -/
theorem backArv {p : Program} {l : Launch} {e : Env} {R : Room} {s : State} {args : Array Value} {below : List Frame} {len W : Nat} {Z : State} {a0 : Array Value} {h : Heap} (hZ : Z.Warmed39 s.vm) (hw : ∀ d ∈ words, d.before a0 Z = true) {kI : Nat} (wi : (Jvm.Cond.instantiable ST kI).before a0 Z = true)
    {x b : Addr} {k : ClassId} {zn z : Int32} {cs : List Int32} {dv v0 c0 : Value} (E : RoadKit.Exa Z h x ST) (V : RoadKit.Fld Z h x ST "value" "[B" v0) (C : RoadKit.Fld Z h x ST "coder" "B" c0) (K : RoadKit.Arv Z h b k .char zn (cs.map Value.int) dv) (S : RoadKit.Sta Z h ST "COMPACT_STRINGS" "Z" (.int z)) (hz : ¬ z = 0)
    (hlen : zn.toNatClampNeg = cs.length) (h0 : 0 < cs.length) (hbig : cs.length ≤ 536870912) (hall : ∀ c ∈ cs, ¬ 255 < c) (hfr : 4 ≤ R.frames) (hlo : W + 65 ≤ R.locals) :
    Back l R p e below s args New1.yN len W (fun P a => a = #[.ref x, .ref b] ∧ P.U.heap = h ∧ P.cells + 1 ≤ R.cells ∧ P.slots + cs.length ≤ R.slots)
      (fun P _ v B => ∃ L, QA Z x zn cs h v B.U.heap L ∧ B.locs = P.locs ++ L ∧ B.cells = P.cells + 1 ∧ B.slots = P.slots + cs.length) := by
  obtain ⟨A, K1, K2, K3, K4, K5, K6⟩ := K
  have e : A.slots.size = cs.length := K3.trans hlen
  have hat : ∀ (i : Nat) (hi : i < cs.length), A.slots[i]? = some (.int cs[i]) := fun i hi => by rw [K5 i (by omega)]; simp [List.getD_eq_getElem?_getD, hi]
  have hcv : ∀ (i : Nat) (hi : i < cs.length), cv A i = cs[i] := fun i hi => by unfold cv; rw [hat i hi]
  have hty : Typed .char A := fun i v hv => by
    have hi : i < A.slots.size := (Array.getElem?_eq_some_iff.mp hv).1
    have q := K5 i hi
    rw [hv] at q
    rw [Option.some.inj q]
    exact K6 i hi
  refine Back.mono (back hZ hw wi E V C K1 hty S hz (by omega) (by omega) (fun i hi => by rw [hcv i (by omega)]; exact hall _ (List.getElem_mem _)) hfr hlo) (fun P a hp => ⟨hp.1, hp.2.1, hp.2.2.1, by rw [e]; exact hp.2.2.2⟩) (fun P a v B hp hq => ?_)
  obtain ⟨L, ⟨q1, q2, q3, q4, q5, q6, q7, ⟨V', v1, v2, v3, v4, v5⟩, q9⟩, hl, hc, hs⟩ := hq
  refine ⟨L, ⟨q1, q2, q3, q4, q5, q6, q7, ⟨V'.cls, v3, V', v1, rfl, by rw [v4, e, hlen], K4, fun i hi => ?_, fun i hi => ?_⟩, q9⟩, hl, hc, by rw [hs, e]⟩
  · have hi' : i < cs.length := by omega
    rw [v5 i (by omega), hcv i hi']; simp [List.getD_eq_getElem?_getD, hi']
  · have hi' : i < cs.length := by omega
    simp only [List.getD_eq_getElem?_getD, List.getElem?_map, List.getElem?_eq_getElem hi', Option.map_some, Option.getD_some]
    exact fits_lo8 _
end StrChars.Road
namespace StrChars.Road
open Jvm Sem ClassFile Op Lib Jvm.Stand Jvm.Free Jvm.Free.XT
/-- WHAT COMES BACK, in the writer's own shape -/
def QV (Z : State) (x : Addr) (N : Int32) (bs : List Int32) (h : Heap) (n0 : Nat) (v : Option Value) (h' : Heap) (L : List Loc) : Prop := v = none ∧ RoadKit.Fr n0 L ∧ RoadKit.Keep h h' [x] ∧ RoadKit.Exa Z h' x ST ∧ RoadKit.Fld Z h' x ST "coder" "B" (.int 0) ∧
  ∃ (t : Addr) (kb : ClassId), n0 ≤ t ∧ h.size ≤ t ∧ ¬ t = x ∧ RoadKit.Fld Z h' x ST "value" "[B" (.ref t) ∧ RoadKit.Arv Z h' t kb .byte N (bs.map Value.int) (.int 0)
/-- **new String(chars) AT A CALL, FOR THE WRITER**: a char[] of n known ints, each 0 to 255 -/
theorem backV {p : Program} {l : Launch} {e : Env} {R : Room} {s : State} {args : Array Value} {below : List Frame} {len W : Nat} {Z : State} {a0 : Array Value} {h : Heap} (hZ : Z.Warmed39 s.vm) (hw : ∀ d ∈ words, d.before a0 Z = true) {kI : Nat} (wi : (Jvm.Cond.instantiable ST kI).before a0 Z = true)
    {x b : Addr} {kC : ClassId} {cs bs : List Int32} {d v0 c0 : Value} {z N : Int32} {n n0 : Nat} (hx0 : n0 ≤ x) (hh0 : n0 ≤ h.size) (E : RoadKit.Exa Z h x ST) (V : RoadKit.Fld Z h x ST "value" "[B" v0) (C : RoadKit.Fld Z h x ST "coder" "B" c0) (K : RoadKit.Arv Z h b kC .char N (cs.map Value.int) d) (S : RoadKit.Sta Z h ST "COMPACT_STRINGS" "Z" (.int z)) (hz : ¬ z = 0)
    (hn : cs.length = n) (hN : N = Int32.ofNat n) (l0 : 0 < n) (l2 : n ≤ 4000) (hp : ∀ c ∈ cs, ¬ c < 0 ∧ ¬ (255 : Int32) < c) (hb : bs = cs.map (fun c => c.toInt8.toInt32)) (hfr : 4 ≤ R.frames) (hlo : W + 65 ≤ R.locals) :
    Back l R p e below s args (⟨"java/lang/String", "<init>", "([C)V"⟩ : MethodName) len W (fun P a => a = #[.ref x, .ref b] ∧ P.U.heap = h ∧ P.cells + 1 ≤ R.cells ∧ P.slots + n ≤ R.slots)
      (fun P _ v B => ∃ L, QV Z x N bs h n0 v B.U.heap L ∧ B.locs = P.locs ++ L ∧ B.cells = P.cells + 1 ∧ B.slots = P.slots + n) := by
  subst hn hN hb
  refine Back.mono (backArv hZ hw wi E V C K S hz (n32 (by omega)) l0 (by omega) (fun c hc => (hp c hc).2) hfr hlo) (fun P a hp => hp) (fun P a v B hp hq => ?_)
  obtain ⟨L, ⟨q1, q2, q3, q4, q5, q6, q7, ⟨kb, v1, v2⟩, q9⟩, hl, hc, hs⟩ := hq
  exact ⟨L, ⟨q1, fun y hy => by rw [q2 y hy]; exact hx0, q3, q5, q7, h.size, kb, hh0, Nat.le_refl _, Nat.ne_of_gt E.lt, q6, by rw [List.map_map]; exact v2⟩, hl, hc, hs⟩
end StrChars.Road
end Jvm.Pilot.@@N@@
namespace Jvm.RoadKit
open Sem ClassFile Op Lib Jvm.Stand Jvm.Free Jvm.LawKit
section New
variable {p : Program} {l : Launch} {e : Env} {R : Room} {s : State} {m : MethodId} {args : Array Value} {below : List Frame} {meth : Method} {c : Code} {T : State} {locs : List Loc} {cells slots : Nat}
theorem retI (X : Stand p l e R s m args below meth c T locs cells slots) (hx : p.tables.exec = Jvm.exec) {pc : Nat} {Ls : Array Slot} {z : Int32} {rest : List Value} (hret : meth.sig.returnType = some .int) (hd : decode c.code pc = .ok (.ireturn, 1)) {fs : List Frame}
    (hl : ∀ (f : JFrame) (acts : List Action), f.method = m → f.locked = none → f.entered = [] → (doReturn e (T.setTop f) acts (some (.int z))).1 = T.setFrames fs) : Steps p.tables e below (T.setTop (mkF m pc Ls (.int z :: rest))) (T.setFrames fs) := by
  have hm' : T.vm.method? m = some meth := X.method'
  have hn : narrow .int (.int z) = .int z := rfl
  show Steps p.tables e below (T.setTop { method := m, pc := pc, locals := Ls, stack := _ :: rest, locked := none }) _
  jvm_step X.here [X.here.top, hx, hd, hm', hret, hn]
  first | (intro acts; rw [hl _ acts rfl rfl rfl]) | rw [hl _ _ rfl rfl rfl]
  exact Steps.refl _
end New
end Jvm.RoadKit
namespace Jvm.Pilot.@@N@@
open Jvm Jvm.ClassFile Sem Op Lib Jvm.Free Jvm.Stand Jvm.LawKit Jvm.RoadKit Bundle Jvm.Pilot.@@N@@.Jvm.D
/-- the rest of a run, in passing style: some state is come to at which F holds -/
def Go (p : Program) (e : Env) (below : List Frame) (F : State → Outcome → Prop) (t : State) : Prop := ∃ u o, Steps p.tables e below t u ∧ F u o
theorem Go.back {p : Program} {e : Env} {below : List Frame} {F : State → Outcome → Prop} {t t' : State} (k : ∀ u, Steps p.tables e below t' u → Steps p.tables e below t u) (h : Go p e below F t') : Go p e below F t := by
  obtain ⟨u, o, h1, h2⟩ := h
  exact ⟨u, o, k u h1, h2⟩
def own_F (s : State) (below : List Frame) (Q : Option Value → Heap → List Loc → Prop) (cells slots : Nat) (u : State) (o : Outcome) : Prop := u.status = .running ∧ Ended u below o ∧ ∃ v L, o = .returned v ∧ Q v u.heap L ∧ FrameEnd s o u L cells slots
def own_FW (s : State) (below : List Frame) (Q : Option Value → Heap → List Loc → Prop) (cells slots : Nat) (u : State) (o : Outcome) : Prop := u.status = .running ∧ Ended u below o ∧ ∃ v L, o = .returned v ∧ Q v u.heap L ∧ ReturnedEndW s o u L cells slots
theorem own_field {args : Array Value} {s : State} {t : Term} {C n d : String} {x : Addr} {v : Value} (h : t.eval args s none [] s = some (.ref x)) (h2 : (Term.field t C n d).eval args s none [] s = some v) : s.fieldOf? x C n d = some v := by
  simpa [Term.eval, h] using h2
theorem own_bit {x : Int32} (h : x = 0 ∨ x = 1) : narrow .boolean (.int x) = .int x ∧ fits .boolean (.int x) = true := by
  rcases h with rfl | rfl <;> decide
/-- the String constant that is read: "", of java.lang.String's own pool -/
abbrev own_EL : List (String × Nat) := [("java/lang/String", 7)]
theorem own_hEL {Z : State} {a0 : Array Value} (hw : ∀ d ∈ tables_1, d.before a0 Z = true) : EW Z a0 own_EL := EW.cons (hw _ (List.mem_of_getElem? (i := 89) rfl)) (by decide) EW.nil
def own_FH (Z s : State) (below : List Frame) (Q : Option Value → Heap → List Loc → Prop) (cells slots : Nat) (u : State) (o : Outcome) : Prop := u.status = .running ∧ Ended u below o ∧ ∃ v L, o = .returned v ∧ Q v u.heap L ∧ CHr Z own_EL s.vm s.heap u.vm u.heap ∧ ReturnedEndW s o u L cells slots
/-- a String under construction (no bytes yet) is none of the booked ones -/
theorem own_safe_null {Z : State} {EL : List (String × Nat)} {vm : Vm} {h : Heap} {x : Addr} (hal : Z.vm.Alike vm) (E : Exa Z h x "java/lang/String") (F : Fld Z h x "java/lang/String" "value" "[B" .null) : Safe Z EL vm h x := by
  rintro ⟨p, hp, u, a, hb, q, hq, G, hy⟩
  obtain ⟨cS, ⟨⟨s1, s2, s3, ⟨cv, kv, iv, s4, s4'⟩, -, s6, -, s8, -, s10, -⟩, -⟩, -, hB, -⟩ := G
  rcases hy with rfl | rfl
  · obtain ⟨kv', z4⟩ := ff_back (U := Wst Z vm h) hal s4
    have F2 : Fld Z h q.sa "java/lang/String" "value" "[B" (.ref q.sd) := ⟨q.sC, cv, kv', iv, q.fSV, s1, z4, s6, s2, s3, by rw [← hal.assignable]; exact s4', s8⟩
    exact Fld.ne F F2 (fun q => nomatch q) rfl
  · obtain ⟨c1, k1, e1, e2, -⟩ := E
    cases e1.symm.trans s10
    exact ids_ne e2 (by rw [← hal.findClass]; exact hB) (by decide) rfl
/-- 'ldc' of a class whose mirror is made -/
theorem own_ldcM {p : Program} {l : Launch} {e : Env} {R : Room} {s Z : State} {m : MethodId} {args : Array Value} {below : List Frame} {meth : Method} {c : Code} {T : State} {locs : List Loc} {cells slots : Nat} {h : Heap}
    (X : Stand p l e R s m args below meth c T locs cells slots) (hx : p.tables.exec = Jvm.exec) (hZ : Z.Warmed39 s.vm) {a0 : Array Value} {own C : String} {index : Nat} (hown : s.vm.findClass own = some m.cls) (w : (Jvm.Cond.classLink own index C).before a0 Z = true) {mr : Addr} (M : Mir Z C mr) (eT : T.heap = h)
    {g : JFrame} (hg : g.method = m) (hd : decode c.code g.pc = .ok (.ldc index, 2)) : ∃ T', Stand p l e R s m args below meth c T' locs cells slots ∧ T'.heap = h ∧ ∀ target, Steps p.tables e below (T'.setTop { g with pc := g.pc + 2, stack := .ref mr :: g.stack }) target → Steps p.tables e below (T.setTop g) target := by
  obtain ⟨cc, kc, m1, m2, m3, -⟩ := M
  obtain ⟨k', q, ek⟩ := hZ.alike.2.2 _ _ m2
  have hf : s.vm.findClass C = some cc := by rw [hZ.alike.findClass]; exact m1
  have hm : k'.mirror = some mr := by rw [ek]; exact m3
  obtain ⟨vm', X', st⟩ := X.ldcMirror hx hown (mvT hZ w) (a := mr) (by simp [Term.eval, hf, q, hm]) hg hd
  exact ⟨_, X', eT, st⟩
/-- 'invokevirtual Object.getClass()' -/
theorem own_gcls {p : Program} {l : Launch} {e : Env} {R : Room} {s Z : State} {m : MethodId} {args : Array Value} {below : List Frame} {meth : Method} {c : Code} {T : State} {locs : List Loc} {cells slots : Nat} {h : Heap} {a : Addr}
    (X : Stand p l e R s m args below meth c T locs cells slots) (hx : p.tables.exec = Jvm.exec) (hZ : Z.Warmed39 s.vm) {a0 : Array Value} {own C : String} {index : Nat} (hown : s.vm.findClass own = some m.cls)
    (w1 : (Jvm.Cond.methodLink own index ⟨"java/lang/Object", "getClass", "()Ljava/lang/Class;"⟩).before a0 Z = true) (w2 : (Jvm.Cond.declares ⟨"java/lang/Object", "getClass", "()Ljava/lang/Class;"⟩).before a0 Z = true) (w4 : (Jvm.Cond.selects C ⟨"java/lang/Object", "getClass", "()Ljava/lang/Class;"⟩ ⟨"java/lang/Object", "getClass", "()Ljava/lang/Class;"⟩).before a0 Z = true)
    (w5 : (Jvm.Cond.instanceMethod ⟨"java/lang/Object", "getClass", "()Ljava/lang/Class;"⟩).before a0 Z = true) (w6 : (Jvm.Cond.native ⟨"java/lang/Object", "getClass", "()Ljava/lang/Class;"⟩).before a0 Z = true) (eT : T.heap = h) (E : Exa Z h a C) {mr : Addr} (M : Mir Z C mr)
    {g : JFrame} (hg : g.method = m) (hsize : g.locals.size = c.maxLocals) {rest : List Value} (hs : g.stack = .ref a :: rest) (hd : decode c.code g.pc = .ok (.invokevirtual index, 3)) (hf : 1 ≤ R.frames) {W : Nat} (hW : 2 * g.monitorRoom + (rest.map fun v => v.category).sum ≤ W) (hl : W + (nativeFrameWords "java/lang/Object" "getClass" 1 + 11) ≤ R.locals) :
    ∃ T', Stand p l e R s m args below meth c T' locs cells slots ∧ T'.heap = h ∧ ∀ target, Steps p.tables e below (T'.setTop { g with pc := g.pc + 3, stack := .ref mr :: rest }) target → Steps p.tables e below (T.setTop g) target := by
  obtain ⟨cB, kB, i1, i2, i3⟩ := isOf hZ eT E
  obtain ⟨cc, kc, m1, m2, m3, -⟩ := M
  rw [hZ.alike.findClass] at i1
  cases i1.symm.trans m1
  obtain ⟨k', q, ek⟩ := hZ.alike.2.2 _ _ m2
  obtain ⟨vm', X', st⟩ := X.getClassOf hx hown (mvT hZ w1) (mvT hZ w2) (notFace_of_selects (args := #[]) (mvT hZ w4)) (mvT hZ w4) (mvT hZ w5) (mvT hZ w6) (by rw [hZ.alike.findClass]; exact m1) i3 q (by rw [ek]; exact m3) hg hsize hs hd hf (by omega)
  exact ⟨_, X', eT, st⟩
/-- 'invokeinterface xi.getClass()' -/
theorem own_gclsI {p : Program} {l : Launch} {e : Env} {R : Room} {s Z : State} {m : MethodId} {args : Array Value} {below : List Frame} {meth : Method} {c : Code} {T : State} {locs : List Loc} {cells slots : Nat} {h : Heap} {a : Addr}
    (X : Stand p l e R s m args below meth c T locs cells slots) (hx : p.tables.exec = Jvm.exec) (hZ : Z.Warmed39 s.vm) {a0 : Array Value} {own C : String} {index count : Nat} {K : String} (hown : s.vm.findClass own = some m.cls)
    (w1 : (Jvm.Cond.methodLink own index ⟨K, "getClass", "()Ljava/lang/Class;"⟩).before a0 Z = true) (w2 : (Jvm.Cond.declares ⟨"java/lang/Object", "getClass", "()Ljava/lang/Class;"⟩).before a0 Z = true) (w3 : (Jvm.Cond.interfaceMethod K "java/lang/Object" "getClass" "()Ljava/lang/Class;").before args s = true) (w4 : (Jvm.Cond.selects C ⟨K, "getClass", "()Ljava/lang/Class;"⟩ ⟨"java/lang/Object", "getClass", "()Ljava/lang/Class;"⟩).before a0 Z = true)
    (w5 : (Jvm.Cond.instanceMethod ⟨"java/lang/Object", "getClass", "()Ljava/lang/Class;"⟩).before a0 Z = true) (w7 : (Jvm.Cond.publicMethod ⟨"java/lang/Object", "getClass", "()Ljava/lang/Class;"⟩).before a0 Z = true) (w8 : (Jvm.Cond.unhidden C "getClass" "()Ljava/lang/Class;").before a0 Z = true) (w9 : (Jvm.Cond.castable C K).before a0 Z = true) (w6 : (Jvm.Cond.native ⟨"java/lang/Object", "getClass", "()Ljava/lang/Class;"⟩).before a0 Z = true)
    (hk : K ≠ "java/lang/invoke/MethodHandle" ∧ K ≠ "java/lang/invoke/VarHandle") (hk2 : K ≠ "java/lang/Object") (eT : T.heap = h) (E : Exa Z h a C) {mr : Addr} (M : Mir Z C mr)
    {g : JFrame} (hg : g.method = m) (hsize : g.locals.size = c.maxLocals) {rest : List Value} (hs : g.stack = .ref a :: rest) (hd : decode c.code g.pc = .ok (.invokeinterface index count, 5)) (hf : 1 ≤ R.frames) {W : Nat} (hW : 2 * g.monitorRoom + (rest.map fun v => v.category).sum ≤ W) (hl : W + (nativeFrameWords "java/lang/Object" "getClass" 1 + 11) ≤ R.locals) :
    ∃ T', Stand p l e R s m args below meth c T' locs cells slots ∧ T'.heap = h ∧ ∀ target, Steps p.tables e below (T'.setTop { g with pc := g.pc + 5, stack := .ref mr :: rest }) target → Steps p.tables e below (T.setTop g) target := by
  obtain ⟨cB, kB, i1, i2, i3⟩ := isOf hZ eT E
  obtain ⟨cc, kc, m1, m2, m3, -⟩ := M
  rw [hZ.alike.findClass] at i1
  cases i1.symm.trans m1
  obtain ⟨k', q, ek⟩ := hZ.alike.2.2 _ _ m2
  obtain ⟨vm', X', st⟩ := X.getClassOfI hx (xi := ⟨K, "getClass", "()Ljava/lang/Class;"⟩) hown (mvT hZ w1) (mvT hZ w2) w3 (mvT hZ w4) (mvT hZ w5) (mvT hZ w7) (mvT hZ w8) (mvT hZ w9) (mvT hZ w6) hk hk2 rfl rfl (by rw [hZ.alike.findClass]; exact m1) q i3 (by rw [ek]; exact m3) hg hsize hs hd hf (by omega)
  exact ⟨_, X', eT, st⟩
theorem own_mir {s : State} {C : String} (h : Jvm.D.MirrorMade s C) : ∃ m, Mir s C m := by
  obtain ⟨c, k, m, h1, h2, h3, h4⟩ := h
  exact ⟨m, c, k, h1, h2, h3, h4⟩
/-- an array of length 0, as a set tells it -/
theorem own_empty {args : Array Value} {s : State} {a : Addr} {t : Term} {ty : FieldType} {d : Value} (ev : t.eval args s none [] s = some (.ref a)) (ha : (Jvm.Cond.arrayOf t ty).before args s = true) (hl : (Jvm.Cond.eq (.length t) (.int 0)).before args s = true) : ∃ k, Arv s s.heap a k ty (0 : Int32) [] d := by
  obtain ⟨cl, A⟩ := Arr.start ev (Cond.before_iff.mp ha)
  obtain ⟨hsz, hsize⟩ := IntBox.length_fwd hl ev A.1 A.2.1 A.2.2
  have h0 : cl.slots.size = 0 := by
    have e : (cl.slots.size.toInt32).toInt = cl.slots.size := Int32.toInt_ofNat_of_lt hsz
    rw [hsize] at e
    have : ((0 : Int32)).toInt = 0 := by decide
    omega
  exact ⟨cl.cls, cl, A, rfl, by rw [h0]; decide, by decide, fun i hi => absurd hi (by omega), fun i hi => absurd hi (by omega)⟩
theorem own_pn0 : plainName "java/lang/String" = true := by first | (simp [plainName, overriddenIn]; done) | decide +kernel
theorem own_d14_0 : decode jdk_42_method_149_code 0 = .ok (.aload_n 0, 1) := by decide +kernel
theorem own_d14_1 : decode jdk_42_method_149_code 1 = .ok (.invokespecial 1, 3) := by decide +kernel
theorem own_d14_4 : decode jdk_42_method_149_code 4 = .ok (.iload_n 3, 1) := by decide +kernel
theorem own_d14_5 : decode jdk_42_method_149_code 5 = .ok (.ifCond .ne 22, 3) := by decide +kernel
theorem own_d14_8 : decode jdk_42_method_149_code 8 = .ok (.aload_n 0, 1) := by decide +kernel
theorem own_d14_9 : decode jdk_42_method_149_code 9 = .ok (.ldc 7, 2) := by decide +kernel
theorem own_d14_11 : decode jdk_42_method_149_code 11 = .ok (.getfield 9, 3) := by decide +kernel
theorem own_d14_14 : decode jdk_42_method_149_code 14 = .ok (.putfield 9, 3) := by decide +kernel
theorem own_d14_17 : decode jdk_42_method_149_code 17 = .ok (.aload_n 0, 1) := by decide +kernel
theorem own_d14_18 : decode jdk_42_method_149_code 18 = .ok (.ldc 7, 2) := by decide +kernel
theorem own_d14_20 : decode jdk_42_method_149_code 20 = .ok (.getfield 15, 3) := by decide +kernel
theorem own_d14_23 : decode jdk_42_method_149_code 23 = .ok (.putfield 15, 3) := by decide +kernel
theorem own_d14_26 : decode jdk_42_method_149_code 26 = .ok (.return_, 1) := by decide +kernel
theorem own_d14_27 : decode jdk_42_method_149_code 27 = .ok (.getstatic 38, 3) := by decide +kernel
theorem own_d14_30 : decode jdk_42_method_149_code 30 = .ok (.ifCond .eq 28, 3) := by decide +kernel
theorem own_d14_33 : decode jdk_42_method_149_code 33 = .ok (.aload_n 1, 1) := by decide +kernel
theorem own_d14_34 : decode jdk_42_method_149_code 34 = .ok (.iload_n 2, 1) := by decide +kernel
theorem own_d14_35 : decode jdk_42_method_149_code 35 = .ok (.iload_n 3, 1) := by decide +kernel
theorem own_d14_36 : decode jdk_42_method_149_code 36 = .ok (.invokestatic 177, 3) := by decide +kernel
theorem own_d14_39 : decode jdk_42_method_149_code 39 = .ok (.astore 5, 2) := by decide +kernel
theorem own_d14_41 : decode jdk_42_method_149_code 41 = .ok (.aload_n 0, 1) := by decide +kernel
theorem own_d14_42 : decode jdk_42_method_149_code 42 = .ok (.aload 5, 2) := by decide +kernel
theorem own_d14_44 : decode jdk_42_method_149_code 44 = .ok (.iload_n 3, 1) := by decide +kernel
theorem own_d14_45 : decode jdk_42_method_149_code 45 = .ok (.invokestatic 47, 3) := by decide +kernel
theorem own_d14_48 : decode jdk_42_method_149_code 48 = .ok (.putfield 15, 3) := by decide +kernel
theorem own_d14_51 : decode jdk_42_method_149_code 51 = .ok (.aload_n 0, 1) := by decide +kernel
theorem own_d14_52 : decode jdk_42_method_149_code 52 = .ok (.aload 5, 2) := by decide +kernel
theorem own_d14_54 : decode jdk_42_method_149_code 54 = .ok (.putfield 9, 3) := by decide +kernel
theorem own_d14_57 : decode jdk_42_method_149_code 57 = .ok (.return_, 1) := by decide +kernel
theorem own_d14_58 : decode jdk_42_method_149_code 58 = .ok (.aload_n 0, 1) := by decide +kernel
theorem own_d14_59 : decode jdk_42_method_149_code 59 = .ok (.iconst 1, 1) := by decide +kernel
theorem own_d14_60 : decode jdk_42_method_149_code 60 = .ok (.putfield 15, 3) := by decide +kernel
theorem own_d14_63 : decode jdk_42_method_149_code 63 = .ok (.aload_n 0, 1) := by decide +kernel
theorem own_d14_64 : decode jdk_42_method_149_code 64 = .ok (.aload_n 1, 1) := by decide +kernel
theorem own_d14_65 : decode jdk_42_method_149_code 65 = .ok (.iload_n 2, 1) := by decide +kernel
theorem own_d14_66 : decode jdk_42_method_149_code 66 = .ok (.iload_n 3, 1) := by decide +kernel
theorem own_d14_67 : decode jdk_42_method_149_code 67 = .ok (.invokestatic 180, 3) := by decide +kernel
theorem own_d14_70 : decode jdk_42_method_149_code 70 = .ok (.putfield 9, 3) := by decide +kernel
theorem own_d14_73 : decode jdk_42_method_149_code 73 = .ok (.return_, 1) := by decide +kernel
theorem own_ef_own_s2 (m : MethodId) (x0 : Addr) (x1 : Addr) : entryFrame m #[(.ref x0), (.ref x1), (.int (0 : Int32)), (.int (0 : Int32)), .null] 6 = mkF m 0 #[.val (.ref x0), .val (.ref x1), .val (.int (0 : Int32)), .val (.int (0 : Int32)), .val .null, .unset] [] := by first | (simp [entryFrame, mkF, argsToLocals, Value.category]; done) | rfl
def Q_own_s2 (Z : State) (a : Addr) (b : Addr) (h0 : Heap) (n0 : Nat) (v : Option Value) (h : Heap) (L : List Loc) : Prop := ∃ t : Nat, ∃ kb : ClassId, v = none ∧ Fr n0 L ∧ Keep h0 h [a] ∧ Exa Z h a "java/lang/String" ∧ Fld Z h a "java/lang/String" "value" "[B" (.ref t) ∧ Fld Z h a "java/lang/String" "coder" "B" (.int (0 : Int32)) ∧ Arv Z h t kb .byte (0 : Int32) [] (.int (0 : Int32))
set_option maxRecDepth 65536 in
set_option maxHeartbeats 40000000 in
theorem own_s2 (l : Launch) (Z : State) (a0 : Array Value) (hw : ∀ d ∈ tables_1, d.before a0 Z = true) (ws : List Jvm.Cond) (a : Addr) (b : Addr) (h0 : Heap) (n0 : Nat) (Z0 : n0 ≤ h0.size) (E_a : Exa Z h0 a "java/lang/String") (F_a_value : Fld Z h0 a "java/lang/String" "value" "[B" .null) (F_a_coder : Fld Z h0 a "java/lang/String" "coder" "B" (.int (0 : Int32))) (g_a : n0 ≤ a) :
    MetFree l (⟨"java/lang/String", "<init>", "([CIILjava/lang/Void;)V"⟩ : MethodName) (head1 (Jvm.Cond.code (⟨"java/lang/String", "<init>", "([CIILjava/lang/Void;)V"⟩ : MethodName) jdk_42_method_149_code 6 none :: ws) ({ frames := 1, cells := 4, slots := 8, locals := 12 } : Room)) (fun as_ U => as_ = #[(.ref a), (.ref b), (.int (0 : Int32)), (.int (0 : Int32)), .null] ∧ Z.Warmed39 U.vm ∧ U.heap = h0 ∧ CHv Z own_EL U.vm h0) (fun _ _ _ _ _ => True) (fun _ U o U' => ∃ v L, o = .returned v ∧ Q_own_s2 Z a b h0 n0 v U'.heap L ∧ CHr Z own_EL U.vm U.heap U'.vm U'.heap ∧ ReturnedEndW U o U' L ({ frames := 1, cells := 4, slots := 8, locals := 12 } : Room).cells ({ frames := 1, cells := 4, slots := 8, locals := 12 } : Room).slots) := by
  refine MetFree.of_bodySF (plainFor_of_name own_pn0) hisR ?_
  intro p e s m args below meth c s₁ Bd hml0 hP hK
  obtain ⟨rfl, hZ, hh, hCH⟩ := hP
  have R0 := CHr.refl hCH
  have hEL : EW Z a0 own_EL := own_hEL hw
  have hx := Bd.exec
  have hby := Bd.bytes
  have hml : c.maxLocals = 6 := hml0
  have hown : s.vm.findClass "java/lang/String" = some m.cls := findClass_of_methodNamed Bd.named
  have hnm := (name_of_methodNamed Bd.named Bd.method).1
  have X0 : Stand p l e ({ frames := 1, cells := 4, slots := 8, locals := 12 } : Room) s m #[(.ref a), (.ref b), (.int (0 : Int32)), (.int (0 : Int32)), .null] below meth c s₁ [] 0 0 := Stand.of_body Bd
  have e0 : s₁.heap = h0 := by rw [← hh, Bd.state]; rfl
  have N0 := Fr.nil n0
  have K0 := Keep.refl h0 [a]
  have hS0 : s.Since s.vm s.heap.size := (State.WarmedH.refl s).since _
  have hk0 : s.heap.size ≤ h0.size := by rw [hh]; exact Nat.le_refl _
  show Go p e below (own_FH Z s below (Q_own_s2 Z a b h0 n0) ({ frames := 1, cells := 4, slots := 8, locals := 12 } : Room).cells ({ frames := 1, cells := 4, slots := 8, locals := 12 } : Room).slots) (s₁.setTop (entryFrame m #[(.ref a), (.ref b), (.int (0 : Int32)), (.int (0 : Int32)), .null] 6))
  rw [own_ef_own_s2 m a b]
  have Sf0_a := own_safe_null (EL := own_EL) hZ.alike E_a F_a_value
  refine Go.back (t' := (s₁.setTop (mkF m 1 #[.val (.ref a), .val (.ref b), .val (.int (0 : Int32)), .val (.int (0 : Int32)), .val .null, .unset] [(.ref a)]))) (fun u k => XS.aloadN X0.here hx rfl (hb hby own_d14_0) rfl rfl k) ?_
  obtain ⟨T1, X1, e1, st1⟩ := initO X0 hx hZ hown (hw _ (List.mem_of_getElem? (i := 88) rfl)) (hw _ (List.mem_of_getElem? (i := 7) rfl)) (hw _ (List.mem_of_getElem? (i := 8) rfl)) e0 (g := (mkF m 1 #[.val (.ref a), .val (.ref b), .val (.int (0 : Int32)), .val (.int (0 : Int32)), .val .null, .unset] [(.ref a)])) rfl (by rw [hml]; rfl) rfl (hb hby own_d14_1) (by decide) (W := 0) (by show 2 * 0 + _ ≤ _; exact Nat.le_of_eq rfl) (by decide)
  refine Go.back (t' := (T1.setTop (mkF m 4 #[.val (.ref a), .val (.ref b), .val (.int (0 : Int32)), .val (.int (0 : Int32)), .val .null, .unset] []))) st1 ?_
  refine Go.back (t' := (T1.setTop (mkF m 9 #[.val (.ref a), .val (.ref b), .val (.int (0 : Int32)), .val (.int (0 : Int32)), .val .null, .unset] [(.ref a)]))) (fun u k => XS.iloadN X1.here hx rfl (hb hby own_d14_4) rfl (XS.ifNo X1.here hx rfl (hb hby own_d14_5) rfl (XT.i0_ne_f (by decide)) (XS.aloadN X1.here hx rfl (hb hby own_d14_8) rfl rfl k))) ?_
  have wS : ∀ d ∈ Bundle.stringAtoms, d.before a0 Z = true := fun d hd => hw d ((by decide +kernel : ∀ d ∈ Bundle.stringAtoms, d ∈ tables_1) d hd)
  obtain ⟨a2, T2, h2, kk2, b2, kb2, X2, e2, E2, hS2, hk2, hZ, hown, EA2, FC2, FV2, VA2, lta2, ltb2, hC2, hLit2, hne2, st2⟩ := ldcCH (s := s) (vm0 := s.vm) X1 hx hZ hown (hw _ (List.mem_of_getElem? (i := 89) rfl)) wS e1 hS0 hk0 hEL (List.mem_cons_self ..) R0.1 (vs := []) (z := (0 : Int32)) ⟨by decide, rfl⟩ (by decide) rfl (g := (mkF m 9 #[.val (.ref a), .val (.ref b), .val (.int (0 : Int32)), .val (.int (0 : Int32)), .val .null, .unset] [(.ref a)])) rfl (hb hby own_d14_9) (n := 0) (by decide) (by decide) (by decide) (by decide)
  have Z2 : n0 ≤ h2.size := Nat.le_trans Z0 E2.1
  have K2 := K0.ext E2
  have Sf2_a := CHr.safe hC2 E_a.lt Sf0_a
  have R2 := R0.trans hC2
  have ne_a_a2 : a ≠ a2 := (hne2 _ Sf2_a).1
  have ne_a_b2 : a ≠ b2 := (hne2 _ Sf2_a).2
  refine Go.back (t' := (T2.setTop (mkF m 11 #[.val (.ref a), .val (.ref b), .val (.int (0 : Int32)), .val (.int (0 : Int32)), .val .null, .unset] [(.ref a2), (.ref a)]))) st2 ?_
  obtain ⟨T3, X3, e3, st3⟩ := getF X2 hx hZ hown (host := "") (Or.inl (hw _ (List.mem_of_getElem? (i := 95) rfl))) Via.refl e2 FV2 (g := (mkF m 11 #[.val (.ref a), .val (.ref b), .val (.int (0 : Int32)), .val (.int (0 : Int32)), .val .null, .unset] [(.ref a2), (.ref a)])) rfl rfl (hb hby own_d14_11)
  refine Go.back (t' := (T3.setTop (mkF m 14 #[.val (.ref a), .val (.ref b), .val (.int (0 : Int32)), .val (.int (0 : Int32)), .val .null, .unset] [(.ref b2), (.ref a)]))) st3 ?_
  have f5 := (F_a_value.ext E2)
  have f6 := (E_a.ext E2)
  obtain ⟨T4, h4, X4, e4, W4, st4⟩ := putF X3 hx hZ hown (host := "") (Or.inl (hw _ (List.mem_of_getElem? (i := 95) rfl))) Via.refl e3 f5 f6 (Or.inr ⟨(hw _ (List.mem_of_getElem? (i := 91) rfl)), rfl, hnm⟩) (hw _ (List.mem_of_getElem? (i := 78) rfl)) (ty := (.array .byte)) (by decide) rfl rfl (g := (mkF m 14 #[.val (.ref a), .val (.ref b), .val (.int (0 : Int32)), .val (.int (0 : Int32)), .val .null, .unset] [(.ref b2), (.ref a)])) rfl rfl (hb hby own_d14_14)
  have Z4 : n0 ≤ h4.size := Nat.le_trans Z2 (Keep.of_wr W4).1
  have K4 := K2.wr W4 (Or.inl (List.mem_of_getElem? (i := 0) rfl))
  have N4 := Fr.snoc X4 N0 g_a
  have hk4 := Nat.le_trans hk2 (Keep.of_wr W4).1
  have Sf4_a := Safe.wr W4 Sf2_a R2.1 Sf2_a
  have R4 := R2.trans (CHr.wr W4 Sf2_a R2.1)
  have F4 := f5.same W4
  refine Go.back (t' := (T4.setTop (mkF m 17 #[.val (.ref a), .val (.ref b), .val (.int (0 : Int32)), .val (.int (0 : Int32)), .val .null, .unset] []))) st4 ?_
  refine Go.back (t' := (T4.setTop (mkF m 18 #[.val (.ref a), .val (.ref b), .val (.int (0 : Int32)), .val (.int (0 : Int32)), .val .null, .unset] [(.ref a)]))) (fun u k => XS.aloadN X4.here hx rfl (hb hby own_d14_17) rfl rfl k) ?_
  have f8 := (f6.wr W4)
  obtain ⟨a7, T7, h7, kk7, b7, kb7, X7, e7, E7, hS7, hk7, hZ, hown, EA7, FC7, FV7, VA7, lta7, ltb7, hC7, hLit7, hne7, st7⟩ := ldcCH (s := s) (vm0 := T2.vm) X4 hx hZ hown (hw _ (List.mem_of_getElem? (i := 89) rfl)) wS e4 hS2 hk4 hEL (List.mem_cons_self ..) R4.1 (vs := []) (z := (0 : Int32)) ⟨by decide, rfl⟩ (by decide) rfl (g := (mkF m 18 #[.val (.ref a), .val (.ref b), .val (.int (0 : Int32)), .val (.int (0 : Int32)), .val .null, .unset] [(.ref a)])) rfl (hb hby own_d14_18) (n := 0) (by decide) (by decide) (by decide) (by decide)
  have Z7 : n0 ≤ h7.size := Nat.le_trans Z4 E7.1
  have K7 := K4.ext E7
  have Sf7_a := CHr.safe hC7 f8.lt Sf4_a
  have R7 := R4.trans hC7
  have ne_a_a7 : a ≠ a7 := (hne7 _ Sf7_a).1
  have ne_a_b7 : a ≠ b7 := (hne7 _ Sf7_a).2
  refine Go.back (t' := (T7.setTop (mkF m 20 #[.val (.ref a), .val (.ref b), .val (.int (0 : Int32)), .val (.int (0 : Int32)), .val .null, .unset] [(.ref a7), (.ref a)]))) st7 ?_
  obtain ⟨T9, X9, e9, st9⟩ := getF X7 hx hZ hown (host := "") (Or.inl (hw _ (List.mem_of_getElem? (i := 96) rfl))) Via.refl e7 FC7 (g := (mkF m 20 #[.val (.ref a), .val (.ref b), .val (.int (0 : Int32)), .val (.int (0 : Int32)), .val .null, .unset] [(.ref a7), (.ref a)])) rfl rfl (hb hby own_d14_20)
  refine Go.back (t' := (T9.setTop (mkF m 23 #[.val (.ref a), .val (.ref b), .val (.int (0 : Int32)), .val (.int (0 : Int32)), .val .null, .unset] [(.int (0 : Int32)), (.ref a)]))) st9 ?_
  have f11 := (((F_a_coder.ext E2).other W4 (Or.inr (slot_ne (Or.inr (hw _ (List.mem_of_getElem? (i := 92) rfl))) (Or.inr (hw _ (List.mem_of_getElem? (i := 91) rfl))) (by decide) (t := .byte) (t' := (.array .byte)) (by decide) (by decide)))).ext E7)
  have f12 := (f8.ext E7)
  obtain ⟨T10, h10, X10, e10, W10, st10⟩ := putFN X9 hx hZ hown (hw _ (List.mem_of_getElem? (i := 96) rfl)) Via.refl e9 f11 f12 (Or.inr ⟨(hw _ (List.mem_of_getElem? (i := 92) rfl)), rfl, hnm⟩) (hw _ (List.mem_of_getElem? (i := 78) rfl)) (ty := .byte) (v' := (.int (0 : Int32))) (by decide) rfl rfl (g := (mkF m 23 #[.val (.ref a), .val (.ref b), .val (.int (0 : Int32)), .val (.int (0 : Int32)), .val .null, .unset] [(.int (0 : Int32)), (.ref a)])) rfl rfl (hb hby own_d14_23)
  have Z10 : n0 ≤ h10.size := Nat.le_trans Z7 (Keep.of_wr W10).1
  have K10 := K7.wr W10 (Or.inl (List.mem_of_getElem? (i := 0) rfl))
  have N10 := Fr.snoc X10 N4 g_a
  have hk10 := Nat.le_trans hk7 (Keep.of_wr W10).1
  have Sf10_a := Safe.wr W10 Sf7_a R7.1 Sf7_a
  have R10 := R7.trans (CHr.wr W10 Sf7_a R7.1)
  have F10 := f11.same W10
  refine Go.back (t' := (T10.setTop (mkF m 26 #[.val (.ref a), .val (.ref b), .val (.int (0 : Int32)), .val (.int (0 : Int32)), .val .null, .unset] []))) st10 ?_
  have f13 := (f12.wr W10)
  have f14 := ((F4.ext E7).other W10 (Or.inr (slot_ne (Or.inr (hw _ (List.mem_of_getElem? (i := 91) rfl))) (Or.inr (hw _ (List.mem_of_getElem? (i := 92) rfl))) (by decide) (t := (.array .byte)) (t' := .byte) (by decide) (by decide))))
  have f15 := (((VA2.other W4 (Ne.symm ne_a_b2)).ext E7).other W10 (Ne.symm ne_a_b2))
  obtain ⟨fs, hr, hrun, hended, hFW⟩ := Jvm.Stand.leaveW (s := s) (vm₁ := T7.vm) X10 hS7 (by rw [e10]; exact hk10) (v := none) (fun _ => rfl)
  have RF := R10.trans (CHv.at (s := s) (vm0 := T7.vm) X10 hZ hEL R10.1)
  refine ⟨_, _, X10.returnOut hx Bd.returns (hb hby own_d14_26) hr, hrun, hended, _, _, rfl, ?_, ?_, hFW.1, hFW.2.1, hFW.2.2.1, hFW.2.2.2.mono (by decide) (by decide)⟩
  · skip
    show Q_own_s2 Z a b h0 n0 _ T10.heap _
    rw [e10]
    exact ⟨b2, kb2, rfl, N10, K10, f13, f14, F10, f15⟩
  · show CHr Z own_EL s.vm s.heap T10.vm T10.heap
    rw [hh, e10]
    exact RF
theorem own_pd0 : parseMethodDescriptor "([CIILjava/lang/Void;)V" = some ⟨[(.array .char), .int, .int, (.object "java/lang/Void")], none⟩ := by decide +kernel
theorem own_d13_0 : decode jdk_42_method_3_code 0 = .ok (.aload_n 0, 1) := by decide +kernel
theorem own_d13_1 : decode jdk_42_method_3_code 1 = .ok (.aload_n 1, 1) := by decide +kernel
theorem own_d13_2 : decode jdk_42_method_3_code 2 = .ok (.iconst 0, 1) := by decide +kernel
theorem own_d13_3 : decode jdk_42_method_3_code 3 = .ok (.aload_n 1, 1) := by decide +kernel
theorem own_d13_4 : decode jdk_42_method_3_code 4 = .ok (.arraylength, 1) := by decide +kernel
theorem own_d13_5 : decode jdk_42_method_3_code 5 = .ok (.aconst_null, 1) := by decide +kernel
theorem own_d13_6 : decode jdk_42_method_3_code 6 = .ok (.invokespecial 27, 3) := by decide +kernel
theorem own_d13_9 : decode jdk_42_method_3_code 9 = .ok (.return_, 1) := by decide +kernel
theorem own_ef_own_s1 (m : MethodId) (x0 : Addr) (x1 : Addr) : entryFrame m #[(.ref x0), (.ref x1)] 2 = mkF m 0 #[.val (.ref x0), .val (.ref x1)] [] := by first | (simp [entryFrame, mkF, argsToLocals, Value.category]; done) | rfl
def Q_own_s1 (Z : State) (a : Addr) (b : Addr) (kc : ClassId) (h0 : Heap) (n0 : Nat) (v : Option Value) (h : Heap) (L : List Loc) : Prop := ∃ t : Nat, ∃ kb : ClassId, v = none ∧ Fr n0 L ∧ Keep h0 h [a] ∧ Exa Z h a "java/lang/String" ∧ Fld Z h a "java/lang/String" "value" "[B" (.ref t) ∧ Fld Z h a "java/lang/String" "coder" "B" (.int (0 : Int32)) ∧ Arv Z h t kb .byte (0 : Int32) [] (.int (0 : Int32))
set_option maxRecDepth 65536 in
set_option maxHeartbeats 40000000 in
theorem own_s1 (l : Launch) (Z : State) (a0 : Array Value) (hw : ∀ d ∈ tables_1, d.before a0 Z = true) (ws : List Jvm.Cond) (a : Addr) (b : Addr) (kc : ClassId) (h0 : Heap) (n0 : Nat) (Z0 : n0 ≤ h0.size) (E_a : Exa Z h0 a "java/lang/String") (F_a_value : Fld Z h0 a "java/lang/String" "value" "[B" .null) (F_a_coder : Fld Z h0 a "java/lang/String" "coder" "B" (.int (0 : Int32))) (g_a : n0 ≤ a) (V_b : Arv Z h0 b kc .char (0 : Int32) [] (.int (0 : Int32))) :
    MetFree l (⟨"java/lang/String", "<init>", "([C)V"⟩ : MethodName) (head1 (Jvm.Cond.code (⟨"java/lang/String", "<init>", "([C)V"⟩ : MethodName) jdk_42_method_3_code 2 none :: ws) ({ frames := 2, cells := 4, slots := 8, locals := 29 } : Room)) (fun as_ U => as_ = #[(.ref a), (.ref b)] ∧ Z.Warmed39 U.vm ∧ U.heap = h0 ∧ CHv Z own_EL U.vm h0) (fun _ _ _ _ _ => True) (fun _ U o U' => ∃ v L, o = .returned v ∧ Q_own_s1 Z a b kc h0 n0 v U'.heap L ∧ CHr Z own_EL U.vm U.heap U'.vm U'.heap ∧ ReturnedEndW U o U' L ({ frames := 2, cells := 4, slots := 8, locals := 29 } : Room).cells ({ frames := 2, cells := 4, slots := 8, locals := 29 } : Room).slots) := by
  refine MetFree.of_bodySF (plainFor_of_name own_pn0) hisR ?_
  intro p e s m args below meth c s₁ Bd hml0 hP hK
  obtain ⟨rfl, hZ, hh, hCH⟩ := hP
  have R0 := CHr.refl hCH
  have hEL : EW Z a0 own_EL := own_hEL hw
  have hx := Bd.exec
  have hby := Bd.bytes
  have hml : c.maxLocals = 2 := hml0
  have hown : s.vm.findClass "java/lang/String" = some m.cls := findClass_of_methodNamed Bd.named
  have hnm := (name_of_methodNamed Bd.named Bd.method).1
  have X0 : Stand p l e ({ frames := 2, cells := 4, slots := 8, locals := 29 } : Room) s m #[(.ref a), (.ref b)] below meth c s₁ [] 0 0 := Stand.of_body Bd
  have e0 : s₁.heap = h0 := by rw [← hh, Bd.state]; rfl
  have N0 := Fr.nil n0
  have K0 := Keep.refl h0 [a]
  have hS0 : s.Since s.vm s.heap.size := (State.WarmedH.refl s).since _
  have hk0 : s.heap.size ≤ h0.size := by rw [hh]; exact Nat.le_refl _
  show Go p e below (own_FH Z s below (Q_own_s1 Z a b kc h0 n0) ({ frames := 2, cells := 4, slots := 8, locals := 29 } : Room).cells ({ frames := 2, cells := 4, slots := 8, locals := 29 } : Room).slots) (s₁.setTop (entryFrame m #[(.ref a), (.ref b)] 2))
  rw [own_ef_own_s1 m a b]
  have Sf0_a := own_safe_null (EL := own_EL) hZ.alike E_a F_a_value
  refine Go.back (t' := (s₁.setTop (mkF m 4 #[.val (.ref a), .val (.ref b)] [(.ref b), (.int (0 : Int32)), (.ref b), (.ref a)]))) (fun u k => XS.aloadN X0.here hx rfl (hb hby own_d13_0) rfl rfl (XS.aloadN X0.here hx rfl (hb hby own_d13_1) rfl rfl (XT.iconstV X0.here hx rfl (0 : Int32) (hb hby own_d13_2) (by decide) (XS.aloadN X0.here hx rfl (hb hby own_d13_3) rfl rfl k)))) ?_
  obtain ⟨cl1, Ar1, aq1, aS1, aM1, aH1, aG1⟩ := id V_b
  refine Go.back (t' := (s₁.setTop (mkF m 5 #[.val (.ref a), .val (.ref b)] [(.int cl1.slots.size.toInt32), (.int (0 : Int32)), (.ref b), (.ref a)]))) (fun u k => X0.arraylength hx (by rw [e0]; exact Ar1.1) (State.isArrayOf_alike hZ.alike Ar1.2.1) (g := (mkF m 4 #[.val (.ref a), .val (.ref b)] [(.ref b), (.int (0 : Int32)), (.ref b), (.ref a)])) rfl rfl (hb hby own_d13_4) _ k) ?_
  rw [len_of aS1 aM1]
  refine Go.back (t' := (s₁.setTop (mkF m 6 #[.val (.ref a), .val (.ref b)] [.null, (.int (0 : Int32)), (.int (0 : Int32)), (.ref b), (.ref a)]))) (fun u k => XS.aconstNull X0.here hx rfl (hb hby own_d13_5) k) ?_
  obtain ⟨_, _, ⟨T2, L2, k2, n2⟩, -, X2, hT2, hg2, ⟨Lc2, hQ2, l2, y2, z2, hC2⟩, st2⟩ := X0.specialBackS hx (y := (⟨"java/lang/String", "<init>", "([CIILjava/lang/Void;)V"⟩ : MethodName)) rfl hown (mvT hZ (hw _ (List.mem_of_getElem? (i := 84) rfl))) (mvT hZ (hw _ (List.mem_of_getElem? (i := 85) rfl))) (mvT hZ (hw _ (List.mem_of_getElem? (i := 87) rfl))) (by decide) (backOfSH (s := s) (vm0 := s.vm) (W := 0) (own_s2 l Z a0 hw [] a b h0 n0 Z0 E_a F_a_value F_a_coder g_a) hZ (hw _ (List.mem_of_getElem? (i := 87) rfl)) (hw _ (List.mem_of_getElem? (i := 79) rfl)) (by decide) (by decide) hEL R0.1) (g := (mkF m 6 #[.val (.ref a), .val (.ref b)] [.null, (.int (0 : Int32)), (.int (0 : Int32)), (.ref b), (.ref a)])) rfl (by rw [hml]; rfl) (Steps.refl _) (a := a) (argsL := [(.ref b), (.int (0 : Int32)), (.int (0 : Int32)), .null]) (rest := []) (lenOf own_pd0 rfl) rfl (by show 2 * 0 + _ ≤ _; exact Nat.le_of_eq rfl) (hb hby own_d13_6) (fun _ _ => ⟨rfl, e0, (by decide : 0 + 4 ≤ _), (by decide : 0 + 8 ≤ _)⟩)
  dsimp only [Pt.U, Pt.locs, Pt.cells, Pt.slots] at X2 l2 y2 z2 st2 hQ2 hT2 hg2 hC2
  subst l2 y2 z2
  obtain ⟨X2, hS2, hZ, hown⟩ := rebS (s := s) (vm0 := s.vm) hS0 (by rw [e0]; exact hk0) X2 hT2 hg2 hZ hown
  have Sf2_a := CHr.safe hC2 E_a.lt Sf0_a
  have R2 := R0.trans hC2
  obtain ⟨t2, kb2, rfl, N2, Kc2, P2_0, P2_1, P2_2, P2_3⟩ := hQ2
  have NA2 := Fr.app N0 N2
  have Z2 : n0 ≤ T2.heap.size := Nat.le_trans Z0 Kc2.1
  have K2 := K0.trans Kc2 (allS (Or.inl (List.mem_of_getElem? (i := 0) rfl)) all0)
  refine Go.back (t' := (T2.setTop (mkF m 9 #[.val (.ref a), .val (.ref b)] []))) (fun u k => st2.trans k) ?_
  obtain ⟨fs, hr, hrun, hended, hFW⟩ := Jvm.Stand.leaveW (s := s) (vm₁ := T2.vm) X2 hS2 (Nat.le_refl _) (v := none) (fun _ => rfl)
  have RF := R2.trans (CHv.at (s := s) (vm0 := T2.vm) X2 hZ hEL R2.1)
  refine ⟨_, _, X2.returnOut hx Bd.returns (hb hby own_d13_9) hr, hrun, hended, _, _, rfl, ?_, ?_, hFW.1, hFW.2.1, hFW.2.2.1, hFW.2.2.2.mono (by decide) (by decide)⟩
  · skip
    show Q_own_s1 Z a b kc h0 n0 _ T2.heap _
    exact ⟨t2, kb2, rfl, NA2, K2, P2_0, P2_1, P2_2, P2_3⟩
  · show CHr Z own_EL s.vm s.heap T2.vm T2.heap
    rw [hh]
    exact RF
theorem own_c16 {c : Int32} (h : ¬ c < 0 ∧ ¬ (255 : Int32) < c) : ¬ c < 0 ∧ ¬ (65535 : Int32) < c := by
  refine ⟨h.1, fun q => h.2 ?_⟩
  rw [Int32.lt_iff_toInt_lt] at q ⊢
  have a : (65535 : Int32).toInt = 65535 := by decide
  have b : (255 : Int32).toInt = 255 := by decide
  rw [a] at q; rw [b]; omega
theorem own_chr (x : Int32) : (¬ (x &&& (255 : Int32)) < 0 ∧ ¬ (255 : Int32) < (x &&& (255 : Int32))) ∧ nar .char (x &&& (255 : Int32)) = (x &&& (255 : Int32)) := by
  refine ⟨?_, i2c_mask _⟩
  have m := Jvm.Kit.i32_mask x (255 : Int32) (k := 8) (by decide) (by decide)
  have e0 : (0 : Int32).toInt = 0 := by decide
  have e1 : (255 : Int32).toInt = 255 := by decide
  rw [Int32.lt_iff_toInt_lt, Int32.lt_iff_toInt_lt, m, e0, e1]
  omega
abbrev own_ok (c : Int32) : Prop := (¬ c < 0 ∧ ¬ (255 : Int32) < c) ∧ nar .char c = c
theorem own_ca {x c : Int32} (h : c = (x &&& (255 : Int32))) : own_ok c := by rw [h]; exact own_chr x
theorem own_pd1 : parseMethodDescriptor "([C)V" = some ⟨[(.array .char)], none⟩ := by decide +kernel
theorem own_pn1 : plainName "com/example/binfold/binfold/PartDescriptionPinLaw" = true := by first | (simp [plainName, overriddenIn]; done) | decide +kernel
theorem own_d12_0 : decode method_2_code 0 = .ok (.iload_n 1, 1) := by decide +kernel
theorem own_d12_1 : decode method_2_code 1 = .ok (.sipush 255, 3) := by decide +kernel
theorem own_d12_4 : decode method_2_code 4 = .ok (.iand, 1) := by decide +kernel
theorem own_d12_5 : decode method_2_code 5 = .ok (.i2c, 1) := by decide +kernel
theorem own_d12_6 : decode method_2_code 6 = .ok (.istore 4, 2) := by decide +kernel
theorem own_d12_8 : decode method_2_code 8 = .ok (.iload_n 2, 1) := by decide +kernel
theorem own_d12_9 : decode method_2_code 9 = .ok (.sipush 255, 3) := by decide +kernel
theorem own_d12_12 : decode method_2_code 12 = .ok (.iand, 1) := by decide +kernel
theorem own_d12_13 : decode method_2_code 13 = .ok (.i2c, 1) := by decide +kernel
theorem own_d12_14 : decode method_2_code 14 = .ok (.istore 5, 2) := by decide +kernel
theorem own_d12_16 : decode method_2_code 16 = .ok (.iload_n 3, 1) := by decide +kernel
theorem own_d12_17 : decode method_2_code 17 = .ok (.sipush 255, 3) := by decide +kernel
theorem own_d12_20 : decode method_2_code 20 = .ok (.iand, 1) := by decide +kernel
theorem own_d12_21 : decode method_2_code 21 = .ok (.i2c, 1) := by decide +kernel
theorem own_d12_22 : decode method_2_code 22 = .ok (.istore 6, 2) := by decide +kernel
theorem own_d12_24 : decode method_2_code 24 = .ok (.iload_n 0, 1) := by decide +kernel
theorem own_d12_25 : decode method_2_code 25 = .ok (.ifCond .ne 14, 3) := by decide +kernel
theorem own_d12_28 : decode method_2_code 28 = .ok (.new 7, 3) := by decide +kernel
theorem own_d12_31 : decode method_2_code 31 = .ok (.dup, 1) := by decide +kernel
theorem own_d12_32 : decode method_2_code 32 = .ok (.iconst 0, 1) := by decide +kernel
theorem own_d12_33 : decode method_2_code 33 = .ok (.newarray .char, 2) := by decide +kernel
theorem own_d12_35 : decode method_2_code 35 = .ok (.invokespecial 9, 3) := by decide +kernel
theorem own_d12_38 : decode method_2_code 38 = .ok (.areturn, 1) := by decide +kernel
theorem own_d12_39 : decode method_2_code 39 = .ok (.iload_n 0, 1) := by decide +kernel
theorem own_d12_40 : decode method_2_code 40 = .ok (.iconst 1, 1) := by decide +kernel
theorem own_d12_41 : decode method_2_code 41 = .ok (.if_icmp .ne 19, 3) := by decide +kernel
theorem own_d12_44 : decode method_2_code 44 = .ok (.new 7, 3) := by decide +kernel
theorem own_d12_47 : decode method_2_code 47 = .ok (.dup, 1) := by decide +kernel
theorem own_d12_48 : decode method_2_code 48 = .ok (.iconst 1, 1) := by decide +kernel
theorem own_d12_49 : decode method_2_code 49 = .ok (.newarray .char, 2) := by decide +kernel
theorem own_d12_51 : decode method_2_code 51 = .ok (.dup, 1) := by decide +kernel
theorem own_d12_52 : decode method_2_code 52 = .ok (.iconst 0, 1) := by decide +kernel
theorem own_d12_53 : decode method_2_code 53 = .ok (.iload 4, 2) := by decide +kernel
theorem own_d12_55 : decode method_2_code 55 = .ok (.castore, 1) := by decide +kernel
theorem own_d12_56 : decode method_2_code 56 = .ok (.invokespecial 9, 3) := by decide +kernel
theorem own_d12_59 : decode method_2_code 59 = .ok (.areturn, 1) := by decide +kernel
theorem own_d12_60 : decode method_2_code 60 = .ok (.iload_n 0, 1) := by decide +kernel
theorem own_d12_61 : decode method_2_code 61 = .ok (.iconst 2, 1) := by decide +kernel
theorem own_d12_62 : decode method_2_code 62 = .ok (.if_icmp .ne 24, 3) := by decide +kernel
theorem own_d12_65 : decode method_2_code 65 = .ok (.new 7, 3) := by decide +kernel
theorem own_d12_68 : decode method_2_code 68 = .ok (.dup, 1) := by decide +kernel
theorem own_d12_69 : decode method_2_code 69 = .ok (.iconst 2, 1) := by decide +kernel
theorem own_d12_70 : decode method_2_code 70 = .ok (.newarray .char, 2) := by decide +kernel
theorem own_d12_72 : decode method_2_code 72 = .ok (.dup, 1) := by decide +kernel
theorem own_d12_73 : decode method_2_code 73 = .ok (.iconst 0, 1) := by decide +kernel
theorem own_d12_74 : decode method_2_code 74 = .ok (.iload 4, 2) := by decide +kernel
theorem own_d12_76 : decode method_2_code 76 = .ok (.castore, 1) := by decide +kernel
theorem own_d12_77 : decode method_2_code 77 = .ok (.dup, 1) := by decide +kernel
theorem own_d12_78 : decode method_2_code 78 = .ok (.iconst 1, 1) := by decide +kernel
theorem own_d12_79 : decode method_2_code 79 = .ok (.iload 5, 2) := by decide +kernel
theorem own_d12_81 : decode method_2_code 81 = .ok (.castore, 1) := by decide +kernel
theorem own_d12_82 : decode method_2_code 82 = .ok (.invokespecial 9, 3) := by decide +kernel
theorem own_d12_85 : decode method_2_code 85 = .ok (.areturn, 1) := by decide +kernel
theorem own_d12_86 : decode method_2_code 86 = .ok (.new 7, 3) := by decide +kernel
theorem own_d12_89 : decode method_2_code 89 = .ok (.dup, 1) := by decide +kernel
theorem own_d12_90 : decode method_2_code 90 = .ok (.iconst 3, 1) := by decide +kernel
theorem own_d12_91 : decode method_2_code 91 = .ok (.newarray .char, 2) := by decide +kernel
theorem own_d12_93 : decode method_2_code 93 = .ok (.dup, 1) := by decide +kernel
theorem own_d12_94 : decode method_2_code 94 = .ok (.iconst 0, 1) := by decide +kernel
theorem own_d12_95 : decode method_2_code 95 = .ok (.iload 4, 2) := by decide +kernel
theorem own_d12_97 : decode method_2_code 97 = .ok (.castore, 1) := by decide +kernel
theorem own_d12_98 : decode method_2_code 98 = .ok (.dup, 1) := by decide +kernel
theorem own_d12_99 : decode method_2_code 99 = .ok (.iconst 1, 1) := by decide +kernel
theorem own_d12_100 : decode method_2_code 100 = .ok (.iload 5, 2) := by decide +kernel
theorem own_d12_102 : decode method_2_code 102 = .ok (.castore, 1) := by decide +kernel
theorem own_d12_103 : decode method_2_code 103 = .ok (.dup, 1) := by decide +kernel
theorem own_d12_104 : decode method_2_code 104 = .ok (.iconst 2, 1) := by decide +kernel
theorem own_d12_105 : decode method_2_code 105 = .ok (.iload 6, 2) := by decide +kernel
theorem own_d12_107 : decode method_2_code 107 = .ok (.castore, 1) := by decide +kernel
theorem own_d12_108 : decode method_2_code 108 = .ok (.invokespecial 9, 3) := by decide +kernel
theorem own_d12_111 : decode method_2_code 111 = .ok (.areturn, 1) := by decide +kernel
theorem own_ef_own_drawn (m : MethodId) (x0 : Int32) (x1 : Int32) (x2 : Int32) (x3 : Int32) : entryFrame m #[(.int x0), (.int x1), (.int x2), (.int x3)] 7 = mkF m 0 #[.val (.int x0), .val (.int x1), .val (.int x2), .val (.int x3), .unset, .unset, .unset] [] := by first | (simp [entryFrame, mkF, argsToLocals, Value.category]; done) | rfl
def Q_own_drawn (Z : State) (p0 : Int32) (q0 : Int32) (q1 : Int32) (q2 : Int32) (gC : Int32) (h0 : Heap) (n0 : Nat) (v : Option Value) (h : Heap) (L : List Loc) : Prop := ∃ x : Addr, v = some (.ref x) ∧ Fr n0 L ∧ Keep h0 h [] ∧ n0 ≤ x ∧ h0.size ≤ x ∧ Exa Z h x "java/lang/String"
set_option maxRecDepth 65536 in
set_option maxHeartbeats 40000000 in
theorem own_drawn (l : Launch) (Z : State) (a0 : Array Value) (hw : ∀ d ∈ tables_1, d.before a0 Z = true) (ws : List Jvm.Cond) (p0 : Int32) (q0 : Int32) (q1 : Int32) (q2 : Int32) (gC : Int32) (h0 : Heap) (n0 : Nat) (Z0 : n0 ≤ h0.size) (Old0 : Old Z n0 h0) (SCS : Sta Z Z.heap "java/lang/String" "COMPACT_STRINGS" "Z" (.int gC)) (P5 : ¬ gC = 0) :
    MetFree l (⟨"com/example/binfold/binfold/PartDescriptionPinLaw", "drawn", "(IIII)Ljava/lang/String;"⟩ : MethodName) (head1 (Jvm.Cond.code (⟨"com/example/binfold/binfold/PartDescriptionPinLaw", "drawn", "(IIII)Ljava/lang/String;"⟩ : MethodName) method_2_code 7 (some (.object "java/lang/String")) :: ws) ({ frames := 4, cells := 6, slots := 12, locals := 66 } : Room)) (fun as_ U => as_ = #[(.int p0), (.int q0), (.int q1), (.int q2)] ∧ Z.Warmed39 U.vm ∧ U.heap = h0 ∧ CHv Z own_EL U.vm h0) (fun _ _ _ _ _ => True) (fun _ U o U' => ∃ v L, o = .returned v ∧ Q_own_drawn Z p0 q0 q1 q2 gC h0 n0 v U'.heap L ∧ CHr Z own_EL U.vm U.heap U'.vm U'.heap ∧ ReturnedEndW U o U' L ({ frames := 4, cells := 6, slots := 12, locals := 66 } : Room).cells ({ frames := 4, cells := 6, slots := 12, locals := 66 } : Room).slots) := by
  refine MetFree.of_bodySF (plainFor_of_name own_pn1) hisR ?_
  intro p e s m args below meth c s₁ Bd hml0 hP hK
  obtain ⟨rfl, hZ, hh, hCH⟩ := hP
  have R0 := CHr.refl hCH
  have hEL : EW Z a0 own_EL := own_hEL hw
  have hx := Bd.exec
  have hby := Bd.bytes
  have hml : c.maxLocals = 7 := hml0
  have hown : s.vm.findClass "com/example/binfold/binfold/PartDescriptionPinLaw" = some m.cls := findClass_of_methodNamed Bd.named
  have hnm := (name_of_methodNamed Bd.named Bd.method).1
  have X0 : Stand p l e ({ frames := 4, cells := 6, slots := 12, locals := 66 } : Room) s m #[(.int p0), (.int q0), (.int q1), (.int q2)] below meth c s₁ [] 0 0 := Stand.of_body Bd
  have e0 : s₁.heap = h0 := by rw [← hh, Bd.state]; rfl
  have N0 := Fr.nil n0
  have K0 := Keep.refl h0 []
  have hS0 : s.Since s.vm s.heap.size := (State.WarmedH.refl s).since _
  have hk0 : s.heap.size ≤ h0.size := by rw [hh]; exact Nat.le_refl _
  show Go p e below (own_FH Z s below (Q_own_drawn Z p0 q0 q1 q2 gC h0 n0) ({ frames := 4, cells := 6, slots := 12, locals := 66 } : Room).cells ({ frames := 4, cells := 6, slots := 12, locals := 66 } : Room).slots) (s₁.setTop (entryFrame m #[(.int p0), (.int q0), (.int q1), (.int q2)] 7))
  rw [own_ef_own_drawn m p0 q0 q1 q2]
  refine Go.back (t' := (s₁.setTop (mkF m 6 #[.val (.int p0), .val (.int q0), .val (.int q1), .val (.int q2), .unset, .unset, .unset] [(.int ((q0 &&& (255 : Int32)).toUInt32.toUInt16.toUInt32.toInt32))]))) (fun u k => XS.iloadN X0.here hx rfl (hb hby own_d12_0) rfl (XT.sipushV X0.here hx rfl (255 : Int32) (hb hby own_d12_1) (by decide) (XS.iand X0.here hx rfl (hb hby own_d12_4) rfl (XT.i2c X0.here hx rfl (hb hby own_d12_5) rfl k)))) ?_
  have rw1 : ((q0 &&& (255 : Int32)).toUInt32.toUInt16.toUInt32.toInt32) = (q0 &&& (255 : Int32)) := i2c_mask _
  rw [rw1]
  obtain ⟨ca0, h_ca0⟩ : ∃ z : Int32, z = (q0 &&& (255 : Int32)) := ⟨_, rfl⟩
  rw [← h_ca0]
  have hch0 := own_ca h_ca0
  refine Go.back (t' := (s₁.setTop (mkF m 14 #[.val (.int p0), .val (.int q0), .val (.int q1), .val (.int q2), .val (.int ca0), .unset, .unset] [(.int ((q1 &&& (255 : Int32)).toUInt32.toUInt16.toUInt32.toInt32))]))) (fun u k => XS.istore X0.here hx rfl (hb hby own_d12_6) rfl (l' := #[.val (.int p0), .val (.int q0), .val (.int q1), .val (.int q2), .val (.int ca0), .unset, .unset]) rfl (XS.iloadN X0.here hx rfl (hb hby own_d12_8) rfl (XT.sipushV X0.here hx rfl (255 : Int32) (hb hby own_d12_9) (by decide) (XS.iand X0.here hx rfl (hb hby own_d12_12) rfl (XT.i2c X0.here hx rfl (hb hby own_d12_13) rfl k))))) ?_
  have rw2 : ((q1 &&& (255 : Int32)).toUInt32.toUInt16.toUInt32.toInt32) = (q1 &&& (255 : Int32)) := i2c_mask _
  rw [rw2]
  obtain ⟨ca1, h_ca1⟩ : ∃ z : Int32, z = (q1 &&& (255 : Int32)) := ⟨_, rfl⟩
  rw [← h_ca1]
  have hch1 := own_ca h_ca1
  refine Go.back (t' := (s₁.setTop (mkF m 22 #[.val (.int p0), .val (.int q0), .val (.int q1), .val (.int q2), .val (.int ca0), .val (.int ca1), .unset] [(.int ((q2 &&& (255 : Int32)).toUInt32.toUInt16.toUInt32.toInt32))]))) (fun u k => XS.istore X0.here hx rfl (hb hby own_d12_14) rfl (l' := #[.val (.int p0), .val (.int q0), .val (.int q1), .val (.int q2), .val (.int ca0), .val (.int ca1), .unset]) rfl (XS.iloadN X0.here hx rfl (hb hby own_d12_16) rfl (XT.sipushV X0.here hx rfl (255 : Int32) (hb hby own_d12_17) (by decide) (XS.iand X0.here hx rfl (hb hby own_d12_20) rfl (XT.i2c X0.here hx rfl (hb hby own_d12_21) rfl k))))) ?_
  have rw3 : ((q2 &&& (255 : Int32)).toUInt32.toUInt16.toUInt32.toInt32) = (q2 &&& (255 : Int32)) := i2c_mask _
  rw [rw3]
  obtain ⟨ca2, h_ca2⟩ : ∃ z : Int32, z = (q2 &&& (255 : Int32)) := ⟨_, rfl⟩
  rw [← h_ca2]
  have hch2 := own_ca h_ca2
  refine Go.back (t' := (s₁.setTop (mkF m 25 #[.val (.int p0), .val (.int q0), .val (.int q1), .val (.int q2), .val (.int ca0), .val (.int ca1), .val (.int ca2)] [(.int p0)]))) (fun u k => XS.istore X0.here hx rfl (hb hby own_d12_22) rfl (l' := #[.val (.int p0), .val (.int q0), .val (.int q1), .val (.int q2), .val (.int ca0), .val (.int ca1), .val (.int ca2)]) rfl (XS.iloadN X0.here hx rfl (hb hby own_d12_24) rfl k)) ?_
  by_cases hc4 : p0 = (0 : Int32)
  · skip
    refine Go.back (t' := (s₁.setTop (mkF m 28 #[.val (.int p0), .val (.int q0), .val (.int q1), .val (.int q2), .val (.int ca0), .val (.int ca1), .val (.int ca2)] []))) (fun u k => XS.ifNo X0.here hx rfl (hb hby own_d12_25) rfl (XT.i0_ne_f hc4) k) ?_
    obtain ⟨T5, h5, X5, e5, E5, A5, D5, -, st5⟩ := newO X0 hx hZ hown (hw _ (List.mem_of_getElem? (i := 77) rfl)) (hw _ (List.mem_of_getElem? (i := 78) rfl)) (hw _ (List.mem_of_getElem? (i := 79) rfl)) e0 (g := (mkF m 28 #[.val (.int p0), .val (.int q0), .val (.int q1), .val (.int q2), .val (.int ca0), .val (.int ca1), .val (.int ca2)] [])) rfl (hb hby own_d12_28) (by decide) (by decide)
    obtain ⟨b5, g5⟩ : ∃ z, z = h0.size := ⟨_, rfl⟩
    rw [← g5] at A5 D5 st5
    have gb5 : n0 ≤ b5 := Nat.le_trans Z0 (Nat.le_of_eq g5.symm)
    have sz5 : h0.size ≤ b5 := Nat.le_trans K0.1 (Nat.le_of_eq g5.symm)
    have Z5 : n0 ≤ h5.size := Nat.le_trans Z0 E5.1
    have K5 := K0.ext E5
    have O5 := Old0.ext E5
    have hk5 := Nat.le_trans hk0 E5.1
    have Sf5_b5 := Safe.ext E5 R0.1 (Safe.new (Nat.le_of_eq g5.symm))
    have R5 := R0.trans (CHr.ext E5 R0.1)
    refine Go.back (t' := (T5.setTop (mkF m 31 #[.val (.int p0), .val (.int q0), .val (.int q1), .val (.int q2), .val (.int ca0), .val (.int ca1), .val (.int ca2)] [(.ref b5)]))) st5 ?_
    refine Go.back (t' := (T5.setTop (mkF m 33 #[.val (.int p0), .val (.int q0), .val (.int q1), .val (.int q2), .val (.int ca0), .val (.int ca1), .val (.int ca2)] [(.int (0 : Int32)), (.ref b5), (.ref b5)]))) (fun u k => XS.dup X5.here hx rfl (hb hby own_d12_31) rfl rfl (XT.iconstV X5.here hx rfl (0 : Int32) (hb hby own_d12_32) (by decide) k)) ?_
    obtain ⟨T6, h6, k6, X6, e6, E6, A6, st6⟩ := newP X5 hx hZ (hw _ (List.mem_of_getElem? (i := 80) rfl)) e5 (g := (mkF m 33 #[.val (.int p0), .val (.int q0), .val (.int q1), .val (.int q2), .val (.int ca0), .val (.int ca1), .val (.int ca2)] [(.int (0 : Int32)), (.ref b5), (.ref b5)])) rfl (hb hby own_d12_33) rfl (by decide) (cap := 0) (by decide) (by decide) (by decide) (by decide)
    obtain ⟨b6, g6⟩ : ∃ z, z = h5.size := ⟨_, rfl⟩
    rw [← g6] at A6 st6
    have ne_b5_b6 : b5 ≠ b6 := Nat.ne_of_lt (Nat.lt_of_lt_of_le A5.lt (Nat.le_of_eq g6.symm))
    have gb6 : n0 ≤ b6 := Nat.le_trans Z5 (Nat.le_of_eq g6.symm)
    have sz6 : h0.size ≤ b6 := Nat.le_trans K5.1 (Nat.le_of_eq g6.symm)
    have Z6 : n0 ≤ h6.size := Nat.le_trans Z5 E6.1
    have K6 := K5.ext E6
    have O6 := O5.ext E6
    have hk6 := Nat.le_trans hk5 E6.1
    have Sf6_b5 := Safe.ext E6 R5.1 Sf5_b5
    have Sf6_b6 := Safe.ext E6 R5.1 (Safe.new (Nat.le_of_eq g6.symm))
    have R6 := R5.trans (CHr.ext E6 R5.1)
    have V6 : Arv Z h6 b6 k6 .char (0 : Int32) [] (.int (0 : Int32)) := (Arv.new A6 (by decide)).pad (pad_rep [] (.int (0 : Int32)) 0)
    refine Go.back (t' := (T6.setTop (mkF m 35 #[.val (.int p0), .val (.int q0), .val (.int q1), .val (.int q2), .val (.int ca0), .val (.int ca1), .val (.int ca2)] [(.ref b6), (.ref b5), (.ref b5)]))) st6 ?_
    have f7 := (A5.ext E6)
    have f8 := ((D5 (Or.inr (hw _ (List.mem_of_getElem? (i := 91) rfl))) (ty := (.array .byte)) (by decide)).ext E6)
    have f9 := ((D5 (Or.inr (hw _ (List.mem_of_getElem? (i := 92) rfl))) (ty := .byte) (by decide)).ext E6)
    obtain ⟨_, _, ⟨T10, L10, k10, n10⟩, -, X10, hT10, hg10, ⟨Lc10, hQ10, l10, y10, z10, hC10⟩, st10⟩ := X6.specialBackS hx (y := (⟨"java/lang/String", "<init>", "([C)V"⟩ : MethodName)) rfl hown (mvT hZ (hw _ (List.mem_of_getElem? (i := 81) rfl))) (mvT hZ (hw _ (List.mem_of_getElem? (i := 82) rfl))) (mvT hZ (hw _ (List.mem_of_getElem? (i := 83) rfl))) (by decide) (backOfSH (s := s) (vm0 := s.vm) (W := 1) (own_s1 l Z a0 hw [] b5 b6 k6 h6 n0 Z6 f7 f8 f9 gb5 V6) hZ (hw _ (List.mem_of_getElem? (i := 83) rfl)) (hw _ (List.mem_of_getElem? (i := 79) rfl)) (by decide) (by decide) hEL R6.1) (g := (mkF m 35 #[.val (.int p0), .val (.int q0), .val (.int q1), .val (.int q2), .val (.int ca0), .val (.int ca1), .val (.int ca2)] [(.ref b6), (.ref b5), (.ref b5)])) rfl (by rw [hml]; rfl) (Steps.refl _) (a := b5) (argsL := [(.ref b6)]) (rest := [(.ref b5)]) (lenOf own_pd1 rfl) rfl (by show 2 * 0 + _ ≤ _; exact Nat.le_of_eq rfl) (hb hby own_d12_35) (fun _ _ => ⟨rfl, e6, (by decide : 2 + 4 ≤ _), (by decide : 4 + 8 ≤ _)⟩)
    dsimp only [Pt.U, Pt.locs, Pt.cells, Pt.slots] at X10 l10 y10 z10 st10 hQ10 hT10 hg10 hC10
    subst l10 y10 z10
    obtain ⟨X10, hS10, hZ, hown⟩ := rebS (s := s) (vm0 := s.vm) hS0 (by rw [e6]; exact hk6) X10 hT10 hg10 hZ hown
    have Sf10_b5 := CHr.safe hC10 f7.lt Sf6_b5
    have Sf10_b6 := CHr.safe hC10 V6.lt Sf6_b6
    have R10 := R6.trans hC10
    obtain ⟨t10, kb10, rfl, N10, Kc10, P10_0, P10_1, P10_2, P10_3⟩ := hQ10
    have NA10 := Fr.app N0 N10
    have Z10 : n0 ≤ T10.heap.size := Nat.le_trans Z6 Kc10.1
    have K10 := K6.trans Kc10 (allS (Or.inr sz5) all0)
    have O10 := O6.keep Kc10 (allS gb5 all0)
    refine Go.back (t' := (T10.setTop (mkF m 38 #[.val (.int p0), .val (.int q0), .val (.int q1), .val (.int q2), .val (.int ca0), .val (.int ca1), .val (.int ca2)] [(.ref b5)]))) (fun u k => st10.trans k) ?_
    obtain ⟨fs, hr, hrun, hended, hFW⟩ := Jvm.Stand.leaveW (s := s) (vm₁ := T10.vm) X10 hS10 (Nat.le_refl _) (v := some (.ref b5)) (fun h => by rw [Bd.returns] at h; cases h)
    have RF := R10.trans (CHv.at (s := s) (vm0 := T10.vm) X10 hZ hEL R10.1)
    refine ⟨_, _, retOut X10 hx (t := (.object "java/lang/String")) (i := .areturn) Bd.returns rfl (Or.inr (Or.inr (Or.inr (Or.inr ⟨rfl, rfl, rfl⟩)))) (hb hby own_d12_38) hr, hrun, hended, _, _, rfl, ?_, ?_, hFW.1, hFW.2.1, hFW.2.2.1, hFW.2.2.2.mono (by decide) (by decide)⟩
    · skip
      show Q_own_drawn Z p0 q0 q1 q2 gC h0 n0 _ T10.heap _
      exact ⟨b5, rfl, NA10, K10, gb5, sz5, P10_0⟩
    · show CHr Z own_EL s.vm s.heap T10.vm T10.heap
      rw [hh]
      exact RF
  · skip
    refine Go.back (t' := (s₁.setTop (mkF m 41 #[.val (.int p0), .val (.int q0), .val (.int q1), .val (.int q2), .val (.int ca0), .val (.int ca1), .val (.int ca2)] [(.int (1 : Int32)), (.int p0)]))) (fun u k => XS.ifYes X0.here hx rfl (pc0 := 25) (pc' := 39) rfl (hb hby own_d12_25) rfl (XT.i0_ne_t hc4) (by decide) (by decide) (XS.iloadN X0.here hx rfl (hb hby own_d12_39) rfl (XT.iconstV X0.here hx rfl (1 : Int32) (hb hby own_d12_40) (by decide) k))) ?_
    by_cases hc11 : p0 = (1 : Int32)
    · skip
      refine Go.back (t' := (s₁.setTop (mkF m 44 #[.val (.int p0), .val (.int q0), .val (.int q1), .val (.int q2), .val (.int ca0), .val (.int ca1), .val (.int ca2)] []))) (fun u k => XS.icmpNo X0.here hx rfl (hb hby own_d12_41) rfl (XT.ii_ne_f hc11) k) ?_
      obtain ⟨T12, h12, X12, e12, E12, A12, D12, -, st12⟩ := newO X0 hx hZ hown (hw _ (List.mem_of_getElem? (i := 77) rfl)) (hw _ (List.mem_of_getElem? (i := 78) rfl)) (hw _ (List.mem_of_getElem? (i := 79) rfl)) e0 (g := (mkF m 44 #[.val (.int p0), .val (.int q0), .val (.int q1), .val (.int q2), .val (.int ca0), .val (.int ca1), .val (.int ca2)] [])) rfl (hb hby own_d12_44) (by decide) (by decide)
      obtain ⟨b12, g12⟩ : ∃ z, z = h0.size := ⟨_, rfl⟩
      rw [← g12] at A12 D12 st12
      have gb12 : n0 ≤ b12 := Nat.le_trans Z0 (Nat.le_of_eq g12.symm)
      have sz12 : h0.size ≤ b12 := Nat.le_trans K0.1 (Nat.le_of_eq g12.symm)
      have Z12 : n0 ≤ h12.size := Nat.le_trans Z0 E12.1
      have K12 := K0.ext E12
      have O12 := Old0.ext E12
      have hk12 := Nat.le_trans hk0 E12.1
      have Sf12_b12 := Safe.ext E12 R0.1 (Safe.new (Nat.le_of_eq g12.symm))
      have R12 := R0.trans (CHr.ext E12 R0.1)
      refine Go.back (t' := (T12.setTop (mkF m 47 #[.val (.int p0), .val (.int q0), .val (.int q1), .val (.int q2), .val (.int ca0), .val (.int ca1), .val (.int ca2)] [(.ref b12)]))) st12 ?_
      refine Go.back (t' := (T12.setTop (mkF m 49 #[.val (.int p0), .val (.int q0), .val (.int q1), .val (.int q2), .val (.int ca0), .val (.int ca1), .val (.int ca2)] [(.int (1 : Int32)), (.ref b12), (.ref b12)]))) (fun u k => XS.dup X12.here hx rfl (hb hby own_d12_47) rfl rfl (XT.iconstV X12.here hx rfl (1 : Int32) (hb hby own_d12_48) (by decide) k)) ?_
      obtain ⟨T13, h13, k13, X13, e13, E13, A13, st13⟩ := newP X12 hx hZ (hw _ (List.mem_of_getElem? (i := 80) rfl)) e12 (g := (mkF m 49 #[.val (.int p0), .val (.int q0), .val (.int q1), .val (.int q2), .val (.int ca0), .val (.int ca1), .val (.int ca2)] [(.int (1 : Int32)), (.ref b12), (.ref b12)])) rfl (hb hby own_d12_49) rfl (by decide) (cap := 1) (by decide) (by decide) (by decide) (by decide)
      obtain ⟨b13, g13⟩ : ∃ z, z = h12.size := ⟨_, rfl⟩
      rw [← g13] at A13 st13
      have ne_b12_b13 : b12 ≠ b13 := Nat.ne_of_lt (Nat.lt_of_lt_of_le A12.lt (Nat.le_of_eq g13.symm))
      have gb13 : n0 ≤ b13 := Nat.le_trans Z12 (Nat.le_of_eq g13.symm)
      have sz13 : h0.size ≤ b13 := Nat.le_trans K12.1 (Nat.le_of_eq g13.symm)
      have Z13 : n0 ≤ h13.size := Nat.le_trans Z12 E13.1
      have K13 := K12.ext E13
      have O13 := O12.ext E13
      have hk13 := Nat.le_trans hk12 E13.1
      have Sf13_b12 := Safe.ext E13 R12.1 Sf12_b12
      have Sf13_b13 := Safe.ext E13 R12.1 (Safe.new (Nat.le_of_eq g13.symm))
      have R13 := R12.trans (CHr.ext E13 R12.1)
      have V13 : Arv Z h13 b13 k13 .char (1 : Int32) [(.int (0 : Int32))] (.int (0 : Int32)) := (Arv.new A13 (by decide)).pad (pad_rep [] (.int (0 : Int32)) 1)
      refine Go.back (t' := (T13.setTop (mkF m 51 #[.val (.int p0), .val (.int q0), .val (.int q1), .val (.int q2), .val (.int ca0), .val (.int ca1), .val (.int ca2)] [(.ref b13), (.ref b12), (.ref b12)]))) st13 ?_
      refine Go.back (t' := (T13.setTop (mkF m 55 #[.val (.int p0), .val (.int q0), .val (.int q1), .val (.int q2), .val (.int ca0), .val (.int ca1), .val (.int ca2)] [(.int ca0), (.int (0 : Int32)), (.ref b13), (.ref b13), (.ref b12), (.ref b12)]))) (fun u k => XS.dup X13.here hx rfl (hb hby own_d12_51) rfl rfl (XT.iconstV X13.here hx rfl (0 : Int32) (hb hby own_d12_52) (by decide) (XS.iload X13.here hx rfl (hb hby own_d12_53) rfl k))) ?_
      obtain ⟨cl14, Ar14, aq14, aS14, aM14, aH14, aG14⟩ := id V13
      obtain ⟨T15, h15, X15, e15, W15, st15⟩ := stC X13 hx hZ e13 Ar14 (j := (0 : Int32)) (inb_of aS14 ⟨by decide, by decide⟩) (g := (mkF m 55 #[.val (.int p0), .val (.int q0), .val (.int q1), .val (.int q2), .val (.int ca0), .val (.int ca1), .val (.int ca2)] [(.int ca0), (.int (0 : Int32)), (.ref b13), (.ref b13), (.ref b12), (.ref b12)])) rfl rfl (hb hby own_d12_55)
      have Z15 : n0 ≤ h15.size := Nat.le_trans Z13 (Keep.of_wr W15).1
      have K15 := K13.wr W15 (Or.inr sz13)
      have N15 := Fr.snoc X15 N0 gb13
      have O15 := O13.wr W15 gb13
      have hk15 := Nat.le_trans hk13 (Keep.of_wr W15).1
      have Sf15_b12 := Safe.wr W15 Sf13_b13 R13.1 Sf13_b12
      have Sf15_b13 := Safe.wr W15 Sf13_b13 R13.1 Sf13_b13
      have R15 := R13.trans (CHr.wr W15 Sf13_b13 R13.1)
      have V15 : Arv Z h15 b13 k13 .char (1 : Int32) [(.int (nar .char ca0))] (.int (0 : Int32)) := Arv.set Ar14 aq14 aS14 aM14 aH14 aG14 (fits_nar_char _) W15 0 rfl (Nat.le_of_ble_eq_true rfl)
      rw [hch0.2] at V15
      refine Go.back (t' := (T15.setTop (mkF m 56 #[.val (.int p0), .val (.int q0), .val (.int q1), .val (.int q2), .val (.int ca0), .val (.int ca1), .val (.int ca2)] [(.ref b13), (.ref b12), (.ref b12)]))) st15 ?_
      have hp16 : ∀ c ∈ ([ca0] : List Int32), ¬ c < 0 ∧ ¬ (255 : Int32) < c := by
        intro c hc
        simp only [List.mem_cons, List.not_mem_nil, or_false] at hc
        rcases hc with rfl
        · exact hch0.1
      have f17 := ((A12.ext E13).wr W15)
      have f18 := (((D12 (Or.inr (hw _ (List.mem_of_getElem? (i := 91) rfl))) (ty := (.array .byte)) (by decide)).ext E13).other W15 (Or.inl ne_b12_b13))
      have f19 := (((D12 (Or.inr (hw _ (List.mem_of_getElem? (i := 92) rfl))) (ty := .byte) (by decide)).ext E13).other W15 (Or.inl ne_b12_b13))
      have hws : ∀ d ∈ StrChars.Road.words, d.before a0 Z = true := fun d hd => hw d ((by decide +kernel : ∀ d ∈ StrChars.Road.words, d ∈ tables_1) d hd)
      obtain ⟨_, _, ⟨T16, L16, k16, n16⟩, -, X16, ⟨Lc16, hQ16, l16, y16, z16⟩, st16⟩ := X15.specialBack hx (y := (⟨"java/lang/String", "<init>", "([C)V"⟩ : MethodName)) rfl hown (mvT hZ (hw _ (List.mem_of_getElem? (i := 81) rfl))) (mvT hZ (hw _ (List.mem_of_getElem? (i := 82) rfl))) (mvT hZ (hw _ (List.mem_of_getElem? (i := 83) rfl))) (by decide) (StrChars.Road.backV (W := 1) hZ hws (kI := 4) (hw _ (List.mem_of_getElem? (i := 78) rfl)) (cs := ([ca0] : List Int32)) (bs := (([ca0] : List Int32)).map (fun c => c.toInt8.toInt32)) (n := 1) gb12 Z15 f17 f18 f19 V15 (SCS.ext O15.2) P5 rfl rfl (by decide) (by decide) hp16 rfl (by decide) (by decide)) (g := (mkF m 56 #[.val (.int p0), .val (.int q0), .val (.int q1), .val (.int q2), .val (.int ca0), .val (.int ca1), .val (.int ca2)] [(.ref b13), (.ref b12), (.ref b12)])) rfl (by rw [hml]; rfl) (Steps.refl _) (a := b12) (argsL := [(.ref b13)]) (rest := [(.ref b12)]) (lenOf own_pd1 rfl) rfl (by show 2 * 0 + _ ≤ _; exact Nat.le_of_eq rfl) (hb hby own_d12_56) (fun _ _ => ⟨rfl, e15, (by decide : 2 + 1 ≤ _), (by decide : 5 + 1 ≤ _)⟩)
      dsimp only [Pt.U, Pt.locs, Pt.cells, Pt.slots] at X16 l16 y16 z16 st16 hQ16
      subst l16 y16 z16
      obtain ⟨rfl, N16, Kc16, PE16, PC16, t16, kb16, gt16, szc_t16, net16, PV16, PA16⟩ := hQ16
      have NA16 := Fr.app N15 N16
      have Z16 : n0 ≤ T16.heap.size := Nat.le_trans Z15 Kc16.1
      have hk16 := Nat.le_trans hk15 Kc16.1
      have Sf16_b12 := Safe.keep Kc16 (sfS Sf15_b12 sf0) R15.1 Sf15_b12
      have Sf16_b13 := Safe.keep Kc16 (sfS Sf15_b12 sf0) R15.1 Sf15_b13
      have R16 := R15.trans (CHr.keep Kc16 (sfS Sf15_b12 sf0) R15.1)
      have K16 := K15.trans Kc16 (allS (Or.inr sz12) all0)
      have O16 := O15.keep Kc16 (allS gb12 all0)
      have sz_t16 : h0.size ≤ t16 := Nat.le_trans K15.1 szc_t16
      have ne_b12_t16 : b12 ≠ t16 := Nat.ne_of_lt (Nat.lt_of_lt_of_le f17.lt szc_t16)
      have ne_b13_t16 : b13 ≠ t16 := Nat.ne_of_lt (Nat.lt_of_lt_of_le V15.lt szc_t16)
      refine Go.back (t' := (T16.setTop (mkF m 59 #[.val (.int p0), .val (.int q0), .val (.int q1), .val (.int q2), .val (.int ca0), .val (.int ca1), .val (.int ca2)] [(.ref b12)]))) (fun u k => st16.trans k) ?_
      obtain ⟨fs, hr, hrun, hended, hFW⟩ := Jvm.Stand.leaveW (s := s) (vm₁ := s.vm) X16 hS0 hk16 (v := some (.ref b12)) (fun h => by rw [Bd.returns] at h; cases h)
      have RF := R16.trans (CHv.at (s := s) (vm0 := s.vm) X16 hZ hEL R16.1)
      refine ⟨_, _, retOut X16 hx (t := (.object "java/lang/String")) (i := .areturn) Bd.returns rfl (Or.inr (Or.inr (Or.inr (Or.inr ⟨rfl, rfl, rfl⟩)))) (hb hby own_d12_59) hr, hrun, hended, _, _, rfl, ?_, ?_, hFW.1, hFW.2.1, hFW.2.2.1, hFW.2.2.2.mono (by decide) (by decide)⟩
      · skip
        show Q_own_drawn Z p0 q0 q1 q2 gC h0 n0 _ T16.heap _
        exact ⟨b12, rfl, NA16, K16, gb12, sz12, PE16⟩
      · show CHr Z own_EL s.vm s.heap T16.vm T16.heap
        rw [hh]
        exact RF
    · skip
      refine Go.back (t' := (s₁.setTop (mkF m 62 #[.val (.int p0), .val (.int q0), .val (.int q1), .val (.int q2), .val (.int ca0), .val (.int ca1), .val (.int ca2)] [(.int (2 : Int32)), (.int p0)]))) (fun u k => XS.icmpYes X0.here hx rfl (pc0 := 41) (pc' := 60) rfl (hb hby own_d12_41) rfl (XT.ii_ne_t hc11) (by decide) (by decide) (XS.iloadN X0.here hx rfl (hb hby own_d12_60) rfl (XT.iconstV X0.here hx rfl (2 : Int32) (hb hby own_d12_61) (by decide) k))) ?_
      by_cases hc20 : p0 = (2 : Int32)
      · skip
        refine Go.back (t' := (s₁.setTop (mkF m 65 #[.val (.int p0), .val (.int q0), .val (.int q1), .val (.int q2), .val (.int ca0), .val (.int ca1), .val (.int ca2)] []))) (fun u k => XS.icmpNo X0.here hx rfl (hb hby own_d12_62) rfl (XT.ii_ne_f hc20) k) ?_
        obtain ⟨T21, h21, X21, e21, E21, A21, D21, -, st21⟩ := newO X0 hx hZ hown (hw _ (List.mem_of_getElem? (i := 77) rfl)) (hw _ (List.mem_of_getElem? (i := 78) rfl)) (hw _ (List.mem_of_getElem? (i := 79) rfl)) e0 (g := (mkF m 65 #[.val (.int p0), .val (.int q0), .val (.int q1), .val (.int q2), .val (.int ca0), .val (.int ca1), .val (.int ca2)] [])) rfl (hb hby own_d12_65) (by decide) (by decide)
        obtain ⟨b21, g21⟩ : ∃ z, z = h0.size := ⟨_, rfl⟩
        rw [← g21] at A21 D21 st21
        have gb21 : n0 ≤ b21 := Nat.le_trans Z0 (Nat.le_of_eq g21.symm)
        have sz21 : h0.size ≤ b21 := Nat.le_trans K0.1 (Nat.le_of_eq g21.symm)
        have Z21 : n0 ≤ h21.size := Nat.le_trans Z0 E21.1
        have K21 := K0.ext E21
        have O21 := Old0.ext E21
        have hk21 := Nat.le_trans hk0 E21.1
        have Sf21_b21 := Safe.ext E21 R0.1 (Safe.new (Nat.le_of_eq g21.symm))
        have R21 := R0.trans (CHr.ext E21 R0.1)
        refine Go.back (t' := (T21.setTop (mkF m 68 #[.val (.int p0), .val (.int q0), .val (.int q1), .val (.int q2), .val (.int ca0), .val (.int ca1), .val (.int ca2)] [(.ref b21)]))) st21 ?_
        refine Go.back (t' := (T21.setTop (mkF m 70 #[.val (.int p0), .val (.int q0), .val (.int q1), .val (.int q2), .val (.int ca0), .val (.int ca1), .val (.int ca2)] [(.int (2 : Int32)), (.ref b21), (.ref b21)]))) (fun u k => XS.dup X21.here hx rfl (hb hby own_d12_68) rfl rfl (XT.iconstV X21.here hx rfl (2 : Int32) (hb hby own_d12_69) (by decide) k)) ?_
        obtain ⟨T22, h22, k22, X22, e22, E22, A22, st22⟩ := newP X21 hx hZ (hw _ (List.mem_of_getElem? (i := 80) rfl)) e21 (g := (mkF m 70 #[.val (.int p0), .val (.int q0), .val (.int q1), .val (.int q2), .val (.int ca0), .val (.int ca1), .val (.int ca2)] [(.int (2 : Int32)), (.ref b21), (.ref b21)])) rfl (hb hby own_d12_70) rfl (by decide) (cap := 2) (by decide) (by decide) (by decide) (by decide)
        obtain ⟨b22, g22⟩ : ∃ z, z = h21.size := ⟨_, rfl⟩
        rw [← g22] at A22 st22
        have ne_b21_b22 : b21 ≠ b22 := Nat.ne_of_lt (Nat.lt_of_lt_of_le A21.lt (Nat.le_of_eq g22.symm))
        have gb22 : n0 ≤ b22 := Nat.le_trans Z21 (Nat.le_of_eq g22.symm)
        have sz22 : h0.size ≤ b22 := Nat.le_trans K21.1 (Nat.le_of_eq g22.symm)
        have Z22 : n0 ≤ h22.size := Nat.le_trans Z21 E22.1
        have K22 := K21.ext E22
        have O22 := O21.ext E22
        have hk22 := Nat.le_trans hk21 E22.1
        have Sf22_b21 := Safe.ext E22 R21.1 Sf21_b21
        have Sf22_b22 := Safe.ext E22 R21.1 (Safe.new (Nat.le_of_eq g22.symm))
        have R22 := R21.trans (CHr.ext E22 R21.1)
        have V22 : Arv Z h22 b22 k22 .char (2 : Int32) [(.int (0 : Int32)), (.int (0 : Int32))] (.int (0 : Int32)) := (Arv.new A22 (by decide)).pad (pad_rep [] (.int (0 : Int32)) 2)
        refine Go.back (t' := (T22.setTop (mkF m 72 #[.val (.int p0), .val (.int q0), .val (.int q1), .val (.int q2), .val (.int ca0), .val (.int ca1), .val (.int ca2)] [(.ref b22), (.ref b21), (.ref b21)]))) st22 ?_
        refine Go.back (t' := (T22.setTop (mkF m 76 #[.val (.int p0), .val (.int q0), .val (.int q1), .val (.int q2), .val (.int ca0), .val (.int ca1), .val (.int ca2)] [(.int ca0), (.int (0 : Int32)), (.ref b22), (.ref b22), (.ref b21), (.ref b21)]))) (fun u k => XS.dup X22.here hx rfl (hb hby own_d12_72) rfl rfl (XT.iconstV X22.here hx rfl (0 : Int32) (hb hby own_d12_73) (by decide) (XS.iload X22.here hx rfl (hb hby own_d12_74) rfl k))) ?_
        obtain ⟨cl23, Ar23, aq23, aS23, aM23, aH23, aG23⟩ := id V22
        obtain ⟨T24, h24, X24, e24, W24, st24⟩ := stC X22 hx hZ e22 Ar23 (j := (0 : Int32)) (inb_of aS23 ⟨by decide, by decide⟩) (g := (mkF m 76 #[.val (.int p0), .val (.int q0), .val (.int q1), .val (.int q2), .val (.int ca0), .val (.int ca1), .val (.int ca2)] [(.int ca0), (.int (0 : Int32)), (.ref b22), (.ref b22), (.ref b21), (.ref b21)])) rfl rfl (hb hby own_d12_76)
        have Z24 : n0 ≤ h24.size := Nat.le_trans Z22 (Keep.of_wr W24).1
        have K24 := K22.wr W24 (Or.inr sz22)
        have N24 := Fr.snoc X24 N0 gb22
        have O24 := O22.wr W24 gb22
        have hk24 := Nat.le_trans hk22 (Keep.of_wr W24).1
        have Sf24_b21 := Safe.wr W24 Sf22_b22 R22.1 Sf22_b21
        have Sf24_b22 := Safe.wr W24 Sf22_b22 R22.1 Sf22_b22
        have R24 := R22.trans (CHr.wr W24 Sf22_b22 R22.1)
        have V24 : Arv Z h24 b22 k22 .char (2 : Int32) [(.int (nar .char ca0)), (.int (0 : Int32))] (.int (0 : Int32)) := Arv.set Ar23 aq23 aS23 aM23 aH23 aG23 (fits_nar_char _) W24 0 rfl (Nat.le_of_ble_eq_true rfl)
        rw [hch0.2] at V24
        refine Go.back (t' := (T24.setTop (mkF m 77 #[.val (.int p0), .val (.int q0), .val (.int q1), .val (.int q2), .val (.int ca0), .val (.int ca1), .val (.int ca2)] [(.ref b22), (.ref b21), (.ref b21)]))) st24 ?_
        refine Go.back (t' := (T24.setTop (mkF m 81 #[.val (.int p0), .val (.int q0), .val (.int q1), .val (.int q2), .val (.int ca0), .val (.int ca1), .val (.int ca2)] [(.int ca1), (.int (1 : Int32)), (.ref b22), (.ref b22), (.ref b21), (.ref b21)]))) (fun u k => XS.dup X24.here hx rfl (hb hby own_d12_77) rfl rfl (XT.iconstV X24.here hx rfl (1 : Int32) (hb hby own_d12_78) (by decide) (XS.iload X24.here hx rfl (hb hby own_d12_79) rfl k))) ?_
        obtain ⟨cl25, Ar25, aq25, aS25, aM25, aH25, aG25⟩ := id V24
        obtain ⟨T26, h26, X26, e26, W26, st26⟩ := stC X24 hx hZ e24 Ar25 (j := (1 : Int32)) (inb_of aS25 ⟨by decide, by decide⟩) (g := (mkF m 81 #[.val (.int p0), .val (.int q0), .val (.int q1), .val (.int q2), .val (.int ca0), .val (.int ca1), .val (.int ca2)] [(.int ca1), (.int (1 : Int32)), (.ref b22), (.ref b22), (.ref b21), (.ref b21)])) rfl rfl (hb hby own_d12_81)
        have Z26 : n0 ≤ h26.size := Nat.le_trans Z24 (Keep.of_wr W26).1
        have K26 := K24.wr W26 (Or.inr sz22)
        have N26 := Fr.snoc X26 N24 gb22
        have O26 := O24.wr W26 gb22
        have hk26 := Nat.le_trans hk24 (Keep.of_wr W26).1
        have Sf26_b21 := Safe.wr W26 Sf24_b22 R24.1 Sf24_b21
        have Sf26_b22 := Safe.wr W26 Sf24_b22 R24.1 Sf24_b22
        have R26 := R24.trans (CHr.wr W26 Sf24_b22 R24.1)
        have V26 : Arv Z h26 b22 k22 .char (2 : Int32) [(.int ca0), (.int (nar .char ca1))] (.int (0 : Int32)) := Arv.set Ar25 aq25 aS25 aM25 aH25 aG25 (fits_nar_char _) W26 1 rfl (Nat.le_of_ble_eq_true rfl)
        rw [hch1.2] at V26
        refine Go.back (t' := (T26.setTop (mkF m 82 #[.val (.int p0), .val (.int q0), .val (.int q1), .val (.int q2), .val (.int ca0), .val (.int ca1), .val (.int ca2)] [(.ref b22), (.ref b21), (.ref b21)]))) st26 ?_
        have hp27 : ∀ c ∈ ([ca0, ca1] : List Int32), ¬ c < 0 ∧ ¬ (255 : Int32) < c := by
          intro c hc
          simp only [List.mem_cons, List.not_mem_nil, or_false] at hc
          rcases hc with rfl | rfl
          · exact hch0.1
          · exact hch1.1
        have f28 := (((A21.ext E22).wr W24).wr W26)
        have f29 := ((((D21 (Or.inr (hw _ (List.mem_of_getElem? (i := 91) rfl))) (ty := (.array .byte)) (by decide)).ext E22).other W24 (Or.inl ne_b21_b22)).other W26 (Or.inl ne_b21_b22))
        have f30 := ((((D21 (Or.inr (hw _ (List.mem_of_getElem? (i := 92) rfl))) (ty := .byte) (by decide)).ext E22).other W24 (Or.inl ne_b21_b22)).other W26 (Or.inl ne_b21_b22))
        have hws : ∀ d ∈ StrChars.Road.words, d.before a0 Z = true := fun d hd => hw d ((by decide +kernel : ∀ d ∈ StrChars.Road.words, d ∈ tables_1) d hd)
        obtain ⟨_, _, ⟨T27, L27, k27, n27⟩, -, X27, ⟨Lc27, hQ27, l27, y27, z27⟩, st27⟩ := X26.specialBack hx (y := (⟨"java/lang/String", "<init>", "([C)V"⟩ : MethodName)) rfl hown (mvT hZ (hw _ (List.mem_of_getElem? (i := 81) rfl))) (mvT hZ (hw _ (List.mem_of_getElem? (i := 82) rfl))) (mvT hZ (hw _ (List.mem_of_getElem? (i := 83) rfl))) (by decide) (StrChars.Road.backV (W := 1) hZ hws (kI := 4) (hw _ (List.mem_of_getElem? (i := 78) rfl)) (cs := ([ca0, ca1] : List Int32)) (bs := (([ca0, ca1] : List Int32)).map (fun c => c.toInt8.toInt32)) (n := 2) gb21 Z26 f28 f29 f30 V26 (SCS.ext O26.2) P5 rfl rfl (by decide) (by decide) hp27 rfl (by decide) (by decide)) (g := (mkF m 82 #[.val (.int p0), .val (.int q0), .val (.int q1), .val (.int q2), .val (.int ca0), .val (.int ca1), .val (.int ca2)] [(.ref b22), (.ref b21), (.ref b21)])) rfl (by rw [hml]; rfl) (Steps.refl _) (a := b21) (argsL := [(.ref b22)]) (rest := [(.ref b21)]) (lenOf own_pd1 rfl) rfl (by show 2 * 0 + _ ≤ _; exact Nat.le_of_eq rfl) (hb hby own_d12_82) (fun _ _ => ⟨rfl, e26, (by decide : 2 + 1 ≤ _), (by decide : 6 + 2 ≤ _)⟩)
        dsimp only [Pt.U, Pt.locs, Pt.cells, Pt.slots] at X27 l27 y27 z27 st27 hQ27
        subst l27 y27 z27
        obtain ⟨rfl, N27, Kc27, PE27, PC27, t27, kb27, gt27, szc_t27, net27, PV27, PA27⟩ := hQ27
        have NA27 := Fr.app N26 N27
        have Z27 : n0 ≤ T27.heap.size := Nat.le_trans Z26 Kc27.1
        have hk27 := Nat.le_trans hk26 Kc27.1
        have Sf27_b21 := Safe.keep Kc27 (sfS Sf26_b21 sf0) R26.1 Sf26_b21
        have Sf27_b22 := Safe.keep Kc27 (sfS Sf26_b21 sf0) R26.1 Sf26_b22
        have R27 := R26.trans (CHr.keep Kc27 (sfS Sf26_b21 sf0) R26.1)
        have K27 := K26.trans Kc27 (allS (Or.inr sz21) all0)
        have O27 := O26.keep Kc27 (allS gb21 all0)
        have sz_t27 : h0.size ≤ t27 := Nat.le_trans K26.1 szc_t27
        have ne_b21_t27 : b21 ≠ t27 := Nat.ne_of_lt (Nat.lt_of_lt_of_le f28.lt szc_t27)
        have ne_b22_t27 : b22 ≠ t27 := Nat.ne_of_lt (Nat.lt_of_lt_of_le V26.lt szc_t27)
        refine Go.back (t' := (T27.setTop (mkF m 85 #[.val (.int p0), .val (.int q0), .val (.int q1), .val (.int q2), .val (.int ca0), .val (.int ca1), .val (.int ca2)] [(.ref b21)]))) (fun u k => st27.trans k) ?_
        obtain ⟨fs, hr, hrun, hended, hFW⟩ := Jvm.Stand.leaveW (s := s) (vm₁ := s.vm) X27 hS0 hk27 (v := some (.ref b21)) (fun h => by rw [Bd.returns] at h; cases h)
        have RF := R27.trans (CHv.at (s := s) (vm0 := s.vm) X27 hZ hEL R27.1)
        refine ⟨_, _, retOut X27 hx (t := (.object "java/lang/String")) (i := .areturn) Bd.returns rfl (Or.inr (Or.inr (Or.inr (Or.inr ⟨rfl, rfl, rfl⟩)))) (hb hby own_d12_85) hr, hrun, hended, _, _, rfl, ?_, ?_, hFW.1, hFW.2.1, hFW.2.2.1, hFW.2.2.2.mono (by decide) (by decide)⟩
        · skip
          show Q_own_drawn Z p0 q0 q1 q2 gC h0 n0 _ T27.heap _
          exact ⟨b21, rfl, NA27, K27, gb21, sz21, PE27⟩
        · show CHr Z own_EL s.vm s.heap T27.vm T27.heap
          rw [hh]
          exact RF
      · skip
        refine Go.back (t' := (s₁.setTop (mkF m 86 #[.val (.int p0), .val (.int q0), .val (.int q1), .val (.int q2), .val (.int ca0), .val (.int ca1), .val (.int ca2)] []))) (fun u k => XS.icmpYes X0.here hx rfl (pc0 := 62) (pc' := 86) rfl (hb hby own_d12_62) rfl (XT.ii_ne_t hc20) (by decide) (by decide) k) ?_
        obtain ⟨T31, h31, X31, e31, E31, A31, D31, -, st31⟩ := newO X0 hx hZ hown (hw _ (List.mem_of_getElem? (i := 77) rfl)) (hw _ (List.mem_of_getElem? (i := 78) rfl)) (hw _ (List.mem_of_getElem? (i := 79) rfl)) e0 (g := (mkF m 86 #[.val (.int p0), .val (.int q0), .val (.int q1), .val (.int q2), .val (.int ca0), .val (.int ca1), .val (.int ca2)] [])) rfl (hb hby own_d12_86) (by decide) (by decide)
        obtain ⟨b31, g31⟩ : ∃ z, z = h0.size := ⟨_, rfl⟩
        rw [← g31] at A31 D31 st31
        have gb31 : n0 ≤ b31 := Nat.le_trans Z0 (Nat.le_of_eq g31.symm)
        have sz31 : h0.size ≤ b31 := Nat.le_trans K0.1 (Nat.le_of_eq g31.symm)
        have Z31 : n0 ≤ h31.size := Nat.le_trans Z0 E31.1
        have K31 := K0.ext E31
        have O31 := Old0.ext E31
        have hk31 := Nat.le_trans hk0 E31.1
        have Sf31_b31 := Safe.ext E31 R0.1 (Safe.new (Nat.le_of_eq g31.symm))
        have R31 := R0.trans (CHr.ext E31 R0.1)
        refine Go.back (t' := (T31.setTop (mkF m 89 #[.val (.int p0), .val (.int q0), .val (.int q1), .val (.int q2), .val (.int ca0), .val (.int ca1), .val (.int ca2)] [(.ref b31)]))) st31 ?_
        refine Go.back (t' := (T31.setTop (mkF m 91 #[.val (.int p0), .val (.int q0), .val (.int q1), .val (.int q2), .val (.int ca0), .val (.int ca1), .val (.int ca2)] [(.int (3 : Int32)), (.ref b31), (.ref b31)]))) (fun u k => XS.dup X31.here hx rfl (hb hby own_d12_89) rfl rfl (XT.iconstV X31.here hx rfl (3 : Int32) (hb hby own_d12_90) (by decide) k)) ?_
        obtain ⟨T32, h32, k32, X32, e32, E32, A32, st32⟩ := newP X31 hx hZ (hw _ (List.mem_of_getElem? (i := 80) rfl)) e31 (g := (mkF m 91 #[.val (.int p0), .val (.int q0), .val (.int q1), .val (.int q2), .val (.int ca0), .val (.int ca1), .val (.int ca2)] [(.int (3 : Int32)), (.ref b31), (.ref b31)])) rfl (hb hby own_d12_91) rfl (by decide) (cap := 3) (by decide) (by decide) (by decide) (by decide)
        obtain ⟨b32, g32⟩ : ∃ z, z = h31.size := ⟨_, rfl⟩
        rw [← g32] at A32 st32
        have ne_b31_b32 : b31 ≠ b32 := Nat.ne_of_lt (Nat.lt_of_lt_of_le A31.lt (Nat.le_of_eq g32.symm))
        have gb32 : n0 ≤ b32 := Nat.le_trans Z31 (Nat.le_of_eq g32.symm)
        have sz32 : h0.size ≤ b32 := Nat.le_trans K31.1 (Nat.le_of_eq g32.symm)
        have Z32 : n0 ≤ h32.size := Nat.le_trans Z31 E32.1
        have K32 := K31.ext E32
        have O32 := O31.ext E32
        have hk32 := Nat.le_trans hk31 E32.1
        have Sf32_b31 := Safe.ext E32 R31.1 Sf31_b31
        have Sf32_b32 := Safe.ext E32 R31.1 (Safe.new (Nat.le_of_eq g32.symm))
        have R32 := R31.trans (CHr.ext E32 R31.1)
        have V32 : Arv Z h32 b32 k32 .char (3 : Int32) [(.int (0 : Int32)), (.int (0 : Int32)), (.int (0 : Int32))] (.int (0 : Int32)) := (Arv.new A32 (by decide)).pad (pad_rep [] (.int (0 : Int32)) 3)
        refine Go.back (t' := (T32.setTop (mkF m 93 #[.val (.int p0), .val (.int q0), .val (.int q1), .val (.int q2), .val (.int ca0), .val (.int ca1), .val (.int ca2)] [(.ref b32), (.ref b31), (.ref b31)]))) st32 ?_
        refine Go.back (t' := (T32.setTop (mkF m 97 #[.val (.int p0), .val (.int q0), .val (.int q1), .val (.int q2), .val (.int ca0), .val (.int ca1), .val (.int ca2)] [(.int ca0), (.int (0 : Int32)), (.ref b32), (.ref b32), (.ref b31), (.ref b31)]))) (fun u k => XS.dup X32.here hx rfl (hb hby own_d12_93) rfl rfl (XT.iconstV X32.here hx rfl (0 : Int32) (hb hby own_d12_94) (by decide) (XS.iload X32.here hx rfl (hb hby own_d12_95) rfl k))) ?_
        obtain ⟨cl33, Ar33, aq33, aS33, aM33, aH33, aG33⟩ := id V32
        obtain ⟨T34, h34, X34, e34, W34, st34⟩ := stC X32 hx hZ e32 Ar33 (j := (0 : Int32)) (inb_of aS33 ⟨by decide, by decide⟩) (g := (mkF m 97 #[.val (.int p0), .val (.int q0), .val (.int q1), .val (.int q2), .val (.int ca0), .val (.int ca1), .val (.int ca2)] [(.int ca0), (.int (0 : Int32)), (.ref b32), (.ref b32), (.ref b31), (.ref b31)])) rfl rfl (hb hby own_d12_97)
        have Z34 : n0 ≤ h34.size := Nat.le_trans Z32 (Keep.of_wr W34).1
        have K34 := K32.wr W34 (Or.inr sz32)
        have N34 := Fr.snoc X34 N0 gb32
        have O34 := O32.wr W34 gb32
        have hk34 := Nat.le_trans hk32 (Keep.of_wr W34).1
        have Sf34_b31 := Safe.wr W34 Sf32_b32 R32.1 Sf32_b31
        have Sf34_b32 := Safe.wr W34 Sf32_b32 R32.1 Sf32_b32
        have R34 := R32.trans (CHr.wr W34 Sf32_b32 R32.1)
        have V34 : Arv Z h34 b32 k32 .char (3 : Int32) [(.int (nar .char ca0)), (.int (0 : Int32)), (.int (0 : Int32))] (.int (0 : Int32)) := Arv.set Ar33 aq33 aS33 aM33 aH33 aG33 (fits_nar_char _) W34 0 rfl (Nat.le_of_ble_eq_true rfl)
        rw [hch0.2] at V34
        refine Go.back (t' := (T34.setTop (mkF m 98 #[.val (.int p0), .val (.int q0), .val (.int q1), .val (.int q2), .val (.int ca0), .val (.int ca1), .val (.int ca2)] [(.ref b32), (.ref b31), (.ref b31)]))) st34 ?_
        refine Go.back (t' := (T34.setTop (mkF m 102 #[.val (.int p0), .val (.int q0), .val (.int q1), .val (.int q2), .val (.int ca0), .val (.int ca1), .val (.int ca2)] [(.int ca1), (.int (1 : Int32)), (.ref b32), (.ref b32), (.ref b31), (.ref b31)]))) (fun u k => XS.dup X34.here hx rfl (hb hby own_d12_98) rfl rfl (XT.iconstV X34.here hx rfl (1 : Int32) (hb hby own_d12_99) (by decide) (XS.iload X34.here hx rfl (hb hby own_d12_100) rfl k))) ?_
        obtain ⟨cl35, Ar35, aq35, aS35, aM35, aH35, aG35⟩ := id V34
        obtain ⟨T36, h36, X36, e36, W36, st36⟩ := stC X34 hx hZ e34 Ar35 (j := (1 : Int32)) (inb_of aS35 ⟨by decide, by decide⟩) (g := (mkF m 102 #[.val (.int p0), .val (.int q0), .val (.int q1), .val (.int q2), .val (.int ca0), .val (.int ca1), .val (.int ca2)] [(.int ca1), (.int (1 : Int32)), (.ref b32), (.ref b32), (.ref b31), (.ref b31)])) rfl rfl (hb hby own_d12_102)
        have Z36 : n0 ≤ h36.size := Nat.le_trans Z34 (Keep.of_wr W36).1
        have K36 := K34.wr W36 (Or.inr sz32)
        have N36 := Fr.snoc X36 N34 gb32
        have O36 := O34.wr W36 gb32
        have hk36 := Nat.le_trans hk34 (Keep.of_wr W36).1
        have Sf36_b31 := Safe.wr W36 Sf34_b32 R34.1 Sf34_b31
        have Sf36_b32 := Safe.wr W36 Sf34_b32 R34.1 Sf34_b32
        have R36 := R34.trans (CHr.wr W36 Sf34_b32 R34.1)
        have V36 : Arv Z h36 b32 k32 .char (3 : Int32) [(.int ca0), (.int (nar .char ca1)), (.int (0 : Int32))] (.int (0 : Int32)) := Arv.set Ar35 aq35 aS35 aM35 aH35 aG35 (fits_nar_char _) W36 1 rfl (Nat.le_of_ble_eq_true rfl)
        rw [hch1.2] at V36
        refine Go.back (t' := (T36.setTop (mkF m 103 #[.val (.int p0), .val (.int q0), .val (.int q1), .val (.int q2), .val (.int ca0), .val (.int ca1), .val (.int ca2)] [(.ref b32), (.ref b31), (.ref b31)]))) st36 ?_
        refine Go.back (t' := (T36.setTop (mkF m 107 #[.val (.int p0), .val (.int q0), .val (.int q1), .val (.int q2), .val (.int ca0), .val (.int ca1), .val (.int ca2)] [(.int ca2), (.int (2 : Int32)), (.ref b32), (.ref b32), (.ref b31), (.ref b31)]))) (fun u k => XS.dup X36.here hx rfl (hb hby own_d12_103) rfl rfl (XT.iconstV X36.here hx rfl (2 : Int32) (hb hby own_d12_104) (by decide) (XS.iload X36.here hx rfl (hb hby own_d12_105) rfl k))) ?_
        obtain ⟨cl37, Ar37, aq37, aS37, aM37, aH37, aG37⟩ := id V36
        obtain ⟨T38, h38, X38, e38, W38, st38⟩ := stC X36 hx hZ e36 Ar37 (j := (2 : Int32)) (inb_of aS37 ⟨by decide, by decide⟩) (g := (mkF m 107 #[.val (.int p0), .val (.int q0), .val (.int q1), .val (.int q2), .val (.int ca0), .val (.int ca1), .val (.int ca2)] [(.int ca2), (.int (2 : Int32)), (.ref b32), (.ref b32), (.ref b31), (.ref b31)])) rfl rfl (hb hby own_d12_107)
        have Z38 : n0 ≤ h38.size := Nat.le_trans Z36 (Keep.of_wr W38).1
        have K38 := K36.wr W38 (Or.inr sz32)
        have N38 := Fr.snoc X38 N36 gb32
        have O38 := O36.wr W38 gb32
        have hk38 := Nat.le_trans hk36 (Keep.of_wr W38).1
        have Sf38_b31 := Safe.wr W38 Sf36_b32 R36.1 Sf36_b31
        have Sf38_b32 := Safe.wr W38 Sf36_b32 R36.1 Sf36_b32
        have R38 := R36.trans (CHr.wr W38 Sf36_b32 R36.1)
        have V38 : Arv Z h38 b32 k32 .char (3 : Int32) [(.int ca0), (.int ca1), (.int (nar .char ca2))] (.int (0 : Int32)) := Arv.set Ar37 aq37 aS37 aM37 aH37 aG37 (fits_nar_char _) W38 2 rfl (Nat.le_of_ble_eq_true rfl)
        rw [hch2.2] at V38
        refine Go.back (t' := (T38.setTop (mkF m 108 #[.val (.int p0), .val (.int q0), .val (.int q1), .val (.int q2), .val (.int ca0), .val (.int ca1), .val (.int ca2)] [(.ref b32), (.ref b31), (.ref b31)]))) st38 ?_
        have hp39 : ∀ c ∈ ([ca0, ca1, ca2] : List Int32), ¬ c < 0 ∧ ¬ (255 : Int32) < c := by
          intro c hc
          simp only [List.mem_cons, List.not_mem_nil, or_false] at hc
          rcases hc with rfl | rfl | rfl
          · exact hch0.1
          · exact hch1.1
          · exact hch2.1
        have f40 := ((((A31.ext E32).wr W34).wr W36).wr W38)
        have f41 := (((((D31 (Or.inr (hw _ (List.mem_of_getElem? (i := 91) rfl))) (ty := (.array .byte)) (by decide)).ext E32).other W34 (Or.inl ne_b31_b32)).other W36 (Or.inl ne_b31_b32)).other W38 (Or.inl ne_b31_b32))
        have f42 := (((((D31 (Or.inr (hw _ (List.mem_of_getElem? (i := 92) rfl))) (ty := .byte) (by decide)).ext E32).other W34 (Or.inl ne_b31_b32)).other W36 (Or.inl ne_b31_b32)).other W38 (Or.inl ne_b31_b32))
        have hws : ∀ d ∈ StrChars.Road.words, d.before a0 Z = true := fun d hd => hw d ((by decide +kernel : ∀ d ∈ StrChars.Road.words, d ∈ tables_1) d hd)
        obtain ⟨_, _, ⟨T39, L39, k39, n39⟩, -, X39, ⟨Lc39, hQ39, l39, y39, z39⟩, st39⟩ := X38.specialBack hx (y := (⟨"java/lang/String", "<init>", "([C)V"⟩ : MethodName)) rfl hown (mvT hZ (hw _ (List.mem_of_getElem? (i := 81) rfl))) (mvT hZ (hw _ (List.mem_of_getElem? (i := 82) rfl))) (mvT hZ (hw _ (List.mem_of_getElem? (i := 83) rfl))) (by decide) (StrChars.Road.backV (W := 1) hZ hws (kI := 4) (hw _ (List.mem_of_getElem? (i := 78) rfl)) (cs := ([ca0, ca1, ca2] : List Int32)) (bs := (([ca0, ca1, ca2] : List Int32)).map (fun c => c.toInt8.toInt32)) (n := 3) gb31 Z38 f40 f41 f42 V38 (SCS.ext O38.2) P5 rfl rfl (by decide) (by decide) hp39 rfl (by decide) (by decide)) (g := (mkF m 108 #[.val (.int p0), .val (.int q0), .val (.int q1), .val (.int q2), .val (.int ca0), .val (.int ca1), .val (.int ca2)] [(.ref b32), (.ref b31), (.ref b31)])) rfl (by rw [hml]; rfl) (Steps.refl _) (a := b31) (argsL := [(.ref b32)]) (rest := [(.ref b31)]) (lenOf own_pd1 rfl) rfl (by show 2 * 0 + _ ≤ _; exact Nat.le_of_eq rfl) (hb hby own_d12_108) (fun _ _ => ⟨rfl, e38, (by decide : 2 + 1 ≤ _), (by decide : 7 + 3 ≤ _)⟩)
        dsimp only [Pt.U, Pt.locs, Pt.cells, Pt.slots] at X39 l39 y39 z39 st39 hQ39
        subst l39 y39 z39
        obtain ⟨rfl, N39, Kc39, PE39, PC39, t39, kb39, gt39, szc_t39, net39, PV39, PA39⟩ := hQ39
        have NA39 := Fr.app N38 N39
        have Z39 : n0 ≤ T39.heap.size := Nat.le_trans Z38 Kc39.1
        have hk39 := Nat.le_trans hk38 Kc39.1
        have Sf39_b31 := Safe.keep Kc39 (sfS Sf38_b31 sf0) R38.1 Sf38_b31
        have Sf39_b32 := Safe.keep Kc39 (sfS Sf38_b31 sf0) R38.1 Sf38_b32
        have R39 := R38.trans (CHr.keep Kc39 (sfS Sf38_b31 sf0) R38.1)
        have K39 := K38.trans Kc39 (allS (Or.inr sz31) all0)
        have O39 := O38.keep Kc39 (allS gb31 all0)
        have sz_t39 : h0.size ≤ t39 := Nat.le_trans K38.1 szc_t39
        have ne_b31_t39 : b31 ≠ t39 := Nat.ne_of_lt (Nat.lt_of_lt_of_le f40.lt szc_t39)
        have ne_b32_t39 : b32 ≠ t39 := Nat.ne_of_lt (Nat.lt_of_lt_of_le V38.lt szc_t39)
        refine Go.back (t' := (T39.setTop (mkF m 111 #[.val (.int p0), .val (.int q0), .val (.int q1), .val (.int q2), .val (.int ca0), .val (.int ca1), .val (.int ca2)] [(.ref b31)]))) (fun u k => st39.trans k) ?_
        obtain ⟨fs, hr, hrun, hended, hFW⟩ := Jvm.Stand.leaveW (s := s) (vm₁ := s.vm) X39 hS0 hk39 (v := some (.ref b31)) (fun h => by rw [Bd.returns] at h; cases h)
        have RF := R39.trans (CHv.at (s := s) (vm0 := s.vm) X39 hZ hEL R39.1)
        refine ⟨_, _, retOut X39 hx (t := (.object "java/lang/String")) (i := .areturn) Bd.returns rfl (Or.inr (Or.inr (Or.inr (Or.inr ⟨rfl, rfl, rfl⟩)))) (hb hby own_d12_111) hr, hrun, hended, _, _, rfl, ?_, ?_, hFW.1, hFW.2.1, hFW.2.2.1, hFW.2.2.2.mono (by decide) (by decide)⟩
        · skip
          show Q_own_drawn Z p0 q0 q1 q2 gC h0 n0 _ T39.heap _
          exact ⟨b31, rfl, NA39, K39, gb31, sz31, PE39⟩
        · show CHr Z own_EL s.vm s.heap T39.vm T39.heap
          rw [hh]
          exact RF
def F_own_min (p0 : Int32) (p1 : Int32) : Int32 := (if p1 < p0 then p1 else p0)
theorem own_d24_0 : decode jdk_29_method_69_code 0 = .ok (.iload_n 0, 1) := by decide +kernel
theorem own_d24_1 : decode jdk_29_method_69_code 1 = .ok (.iload_n 1, 1) := by decide +kernel
theorem own_d24_2 : decode jdk_29_method_69_code 2 = .ok (.if_icmp .gt 7, 3) := by decide +kernel
theorem own_d24_5 : decode jdk_29_method_69_code 5 = .ok (.iload_n 0, 1) := by decide +kernel
theorem own_d24_6 : decode jdk_29_method_69_code 6 = .ok (.goto 4, 3) := by decide +kernel
theorem own_d24_9 : decode jdk_29_method_69_code 9 = .ok (.iload_n 1, 1) := by decide +kernel
theorem own_d24_10 : decode jdk_29_method_69_code 10 = .ok (.ireturn, 1) := by decide +kernel
theorem own_ef_own_min (m : MethodId) (x0 : Int32) (x1 : Int32) : entryFrame m #[(.int x0), (.int x1)] 2 = mkF m 0 #[.val (.int x0), .val (.int x1)] [] := by first | (simp [entryFrame, mkF, argsToLocals, Value.category]; done) | rfl
def Q_own_min (Z : State) (p0 : Int32) (p1 : Int32) (h0 : Heap) (n0 : Nat) (v : Option Value) (h : Heap) (L : List Loc) : Prop := v = some (.int (F_own_min p0 p1)) ∧ Fr n0 L ∧ h = h0
set_option maxRecDepth 65536 in
set_option maxHeartbeats 40000000 in
theorem own_min (l : Launch) (Z : State) (a0 : Array Value) (hw : ∀ d ∈ tables_1, d.before a0 Z = true) (ws : List Jvm.Cond) (p0 : Int32) (p1 : Int32) (h0 : Heap) (n0 : Nat) (Z0 : n0 ≤ h0.size) :
    MetFree l (⟨"java/lang/Math", "min", "(II)I"⟩ : MethodName) (head1 (Jvm.Cond.code (⟨"java/lang/Math", "min", "(II)I"⟩ : MethodName) jdk_29_method_69_code 2 (some .int) :: ws) ({ frames := 0, cells := 0, slots := 0, locals := 0 } : Room)) (fun as_ U => as_ = #[(.int p0), (.int p1)] ∧ Z.Warmed39 U.vm ∧ U.heap = h0) (fun _ _ _ _ _ => True) (fun _ U o U' => ∃ v L, o = .returned v ∧ Q_own_min Z p0 p1 h0 n0 v U'.heap L ∧ FrameEnd U o U' L ({ frames := 0, cells := 0, slots := 0, locals := 0 } : Room).cells ({ frames := 0, cells := 0, slots := 0, locals := 0 } : Room).slots) := by
  refine MetFree.of_bodySF (Jvm.Free.JP.mathPlain rfl (by decide +kernel)) hisR ?_
  intro p e s m args below meth c s₁ Bd hml0 hP hK
  obtain ⟨rfl, hZ, hh⟩ := hP
  have hx := Bd.exec
  have hby := Bd.bytes
  have hml : c.maxLocals = 2 := hml0
  have hown : s.vm.findClass "java/lang/Math" = some m.cls := findClass_of_methodNamed Bd.named
  have hnm := (name_of_methodNamed Bd.named Bd.method).1
  have X0 : Stand p l e ({ frames := 0, cells := 0, slots := 0, locals := 0 } : Room) s m #[(.int p0), (.int p1)] below meth c s₁ [] 0 0 := Stand.of_body Bd
  have e0 : s₁.heap = h0 := by rw [← hh, Bd.state]; rfl
  have N0 := Fr.nil n0
  have K0 := Keep.refl h0 []
  show Go p e below (own_F s below (Q_own_min Z p0 p1 h0 n0) ({ frames := 0, cells := 0, slots := 0, locals := 0 } : Room).cells ({ frames := 0, cells := 0, slots := 0, locals := 0 } : Room).slots) (s₁.setTop (entryFrame m #[(.int p0), (.int p1)] 2))
  rw [own_ef_own_min m p0 p1]
  refine Go.back (t' := (s₁.setTop (mkF m 2 #[.val (.int p0), .val (.int p1)] [(.int p1), (.int p0)]))) (fun u k => XS.iloadN X0.here hx rfl (hb hby own_d24_0) rfl (XS.iloadN X0.here hx rfl (hb hby own_d24_1) rfl k)) ?_
  by_cases hc1 : p1 < p0
  · skip
    refine Go.back (t' := (s₁.setTop (mkF m 10 #[.val (.int p0), .val (.int p1)] [(.int p1)]))) (fun u k => XS.icmpYes X0.here hx rfl (pc0 := 2) (pc' := 9) rfl (hb hby own_d24_2) rfl (XT.ii_gt_t hc1) (by decide) (by decide) (XS.iloadN X0.here hx rfl (hb hby own_d24_9) rfl k)) ?_
    obtain ⟨fs, hr, hrun, hended, hW, hsame⟩ := X0.leave (v := some (.int p1)) (fun h => by rw [Bd.returns] at h; cases h)
    refine ⟨_, _, retI X0 hx Bd.returns (hb hby own_d24_10) hr, hrun, hended, _, _, rfl, ?_, ⟨_, rfl⟩, hW, hsame.mono (by decide) (by decide)⟩
    show Q_own_min Z p0 p1 h0 n0 _ s₁.heap _
    rw [e0]
    exact ⟨by simp only [F_own_min, if_pos hc1], N0, rfl⟩
  · skip
    refine Go.back (t' := (s₁.setTop (mkF m 10 #[.val (.int p0), .val (.int p1)] [(.int p0)]))) (fun u k => XS.icmpNo X0.here hx rfl (hb hby own_d24_2) rfl (XT.ii_gt_f hc1) (XS.iloadN X0.here hx rfl (hb hby own_d24_5) rfl (XS.goto X0.here hx rfl (pc0 := 6) (pc' := 10) rfl (hb hby own_d24_6) (by decide) (by decide) k))) ?_
    obtain ⟨fs, hr, hrun, hended, hW, hsame⟩ := X0.leave (v := some (.int p0)) (fun h => by rw [Bd.returns] at h; cases h)
    refine ⟨_, _, retI X0 hx Bd.returns (hb hby own_d24_10) hr, hrun, hended, _, _, rfl, ?_, ⟨_, rfl⟩, hW, hsame.mono (by decide) (by decide)⟩
    show Q_own_min Z p0 p1 h0 n0 _ s₁.heap _
    rw [e0]
    exact ⟨by simp only [F_own_min, if_neg hc1], N0, rfl⟩
theorem own_pd2 : parseMethodDescriptor "(II)I" = some ⟨[.int, .int], some .int⟩ := by decide +kernel
theorem own_pn2 : plainName "java/util/Arrays" = true := by first | (simp [plainName, overriddenIn]; done) | decide +kernel
theorem own_d23_0 : decode jdk_65_method_120_code 0 = .ok (.aload_n 2, 1) := by decide +kernel
theorem own_d23_1 : decode jdk_65_method_120_code 1 = .ok (.ldc 110, 2) := by decide +kernel
theorem own_d23_3 : decode jdk_65_method_120_code 3 = .ok (.if_acmp .ne 10, 3) := by decide +kernel
theorem own_d23_6 : decode jdk_65_method_120_code 6 = .ok (.iload_n 1, 1) := by decide +kernel
theorem own_d23_7 : decode jdk_65_method_120_code 7 = .ok (.anewarray 2, 3) := by decide +kernel
theorem own_d23_10 : decode jdk_65_method_120_code 10 = .ok (.goto 14, 3) := by decide +kernel
theorem own_d23_13 : decode jdk_65_method_120_code 13 = .ok (.aload_n 2, 1) := by decide +kernel
theorem own_d23_14 : decode jdk_65_method_120_code 14 = .ok (.invokevirtual 90, 3) := by decide +kernel
theorem own_d23_17 : decode jdk_65_method_120_code 17 = .ok (.iload_n 1, 1) := by decide +kernel
theorem own_d23_18 : decode jdk_65_method_120_code 18 = .ok (.invokestatic 95, 3) := by decide +kernel
theorem own_d23_21 : decode jdk_65_method_120_code 21 = .ok (.checkcast 110, 3) := by decide +kernel
theorem own_d23_24 : decode jdk_65_method_120_code 24 = .ok (.astore_n 3, 1) := by decide +kernel
theorem own_d23_25 : decode jdk_65_method_120_code 25 = .ok (.aload_n 0, 1) := by decide +kernel
theorem own_d23_26 : decode jdk_65_method_120_code 26 = .ok (.iconst 0, 1) := by decide +kernel
theorem own_d23_27 : decode jdk_65_method_120_code 27 = .ok (.aload_n 3, 1) := by decide +kernel
theorem own_d23_28 : decode jdk_65_method_120_code 28 = .ok (.iconst 0, 1) := by decide +kernel
theorem own_d23_29 : decode jdk_65_method_120_code 29 = .ok (.aload_n 0, 1) := by decide +kernel
theorem own_d23_30 : decode jdk_65_method_120_code 30 = .ok (.arraylength, 1) := by decide +kernel
theorem own_d23_31 : decode jdk_65_method_120_code 31 = .ok (.iload_n 1, 1) := by decide +kernel
theorem own_d23_32 : decode jdk_65_method_120_code 32 = .ok (.invokestatic 304, 3) := by decide +kernel
theorem own_d23_35 : decode jdk_65_method_120_code 35 = .ok (.invokestatic 150, 3) := by decide +kernel
theorem own_d23_38 : decode jdk_65_method_120_code 38 = .ok (.aload_n 3, 1) := by decide +kernel
theorem own_d23_39 : decode jdk_65_method_120_code 39 = .ok (.areturn, 1) := by decide +kernel
theorem own_ef_own_cp3 (m : MethodId) (x0 : Addr) (x2 : Addr) : entryFrame m #[(.ref x0), (.int (0 : Int32)), (.ref x2)] 4 = mkF m 0 #[.val (.ref x0), .val (.int (0 : Int32)), .val (.ref x2), .unset] [] := by first | (simp [entryFrame, mkF, argsToLocals, Value.category]; done) | rfl
def Q_own_cp3 (Z : State) (a : Addr) (mO : Addr) (ka : ClassId) (h0 : Heap) (n0 : Nat) (v : Option Value) (h : Heap) (L : List Loc) : Prop := ∃ r : Addr, ∃ kr : ClassId, v = some (.ref r) ∧ Fr n0 L ∧ Keep h0 h [] ∧ n0 ≤ r ∧ h0.size ≤ r ∧ Arv Z h r kr (.object "java/lang/Object") (0 : Int32) [] .null
set_option maxRecDepth 65536 in
set_option maxHeartbeats 40000000 in
theorem own_cp3 (l : Launch) (Z : State) (a0 : Array Value) (hw : ∀ d ∈ tables_1, d.before a0 Z = true) (ws : List Jvm.Cond) (a : Addr) (mO : Addr) (ka : ClassId) (h0 : Heap) (n0 : Nat) (Z0 : n0 ≤ h0.size) (V_a : Arv Z h0 a ka (.object "java/lang/Object") (0 : Int32) [] .null) (M_mO : Mir Z "[Ljava/lang/Object;" mO) :
    MetFree l (⟨"java/util/Arrays", "copyOf", "([Ljava/lang/Object;ILjava/lang/Class;)[Ljava/lang/Object;"⟩ : MethodName) (head1 (Jvm.Cond.code (⟨"java/util/Arrays", "copyOf", "([Ljava/lang/Object;ILjava/lang/Class;)[Ljava/lang/Object;"⟩ : MethodName) jdk_65_method_120_code 4 (some (.array (.object "java/lang/Object"))) :: ws) ({ frames := 1, cells := 1, slots := 0, locals := 24 } : Room)) (fun as_ U => as_ = #[(.ref a), (.int (0 : Int32)), (.ref mO)] ∧ Z.Warmed39 U.vm ∧ U.heap = h0) (fun _ _ _ _ _ => True) (fun _ U o U' => ∃ v L, o = .returned v ∧ Q_own_cp3 Z a mO ka h0 n0 v U'.heap L ∧ FrameEnd U o U' L ({ frames := 1, cells := 1, slots := 0, locals := 24 } : Room).cells ({ frames := 1, cells := 1, slots := 0, locals := 24 } : Room).slots) := by
  refine MetFree.of_bodySF (plainFor_of_name own_pn2) hisR ?_
  intro p e s m args below meth c s₁ Bd hml0 hP hK
  obtain ⟨rfl, hZ, hh⟩ := hP
  have hx := Bd.exec
  have hby := Bd.bytes
  have hml : c.maxLocals = 4 := hml0
  have hown : s.vm.findClass "java/util/Arrays" = some m.cls := findClass_of_methodNamed Bd.named
  have hnm := (name_of_methodNamed Bd.named Bd.method).1
  have X0 : Stand p l e ({ frames := 1, cells := 1, slots := 0, locals := 24 } : Room) s m #[(.ref a), (.int (0 : Int32)), (.ref mO)] below meth c s₁ [] 0 0 := Stand.of_body Bd
  have e0 : s₁.heap = h0 := by rw [← hh, Bd.state]; rfl
  have N0 := Fr.nil n0
  have K0 := Keep.refl h0 []
  show Go p e below (own_F s below (Q_own_cp3 Z a mO ka h0 n0) ({ frames := 1, cells := 1, slots := 0, locals := 24 } : Room).cells ({ frames := 1, cells := 1, slots := 0, locals := 24 } : Room).slots) (s₁.setTop (entryFrame m #[(.ref a), (.int (0 : Int32)), (.ref mO)] 4))
  rw [own_ef_own_cp3 m a mO]
  refine Go.back (t' := (s₁.setTop (mkF m 1 #[.val (.ref a), .val (.int (0 : Int32)), .val (.ref mO), .unset] [(.ref mO)]))) (fun u k => XS.aloadN X0.here hx rfl (hb hby own_d23_0) rfl rfl k) ?_
  obtain ⟨T1, X1, e1, st1⟩ := own_ldcM X0 hx hZ hown (hw _ (List.mem_of_getElem? (i := 159) rfl)) M_mO e0 (g := (mkF m 1 #[.val (.ref a), .val (.int (0 : Int32)), .val (.ref mO), .unset] [(.ref mO)])) rfl (hb hby own_d23_1)
  refine Go.back (t' := (T1.setTop (mkF m 3 #[.val (.ref a), .val (.int (0 : Int32)), .val (.ref mO), .unset] [(.ref mO), (.ref mO)]))) st1 ?_
  refine Go.back (t' := (T1.setTop (mkF m 7 #[.val (.ref a), .val (.int (0 : Int32)), .val (.ref mO), .unset] [(.int (0 : Int32))]))) (fun u k => XT.acmpNo X1.here hx rfl (hb hby own_d23_3) rfl rfl rfl (XT.aa_ne_f rfl) (XS.iloadN X1.here hx rfl (hb hby own_d23_6) rfl k)) ?_
  obtain ⟨T2, h2, k2, X2, e2, E2, A2, B2, -, st2⟩ := newRE X1 hx hZ hown (hw _ (List.mem_of_getElem? (i := 160) rfl)) (hw _ (List.mem_of_getElem? (i := 161) rfl)) e1 (g := (mkF m 7 #[.val (.ref a), .val (.int (0 : Int32)), .val (.ref mO), .unset] [(.int (0 : Int32))])) rfl (hb hby own_d23_7) rfl (by decide) (cap := 0) (by decide) (by decide) (by decide) (by decide) (ad := "[Ljava/lang/Object;") (by decide +kernel)
  obtain ⟨b2, g2⟩ : ∃ z, z = h0.size := ⟨_, rfl⟩
  rw [← g2] at A2 B2 st2
  have ne_a_b2 : a ≠ b2 := Nat.ne_of_lt (Nat.lt_of_lt_of_le V_a.lt (Nat.le_of_eq g2.symm))
  have gb2 : n0 ≤ b2 := Nat.le_trans Z0 (Nat.le_of_eq g2.symm)
  have sz2 : h0.size ≤ b2 := Nat.le_trans K0.1 (Nat.le_of_eq g2.symm)
  have Z2 : n0 ≤ h2.size := Nat.le_trans Z0 E2.1
  have K2 := K0.ext E2
  have V2 : Arv Z h2 b2 k2 (.object "java/lang/Object") (0 : Int32) [] .null := (Arv.new A2 (by decide)).pad (pad_rep [] .null 0)
  refine Go.back (t' := (T2.setTop (mkF m 10 #[.val (.ref a), .val (.int (0 : Int32)), .val (.ref mO), .unset] [(.ref b2)]))) st2 ?_
  refine Go.back (t' := (T2.setTop (mkF m 29 #[.val (.ref a), .val (.int (0 : Int32)), .val (.ref mO), .val (.ref b2)] [(.int (0 : Int32)), (.ref b2), (.int (0 : Int32)), (.ref a)]))) (fun u k => XS.goto X2.here hx rfl (pc0 := 10) (pc' := 24) rfl (hb hby own_d23_10) (by decide) (by decide) (XS.astoreN X2.here hx rfl (hb hby own_d23_24) rfl rfl (l' := #[.val (.ref a), .val (.int (0 : Int32)), .val (.ref mO), .val (.ref b2)]) rfl (XS.aloadN X2.here hx rfl (hb hby own_d23_25) rfl rfl (XT.iconstV X2.here hx rfl (0 : Int32) (hb hby own_d23_26) (by decide) (XS.aloadN X2.here hx rfl (hb hby own_d23_27) rfl rfl (XT.iconstV X2.here hx rfl (0 : Int32) (hb hby own_d23_28) (by decide) k)))))) ?_
  refine Go.back (t' := (T2.setTop (mkF m 30 #[.val (.ref a), .val (.int (0 : Int32)), .val (.ref mO), .val (.ref b2)] [(.ref a), (.int (0 : Int32)), (.ref b2), (.int (0 : Int32)), (.ref a)]))) (fun u k => XS.aloadN X2.here hx rfl (hb hby own_d23_29) rfl rfl k) ?_
  have f3 := (V_a.ext E2)
  obtain ⟨cl4, Ar4, aq4, aS4, aM4, aH4, aG4⟩ := id f3
  refine Go.back (t' := (T2.setTop (mkF m 31 #[.val (.ref a), .val (.int (0 : Int32)), .val (.ref mO), .val (.ref b2)] [(.int cl4.slots.size.toInt32), (.int (0 : Int32)), (.ref b2), (.int (0 : Int32)), (.ref a)]))) (fun u k => X2.arraylength hx (by rw [e2]; exact Ar4.1) (State.isArrayOf_alike hZ.alike Ar4.2.1) (g := (mkF m 30 #[.val (.ref a), .val (.int (0 : Int32)), .val (.ref mO), .val (.ref b2)] [(.ref a), (.int (0 : Int32)), (.ref b2), (.int (0 : Int32)), (.ref a)])) rfl rfl (hb hby own_d23_30) _ k) ?_
  rw [len_of aS4 aM4]
  refine Go.back (t' := (T2.setTop (mkF m 32 #[.val (.ref a), .val (.int (0 : Int32)), .val (.ref mO), .val (.ref b2)] [(.int (0 : Int32)), (.int (0 : Int32)), (.int (0 : Int32)), (.ref b2), (.int (0 : Int32)), (.ref a)]))) (fun u k => XS.iloadN X2.here hx rfl (hb hby own_d23_31) rfl k) ?_
  obtain ⟨_, _, ⟨T5, L5, k5, n5⟩, -, X5, ⟨Lc5, hQ5, l5, y5, z5⟩, st5⟩ := Jvm.LawKit.callS X2 hx (y := (⟨"java/lang/Math", "min", "(II)I"⟩ : MethodName)) hown (mvT hZ (hw _ (List.mem_of_getElem? (i := 162) rfl))) (mvT hZ (hw _ (List.mem_of_getElem? (i := 163) rfl))) (mvT hZ (hw _ (List.mem_of_getElem? (i := 164) rfl))) (mvT hZ (hw _ (List.mem_of_getElem? (i := 165) rfl))) (by decide) (backOf (W := 4) (own_min l Z a0 hw [] (0 : Int32) (0 : Int32) h2 n0 Z2 ) hZ (hw _ (List.mem_of_getElem? (i := 165) rfl)) (hw _ (List.mem_of_getElem? (i := 164) rfl)) (by decide) (by decide)) (g := (mkF m 32 #[.val (.ref a), .val (.int (0 : Int32)), .val (.ref mO), .val (.ref b2)] [(.int (0 : Int32)), (.int (0 : Int32)), (.int (0 : Int32)), (.ref b2), (.int (0 : Int32)), (.ref a)])) rfl (by rw [hml]; rfl) (argsL := [(.int (0 : Int32)), (.int (0 : Int32))]) (rest := [(.int (0 : Int32)), (.ref b2), (.int (0 : Int32)), (.ref a)]) (lenOf own_pd2 rfl) rfl (by show 2 * 0 + _ ≤ _; exact Nat.le_of_eq rfl) (hb hby own_d23_32) (fun _ _ => ⟨rfl, e2, (by decide : 1 + 0 ≤ _), (by decide : 0 + 0 ≤ _)⟩)
  dsimp only [Pt.U, Pt.locs, Pt.cells, Pt.slots] at X5 l5 y5 z5 st5 hQ5
  subst l5 y5 z5
  obtain ⟨rfl, N5, e5⟩ := hQ5
  have NA5 := Fr.app N0 N5
  refine Go.back (t' := (T5.setTop (mkF m 35 #[.val (.ref a), .val (.int (0 : Int32)), .val (.ref mO), .val (.ref b2)] [(.int (F_own_min (0 : Int32) (0 : Int32))), (.int (0 : Int32)), (.ref b2), (.int (0 : Int32)), (.ref a)]))) st5 ?_
  have rw6 : (F_own_min (0 : Int32) (0 : Int32)) = (0 : Int32) := by decide
  rw [rw6]
  obtain ⟨T7, h7, L7, X7, e7, NA7, Kc7, V7, st7⟩ := cpA X5 hx hZ hown (hw _ (List.mem_of_getElem? (i := 166) rfl)) (hw _ (List.mem_of_getElem? (i := 169) rfl)) (hw _ (List.mem_of_getElem? (i := 167) rfl)) (hw _ (List.mem_of_getElem? (i := 168) rfl)) e5 f3 V2 (us := []) (Or.inr ⟨rfl, rfl, trivial⟩) (by decide) (by decide) (by decide) (by decide) (by decide) rfl (by decide) NA5 gb2 (g := (mkF m 35 #[.val (.ref a), .val (.int (0 : Int32)), .val (.ref mO), .val (.ref b2)] [(.int (0 : Int32)), (.int (0 : Int32)), (.ref b2), (.int (0 : Int32)), (.ref a)])) rfl (by rw [hml]; rfl) rfl (hb hby own_d23_35) (by decide) (W := 0) (by show 2 * 0 + _ ≤ _; exact Nat.le_of_eq rfl) (by decide)
  subst e7
  have Z7 : n0 ≤ T7.heap.size := Nat.le_trans Z2 Kc7.1
  have K7 := K2.trans Kc7 (allS (Or.inr sz2) all0)
  have VA7 : Arv Z T7.heap b2 k2 (.object "java/lang/Object") (0 : Int32) [] .null := V7
  refine Go.back (t' := (T7.setTop (mkF m 38 #[.val (.ref a), .val (.int (0 : Int32)), .val (.ref mO), .val (.ref b2)] []))) st7 ?_
  refine Go.back (t' := (T7.setTop (mkF m 39 #[.val (.ref a), .val (.int (0 : Int32)), .val (.ref mO), .val (.ref b2)] [(.ref b2)]))) (fun u k => XS.aloadN X7.here hx rfl (hb hby own_d23_38) rfl rfl k) ?_
  obtain ⟨fs, hr, hrun, hended, hW, hsame⟩ := X7.leave (v := some (.ref b2)) (fun h => by rw [Bd.returns] at h; cases h)
  refine ⟨_, _, retOut X7 hx (t := (.array (.object "java/lang/Object"))) (i := .areturn) Bd.returns rfl (Or.inr (Or.inr (Or.inr (Or.inr ⟨rfl, rfl, rfl⟩)))) (hb hby own_d23_39) hr, hrun, hended, _, _, rfl, ?_, ⟨_, rfl⟩, hW, hsame.mono (by decide) (by decide)⟩
  show Q_own_cp3 Z a mO ka h0 n0 _ T7.heap _
  exact ⟨b2, k2, rfl, NA7, K7, gb2, sz2, VA7⟩
theorem own_pd3 : parseMethodDescriptor "([Ljava/lang/Object;ILjava/lang/Class;)[Ljava/lang/Object;" = some ⟨[(.array (.object "java/lang/Object")), .int, (.object "java/lang/Class")], some (.array (.object "java/lang/Object"))⟩ := by decide +kernel
theorem own_d22_0 : decode jdk_65_method_119_code 0 = .ok (.aload_n 0, 1) := by decide +kernel
theorem own_d22_1 : decode jdk_65_method_119_code 1 = .ok (.iload_n 1, 1) := by decide +kernel
theorem own_d22_2 : decode jdk_65_method_119_code 2 = .ok (.aload_n 0, 1) := by decide +kernel
theorem own_d22_3 : decode jdk_65_method_119_code 3 = .ok (.invokevirtual 86, 3) := by decide +kernel
theorem own_d22_6 : decode jdk_65_method_119_code 6 = .ok (.invokestatic 300, 3) := by decide +kernel
theorem own_d22_9 : decode jdk_65_method_119_code 9 = .ok (.areturn, 1) := by decide +kernel
theorem own_ef_own_cp2 (m : MethodId) (x0 : Addr) : entryFrame m #[(.ref x0), (.int (0 : Int32))] 2 = mkF m 0 #[.val (.ref x0), .val (.int (0 : Int32))] [] := by first | (simp [entryFrame, mkF, argsToLocals, Value.category]; done) | rfl
def Q_own_cp2 (Z : State) (a : Addr) (ka : ClassId) (mO : Addr) (h0 : Heap) (n0 : Nat) (v : Option Value) (h : Heap) (L : List Loc) : Prop := ∃ r : Addr, ∃ kr : ClassId, v = some (.ref r) ∧ Fr n0 L ∧ Keep h0 h [] ∧ n0 ≤ r ∧ h0.size ≤ r ∧ Arv Z h r kr (.object "java/lang/Object") (0 : Int32) [] .null
set_option maxRecDepth 65536 in
set_option maxHeartbeats 40000000 in
theorem own_cp2 (l : Launch) (Z : State) (a0 : Array Value) (hw : ∀ d ∈ tables_1, d.before a0 Z = true) (ws : List Jvm.Cond) (a : Addr) (ka : ClassId) (mO : Addr) (h0 : Heap) (n0 : Nat) (Z0 : n0 ≤ h0.size) (E_a : Exa Z h0 a "[Ljava/lang/Object;") (V_a : Arv Z h0 a ka (.object "java/lang/Object") (0 : Int32) [] .null) (M_mO : Mir Z "[Ljava/lang/Object;" mO) :
    MetFree l (⟨"java/util/Arrays", "copyOf", "([Ljava/lang/Object;I)[Ljava/lang/Object;"⟩ : MethodName) (head1 (Jvm.Cond.code (⟨"java/util/Arrays", "copyOf", "([Ljava/lang/Object;I)[Ljava/lang/Object;"⟩ : MethodName) jdk_65_method_119_code 2 (some (.array (.object "java/lang/Object"))) :: ws) ({ frames := 2, cells := 1, slots := 0, locals := 39 } : Room)) (fun as_ U => as_ = #[(.ref a), (.int (0 : Int32))] ∧ Z.Warmed39 U.vm ∧ U.heap = h0) (fun _ _ _ _ _ => True) (fun _ U o U' => ∃ v L, o = .returned v ∧ Q_own_cp2 Z a ka mO h0 n0 v U'.heap L ∧ FrameEnd U o U' L ({ frames := 2, cells := 1, slots := 0, locals := 39 } : Room).cells ({ frames := 2, cells := 1, slots := 0, locals := 39 } : Room).slots) := by
  refine MetFree.of_bodySF (plainFor_of_name own_pn2) hisR ?_
  intro p e s m args below meth c s₁ Bd hml0 hP hK
  obtain ⟨rfl, hZ, hh⟩ := hP
  have hx := Bd.exec
  have hby := Bd.bytes
  have hml : c.maxLocals = 2 := hml0
  have hown : s.vm.findClass "java/util/Arrays" = some m.cls := findClass_of_methodNamed Bd.named
  have hnm := (name_of_methodNamed Bd.named Bd.method).1
  have X0 : Stand p l e ({ frames := 2, cells := 1, slots := 0, locals := 39 } : Room) s m #[(.ref a), (.int (0 : Int32))] below meth c s₁ [] 0 0 := Stand.of_body Bd
  have e0 : s₁.heap = h0 := by rw [← hh, Bd.state]; rfl
  have N0 := Fr.nil n0
  have K0 := Keep.refl h0 []
  show Go p e below (own_F s below (Q_own_cp2 Z a ka mO h0 n0) ({ frames := 2, cells := 1, slots := 0, locals := 39 } : Room).cells ({ frames := 2, cells := 1, slots := 0, locals := 39 } : Room).slots) (s₁.setTop (entryFrame m #[(.ref a), (.int (0 : Int32))] 2))
  rw [own_ef_own_cp2 m a]
  refine Go.back (t' := (s₁.setTop (mkF m 3 #[.val (.ref a), .val (.int (0 : Int32))] [(.ref a), (.int (0 : Int32)), (.ref a)]))) (fun u k => XS.aloadN X0.here hx rfl (hb hby own_d22_0) rfl rfl (XS.iloadN X0.here hx rfl (hb hby own_d22_1) rfl (XS.aloadN X0.here hx rfl (hb hby own_d22_2) rfl rfl k))) ?_
  obtain ⟨T1, X1, e1, st1⟩ := own_gcls X0 hx hZ hown (hw _ (List.mem_of_getElem? (i := 150) rfl)) (hw _ (List.mem_of_getElem? (i := 151) rfl)) (hw _ (List.mem_of_getElem? (i := 153) rfl)) (hw _ (List.mem_of_getElem? (i := 152) rfl)) (hw _ (List.mem_of_getElem? (i := 154) rfl)) e0 E_a M_mO (g := (mkF m 3 #[.val (.ref a), .val (.int (0 : Int32))] [(.ref a), (.int (0 : Int32)), (.ref a)])) rfl (by rw [hml]; rfl) rfl (hb hby own_d22_3) (by decide) (W := 2) (by show 2 * 0 + _ ≤ _; exact Nat.le_of_eq rfl) (by decide)
  refine Go.back (t' := (T1.setTop (mkF m 6 #[.val (.ref a), .val (.int (0 : Int32))] [(.ref mO), (.int (0 : Int32)), (.ref a)]))) st1 ?_
  obtain ⟨_, _, ⟨T2, L2, k2, n2⟩, -, X2, ⟨Lc2, hQ2, l2, y2, z2⟩, st2⟩ := Jvm.LawKit.callS X1 hx (y := (⟨"java/util/Arrays", "copyOf", "([Ljava/lang/Object;ILjava/lang/Class;)[Ljava/lang/Object;"⟩ : MethodName)) hown (mvT hZ (hw _ (List.mem_of_getElem? (i := 156) rfl))) (mvT hZ (hw _ (List.mem_of_getElem? (i := 157) rfl))) (mvT hZ (hw _ (List.mem_of_getElem? (i := 148) rfl))) (mvT hZ (hw _ (List.mem_of_getElem? (i := 158) rfl))) (by decide) (backOf (W := 0) (own_cp3 l Z a0 hw [] a mO ka h0 n0 Z0 V_a M_mO) hZ (hw _ (List.mem_of_getElem? (i := 158) rfl)) (hw _ (List.mem_of_getElem? (i := 148) rfl)) (by decide) (by decide)) (g := (mkF m 6 #[.val (.ref a), .val (.int (0 : Int32))] [(.ref mO), (.int (0 : Int32)), (.ref a)])) rfl (by rw [hml]; rfl) (argsL := [(.ref a), (.int (0 : Int32)), (.ref mO)]) (rest := []) (lenOf own_pd3 rfl) rfl (by show 2 * 0 + _ ≤ _; exact Nat.le_of_eq rfl) (hb hby own_d22_6) (fun _ _ => ⟨rfl, e1, (by decide : 0 + 1 ≤ _), (by decide : 0 + 0 ≤ _)⟩)
  dsimp only [Pt.U, Pt.locs, Pt.cells, Pt.slots] at X2 l2 y2 z2 st2 hQ2
  subst l2 y2 z2
  obtain ⟨r2, kr2, rfl, N2, Kc2, gb_r2, szc_r2, P2_0⟩ := hQ2
  have NA2 := Fr.app N0 N2
  have Z2 : n0 ≤ T2.heap.size := Nat.le_trans Z0 Kc2.1
  have K2 := K0.trans Kc2 all0
  have sz_r2 : h0.size ≤ r2 := Nat.le_trans K0.1 szc_r2
  have ne_a_r2 : a ≠ r2 := Nat.ne_of_lt (Nat.lt_of_lt_of_le E_a.lt szc_r2)
  refine Go.back (t' := (T2.setTop (mkF m 9 #[.val (.ref a), .val (.int (0 : Int32))] [(.ref r2)]))) st2 ?_
  obtain ⟨fs, hr, hrun, hended, hW, hsame⟩ := X2.leave (v := some (.ref r2)) (fun h => by rw [Bd.returns] at h; cases h)
  refine ⟨_, _, retOut X2 hx (t := (.array (.object "java/lang/Object"))) (i := .areturn) Bd.returns rfl (Or.inr (Or.inr (Or.inr (Or.inr ⟨rfl, rfl, rfl⟩)))) (hb hby own_d22_9) hr, hrun, hended, _, _, rfl, ?_, ⟨_, rfl⟩, hW, hsame.mono (by decide) (by decide)⟩
  show Q_own_cp2 Z a ka mO h0 n0 _ T2.heap _
  exact ⟨r2, kr2, rfl, NA2, K2, gb_r2, sz_r2, P2_0⟩
theorem own_pd4 : parseMethodDescriptor "([Ljava/lang/Object;I)[Ljava/lang/Object;" = some ⟨[(.array (.object "java/lang/Object")), .int], some (.array (.object "java/lang/Object"))⟩ := by decide +kernel
theorem own_pn3 : plainName "java/util/ImmutableCollections$ListN" = true := by first | (simp [plainName, overriddenIn]; done) | decide +kernel
theorem own_d21_0 : decode jdk_45_method_7_code 0 = .ok (.aload_n 0, 1) := by decide +kernel
theorem own_d21_1 : decode jdk_45_method_7_code 1 = .ok (.getfield 7, 3) := by decide +kernel
theorem own_d21_4 : decode jdk_45_method_7_code 4 = .ok (.aload_n 0, 1) := by decide +kernel
theorem own_d21_5 : decode jdk_45_method_7_code 5 = .ok (.getfield 7, 3) := by decide +kernel
theorem own_d21_8 : decode jdk_45_method_7_code 8 = .ok (.arraylength, 1) := by decide +kernel
theorem own_d21_9 : decode jdk_45_method_7_code 9 = .ok (.invokestatic 29, 3) := by decide +kernel
theorem own_d21_12 : decode jdk_45_method_7_code 12 = .ok (.areturn, 1) := by decide +kernel
theorem own_ef_own_toA (m : MethodId) (x0 : Addr) : entryFrame m #[(.ref x0)] 1 = mkF m 0 #[.val (.ref x0)] [] := by first | (simp [entryFrame, mkF, argsToLocals, Value.category]; done) | rfl
def Q_own_toA (Z : State) (a : Addr) (eA : Addr) (ka : ClassId) (mO : Addr) (h0 : Heap) (n0 : Nat) (v : Option Value) (h : Heap) (L : List Loc) : Prop := ∃ r : Addr, ∃ kr : ClassId, v = some (.ref r) ∧ Fr n0 L ∧ Keep h0 h [] ∧ n0 ≤ r ∧ h0.size ≤ r ∧ Arv Z h r kr (.object "java/lang/Object") (0 : Int32) [] .null
set_option maxRecDepth 65536 in
set_option maxHeartbeats 40000000 in
theorem own_toA (l : Launch) (Z : State) (a0 : Array Value) (hw : ∀ d ∈ tables_1, d.before a0 Z = true) (ws : List Jvm.Cond) (a : Addr) (eA : Addr) (ka : ClassId) (mO : Addr) (h0 : Heap) (n0 : Nat) (Z0 : n0 ≤ h0.size) (E_a : Exa Z h0 a "java/util/ImmutableCollections$ListN") (F_a_elements : Fld Z h0 a "java/util/ImmutableCollections$ListN" "elements" "[Ljava/lang/Object;" (.ref eA)) (E_eA : Exa Z h0 eA "[Ljava/lang/Object;") (V_eA : Arv Z h0 eA ka (.object "java/lang/Object") (0 : Int32) [] .null) (M_mO : Mir Z "[Ljava/lang/Object;" mO) :
    MetFree l (⟨"java/util/ImmutableCollections$ListN", "toArray", "()[Ljava/lang/Object;"⟩ : MethodName) (head1 (Jvm.Cond.code (⟨"java/util/ImmutableCollections$ListN", "toArray", "()[Ljava/lang/Object;"⟩ : MethodName) jdk_45_method_7_code 1 (some (.array (.object "java/lang/Object"))) :: ws) ({ frames := 3, cells := 1, slots := 0, locals := 52 } : Room)) (fun as_ U => as_ = #[(.ref a)] ∧ Z.Warmed39 U.vm ∧ U.heap = h0) (fun _ _ _ _ _ => True) (fun _ U o U' => ∃ v L, o = .returned v ∧ Q_own_toA Z a eA ka mO h0 n0 v U'.heap L ∧ FrameEnd U o U' L ({ frames := 3, cells := 1, slots := 0, locals := 52 } : Room).cells ({ frames := 3, cells := 1, slots := 0, locals := 52 } : Room).slots) := by
  refine MetFree.of_bodySF (plainFor_of_name own_pn3) hisR ?_
  intro p e s m args below meth c s₁ Bd hml0 hP hK
  obtain ⟨rfl, hZ, hh⟩ := hP
  have hx := Bd.exec
  have hby := Bd.bytes
  have hml : c.maxLocals = 1 := hml0
  have hown : s.vm.findClass "java/util/ImmutableCollections$ListN" = some m.cls := findClass_of_methodNamed Bd.named
  have hnm := (name_of_methodNamed Bd.named Bd.method).1
  have X0 : Stand p l e ({ frames := 3, cells := 1, slots := 0, locals := 52 } : Room) s m #[(.ref a)] below meth c s₁ [] 0 0 := Stand.of_body Bd
  have e0 : s₁.heap = h0 := by rw [← hh, Bd.state]; rfl
  have N0 := Fr.nil n0
  have K0 := Keep.refl h0 []
  show Go p e below (own_F s below (Q_own_toA Z a eA ka mO h0 n0) ({ frames := 3, cells := 1, slots := 0, locals := 52 } : Room).cells ({ frames := 3, cells := 1, slots := 0, locals := 52 } : Room).slots) (s₁.setTop (entryFrame m #[(.ref a)] 1))
  rw [own_ef_own_toA m a]
  refine Go.back (t' := (s₁.setTop (mkF m 1 #[.val (.ref a)] [(.ref a)]))) (fun u k => XS.aloadN X0.here hx rfl (hb hby own_d21_0) rfl rfl k) ?_
  obtain ⟨T1, X1, e1, st1⟩ := getF X0 hx hZ hown (host := "") (Or.inl (hw _ (List.mem_of_getElem? (i := 144) rfl))) Via.refl e0 F_a_elements (g := (mkF m 1 #[.val (.ref a)] [(.ref a)])) rfl rfl (hb hby own_d21_1)
  refine Go.back (t' := (T1.setTop (mkF m 4 #[.val (.ref a)] [(.ref eA)]))) st1 ?_
  refine Go.back (t' := (T1.setTop (mkF m 5 #[.val (.ref a)] [(.ref a), (.ref eA)]))) (fun u k => XS.aloadN X1.here hx rfl (hb hby own_d21_4) rfl rfl k) ?_
  obtain ⟨T2, X2, e2, st2⟩ := getF X1 hx hZ hown (host := "") (Or.inl (hw _ (List.mem_of_getElem? (i := 144) rfl))) Via.refl e1 F_a_elements (g := (mkF m 5 #[.val (.ref a)] [(.ref a), (.ref eA)])) rfl rfl (hb hby own_d21_5)
  refine Go.back (t' := (T2.setTop (mkF m 8 #[.val (.ref a)] [(.ref eA), (.ref eA)]))) st2 ?_
  obtain ⟨cl3, Ar3, aq3, aS3, aM3, aH3, aG3⟩ := id V_eA
  refine Go.back (t' := (T2.setTop (mkF m 9 #[.val (.ref a)] [(.int cl3.slots.size.toInt32), (.ref eA)]))) (fun u k => X2.arraylength hx (by rw [e2]; exact Ar3.1) (State.isArrayOf_alike hZ.alike Ar3.2.1) (g := (mkF m 8 #[.val (.ref a)] [(.ref eA), (.ref eA)])) rfl rfl (hb hby own_d21_8) _ k) ?_
  rw [len_of aS3 aM3]
  obtain ⟨_, _, ⟨T4, L4, k4, n4⟩, -, X4, ⟨Lc4, hQ4, l4, y4, z4⟩, st4⟩ := Jvm.LawKit.callS X2 hx (y := (⟨"java/util/Arrays", "copyOf", "([Ljava/lang/Object;I)[Ljava/lang/Object;"⟩ : MethodName)) hown (mvT hZ (hw _ (List.mem_of_getElem? (i := 146) rfl))) (mvT hZ (hw _ (List.mem_of_getElem? (i := 147) rfl))) (mvT hZ (hw _ (List.mem_of_getElem? (i := 148) rfl))) (mvT hZ (hw _ (List.mem_of_getElem? (i := 149) rfl))) (by decide) (backOf (W := 0) (own_cp2 l Z a0 hw [] eA ka mO h0 n0 Z0 E_eA V_eA M_mO) hZ (hw _ (List.mem_of_getElem? (i := 149) rfl)) (hw _ (List.mem_of_getElem? (i := 148) rfl)) (by decide) (by decide)) (g := (mkF m 9 #[.val (.ref a)] [(.int (0 : Int32)), (.ref eA)])) rfl (by rw [hml]; rfl) (argsL := [(.ref eA), (.int (0 : Int32))]) (rest := []) (lenOf own_pd4 rfl) rfl (by show 2 * 0 + _ ≤ _; exact Nat.le_of_eq rfl) (hb hby own_d21_9) (fun _ _ => ⟨rfl, e2, (by decide : 0 + 1 ≤ _), (by decide : 0 + 0 ≤ _)⟩)
  dsimp only [Pt.U, Pt.locs, Pt.cells, Pt.slots] at X4 l4 y4 z4 st4 hQ4
  subst l4 y4 z4
  obtain ⟨r4, kr4, rfl, N4, Kc4, gb_r4, szc_r4, P4_0⟩ := hQ4
  have NA4 := Fr.app N0 N4
  have Z4 : n0 ≤ T4.heap.size := Nat.le_trans Z0 Kc4.1
  have K4 := K0.trans Kc4 all0
  have sz_r4 : h0.size ≤ r4 := Nat.le_trans K0.1 szc_r4
  have ne_a_r4 : a ≠ r4 := Nat.ne_of_lt (Nat.lt_of_lt_of_le E_a.lt szc_r4)
  have ne_eA_r4 : eA ≠ r4 := Nat.ne_of_lt (Nat.lt_of_lt_of_le E_eA.lt szc_r4)
  refine Go.back (t' := (T4.setTop (mkF m 12 #[.val (.ref a)] [(.ref r4)]))) st4 ?_
  obtain ⟨fs, hr, hrun, hended, hW, hsame⟩ := X4.leave (v := some (.ref r4)) (fun h => by rw [Bd.returns] at h; cases h)
  refine ⟨_, _, retOut X4 hx (t := (.array (.object "java/lang/Object"))) (i := .areturn) Bd.returns rfl (Or.inr (Or.inr (Or.inr (Or.inr ⟨rfl, rfl, rfl⟩)))) (hb hby own_d21_12) hr, hrun, hended, _, _, rfl, ?_, ⟨_, rfl⟩, hW, hsame.mono (by decide) (by decide)⟩
  show Q_own_toA Z a eA ka mO h0 n0 _ T4.heap _
  exact ⟨r4, kr4, rfl, NA4, K4, gb_r4, sz_r4, P4_0⟩
theorem own_pn4 : plainName "java/util/AbstractCollection" = true := by first | (simp [plainName, overriddenIn]; done) | decide +kernel
theorem own_d20_0 : decode jdk_22_method_1_code 0 = .ok (.aload_n 0, 1) := by decide +kernel
theorem own_d20_1 : decode jdk_22_method_1_code 1 = .ok (.invokespecial 1, 3) := by decide +kernel
theorem own_d20_4 : decode jdk_22_method_1_code 4 = .ok (.return_, 1) := by decide +kernel
theorem own_ef_own_acInit (m : MethodId) (x0 : Addr) : entryFrame m #[(.ref x0)] 1 = mkF m 0 #[.val (.ref x0)] [] := by first | (simp [entryFrame, mkF, argsToLocals, Value.category]; done) | rfl
def Q_own_acInit (Z : State) (a : Addr) (h0 : Heap) (n0 : Nat) (v : Option Value) (h : Heap) (L : List Loc) : Prop := v = none ∧ Fr n0 L ∧ h = h0
set_option maxRecDepth 65536 in
set_option maxHeartbeats 40000000 in
theorem own_acInit (l : Launch) (Z : State) (a0 : Array Value) (hw : ∀ d ∈ tables_1, d.before a0 Z = true) (ws : List Jvm.Cond) (a : Addr) (h0 : Heap) (n0 : Nat) (Z0 : n0 ≤ h0.size) :
    MetFree l (⟨"java/util/AbstractCollection", "<init>", "()V"⟩ : MethodName) (head1 (Jvm.Cond.code (⟨"java/util/AbstractCollection", "<init>", "()V"⟩ : MethodName) jdk_22_method_1_code 1 none :: ws) ({ frames := 1, cells := 0, slots := 0, locals := 12 } : Room)) (fun as_ U => as_ = #[(.ref a)] ∧ Z.Warmed39 U.vm ∧ U.heap = h0) (fun _ _ _ _ _ => True) (fun _ U o U' => ∃ v L, o = .returned v ∧ Q_own_acInit Z a h0 n0 v U'.heap L ∧ FrameEnd U o U' L ({ frames := 1, cells := 0, slots := 0, locals := 12 } : Room).cells ({ frames := 1, cells := 0, slots := 0, locals := 12 } : Room).slots) := by
  refine MetFree.of_bodySF (plainFor_of_name own_pn4) hisR ?_
  intro p e s m args below meth c s₁ Bd hml0 hP hK
  obtain ⟨rfl, hZ, hh⟩ := hP
  have hx := Bd.exec
  have hby := Bd.bytes
  have hml : c.maxLocals = 1 := hml0
  have hown : s.vm.findClass "java/util/AbstractCollection" = some m.cls := findClass_of_methodNamed Bd.named
  have hnm := (name_of_methodNamed Bd.named Bd.method).1
  have X0 : Stand p l e ({ frames := 1, cells := 0, slots := 0, locals := 12 } : Room) s m #[(.ref a)] below meth c s₁ [] 0 0 := Stand.of_body Bd
  have e0 : s₁.heap = h0 := by rw [← hh, Bd.state]; rfl
  have N0 := Fr.nil n0
  have K0 := Keep.refl h0 []
  show Go p e below (own_F s below (Q_own_acInit Z a h0 n0) ({ frames := 1, cells := 0, slots := 0, locals := 12 } : Room).cells ({ frames := 1, cells := 0, slots := 0, locals := 12 } : Room).slots) (s₁.setTop (entryFrame m #[(.ref a)] 1))
  rw [own_ef_own_acInit m a]
  refine Go.back (t' := (s₁.setTop (mkF m 1 #[.val (.ref a)] [(.ref a)]))) (fun u k => XS.aloadN X0.here hx rfl (hb hby own_d20_0) rfl rfl k) ?_
  obtain ⟨T1, X1, e1, st1⟩ := initO X0 hx hZ hown (hw _ (List.mem_of_getElem? (i := 131) rfl)) (hw _ (List.mem_of_getElem? (i := 7) rfl)) (hw _ (List.mem_of_getElem? (i := 8) rfl)) e0 (g := (mkF m 1 #[.val (.ref a)] [(.ref a)])) rfl (by rw [hml]; rfl) rfl (hb hby own_d20_1) (by decide) (W := 0) (by show 2 * 0 + _ ≤ _; exact Nat.le_of_eq rfl) (by decide)
  refine Go.back (t' := (T1.setTop (mkF m 4 #[.val (.ref a)] []))) st1 ?_
  obtain ⟨fs, hr, hrun, hended, hW, hsame⟩ := X1.leave (v := none) (fun _ => rfl)
  refine ⟨_, _, X1.returnOut hx Bd.returns (hb hby own_d20_4) hr, hrun, hended, _, _, rfl, ?_, ⟨_, rfl⟩, hW, hsame.mono (by decide) (by decide)⟩
  show Q_own_acInit Z a h0 n0 _ T1.heap _
  rw [e1]
  exact ⟨rfl, N0, rfl⟩
theorem own_pd5 : parseMethodDescriptor "()V" = some ⟨[], none⟩ := by decide +kernel
theorem own_pn5 : plainName "java/util/AbstractList" = true := by first | (simp [plainName, overriddenIn]; done) | decide +kernel
theorem own_d19_0 : decode jdk_39_method_1_code 0 = .ok (.aload_n 0, 1) := by decide +kernel
theorem own_d19_1 : decode jdk_39_method_1_code 1 = .ok (.invokespecial 1, 3) := by decide +kernel
theorem own_d19_4 : decode jdk_39_method_1_code 4 = .ok (.aload_n 0, 1) := by decide +kernel
theorem own_d19_5 : decode jdk_39_method_1_code 5 = .ok (.iconst 0, 1) := by decide +kernel
theorem own_d19_6 : decode jdk_39_method_1_code 6 = .ok (.putfield 7, 3) := by decide +kernel
theorem own_d19_9 : decode jdk_39_method_1_code 9 = .ok (.return_, 1) := by decide +kernel
theorem own_ef_own_abInit (m : MethodId) (x0 : Addr) : entryFrame m #[(.ref x0)] 1 = mkF m 0 #[.val (.ref x0)] [] := by first | (simp [entryFrame, mkF, argsToLocals, Value.category]; done) | rfl
def Q_own_abInit (Z : State) (a : Addr) (h0 : Heap) (n0 : Nat) (v : Option Value) (h : Heap) (L : List Loc) : Prop := v = none ∧ Fr n0 L ∧ Keep h0 h [a] ∧ Exa Z h a "java/util/ArrayList" ∧ Fld Z h a "java/util/ArrayList" "elementData" "[Ljava/lang/Object;" .null ∧ Fld Z h a "java/util/ArrayList" "size" "I" (.int (0 : Int32))
set_option maxRecDepth 65536 in
set_option maxHeartbeats 40000000 in
theorem own_abInit (l : Launch) (Z : State) (a0 : Array Value) (hw : ∀ d ∈ tables_1, d.before a0 Z = true) (ws : List Jvm.Cond) (a : Addr) (h0 : Heap) (n0 : Nat) (Z0 : n0 ≤ h0.size) (E_a : Exa Z h0 a "java/util/ArrayList") (F_a_modCount : Fld Z h0 a "java/util/AbstractList" "modCount" "I" (.int (0 : Int32))) (F_a_elementData : Fld Z h0 a "java/util/ArrayList" "elementData" "[Ljava/lang/Object;" .null) (F_a_size : Fld Z h0 a "java/util/ArrayList" "size" "I" (.int (0 : Int32))) (g_a : n0 ≤ a) :
    MetFree l (⟨"java/util/AbstractList", "<init>", "()V"⟩ : MethodName) (head1 (Jvm.Cond.code (⟨"java/util/AbstractList", "<init>", "()V"⟩ : MethodName) jdk_39_method_1_code 1 none :: ws) ({ frames := 2, cells := 0, slots := 0, locals := 24 } : Room)) (fun as_ U => as_ = #[(.ref a)] ∧ Z.Warmed39 U.vm ∧ U.heap = h0) (fun _ _ _ _ _ => True) (fun _ U o U' => ∃ v L, o = .returned v ∧ Q_own_abInit Z a h0 n0 v U'.heap L ∧ FrameEnd U o U' L ({ frames := 2, cells := 0, slots := 0, locals := 24 } : Room).cells ({ frames := 2, cells := 0, slots := 0, locals := 24 } : Room).slots) := by
  refine MetFree.of_bodySF (plainFor_of_name own_pn5) hisR ?_
  intro p e s m args below meth c s₁ Bd hml0 hP hK
  obtain ⟨rfl, hZ, hh⟩ := hP
  have hx := Bd.exec
  have hby := Bd.bytes
  have hml : c.maxLocals = 1 := hml0
  have hown : s.vm.findClass "java/util/AbstractList" = some m.cls := findClass_of_methodNamed Bd.named
  have hnm := (name_of_methodNamed Bd.named Bd.method).1
  have X0 : Stand p l e ({ frames := 2, cells := 0, slots := 0, locals := 24 } : Room) s m #[(.ref a)] below meth c s₁ [] 0 0 := Stand.of_body Bd
  have e0 : s₁.heap = h0 := by rw [← hh, Bd.state]; rfl
  have N0 := Fr.nil n0
  have K0 := Keep.refl h0 [a]
  show Go p e below (own_F s below (Q_own_abInit Z a h0 n0) ({ frames := 2, cells := 0, slots := 0, locals := 24 } : Room).cells ({ frames := 2, cells := 0, slots := 0, locals := 24 } : Room).slots) (s₁.setTop (entryFrame m #[(.ref a)] 1))
  rw [own_ef_own_abInit m a]
  refine Go.back (t' := (s₁.setTop (mkF m 1 #[.val (.ref a)] [(.ref a)]))) (fun u k => XS.aloadN X0.here hx rfl (hb hby own_d19_0) rfl rfl k) ?_
  obtain ⟨_, _, ⟨T1, L1, k1, n1⟩, -, X1, ⟨Lc1, hQ1, l1, y1, z1⟩, st1⟩ := X0.specialBack hx (y := (⟨"java/util/AbstractCollection", "<init>", "()V"⟩ : MethodName)) rfl hown (mvT hZ (hw _ (List.mem_of_getElem? (i := 125) rfl))) (mvT hZ (hw _ (List.mem_of_getElem? (i := 126) rfl))) (mvT hZ (hw _ (List.mem_of_getElem? (i := 130) rfl))) (by decide) (backOf (W := 0) (own_acInit l Z a0 hw [] a h0 n0 Z0 ) hZ (hw _ (List.mem_of_getElem? (i := 130) rfl)) (hw _ (List.mem_of_getElem? (i := 129) rfl)) (by decide) (by decide)) (g := (mkF m 1 #[.val (.ref a)] [(.ref a)])) rfl (by rw [hml]; rfl) (Steps.refl _) (a := a) (argsL := []) (rest := []) (lenOf own_pd5 rfl) rfl (by show 2 * 0 + _ ≤ _; exact Nat.le_of_eq rfl) (hb hby own_d19_1) (fun _ _ => ⟨rfl, e0, (by decide : 0 + 0 ≤ _), (by decide : 0 + 0 ≤ _)⟩)
  dsimp only [Pt.U, Pt.locs, Pt.cells, Pt.slots] at X1 l1 y1 z1 st1 hQ1
  subst l1 y1 z1
  obtain ⟨rfl, N1, e1⟩ := hQ1
  have NA1 := Fr.app N0 N1
  refine Go.back (t' := (T1.setTop (mkF m 4 #[.val (.ref a)] []))) (fun u k => st1.trans k) ?_
  refine Go.back (t' := (T1.setTop (mkF m 6 #[.val (.ref a)] [(.int (0 : Int32)), (.ref a)]))) (fun u k => XS.aloadN X1.here hx rfl (hb hby own_d19_4) rfl rfl (XT.iconstV X1.here hx rfl (0 : Int32) (hb hby own_d19_5) (by decide) k)) ?_
  obtain ⟨T2, h2, X2, e2, W2, st2⟩ := putF X1 hx hZ hown (host := "") (Or.inl (hw _ (List.mem_of_getElem? (i := 132) rfl))) Via.refl e1 F_a_modCount E_a (Or.inl (hw _ (List.mem_of_getElem? (i := 133) rfl))) (hw _ (List.mem_of_getElem? (i := 114) rfl)) (ty := .int) (by decide) rfl rfl (g := (mkF m 6 #[.val (.ref a)] [(.int (0 : Int32)), (.ref a)])) rfl rfl (hb hby own_d19_6)
  have Z2 : n0 ≤ h2.size := Nat.le_trans Z0 (Keep.of_wr W2).1
  have K2 := K0.wr W2 (Or.inl (List.mem_of_getElem? (i := 0) rfl))
  have N2 := Fr.snoc X2 NA1 g_a
  have F2 := F_a_modCount.same W2
  refine Go.back (t' := (T2.setTop (mkF m 9 #[.val (.ref a)] []))) st2 ?_
  have f3 := (E_a.wr W2)
  have f4 := (F_a_elementData.other W2 (Or.inr (slot_ne (Or.inl (hw _ (List.mem_of_getElem? (i := 174) rfl))) (Or.inl (hw _ (List.mem_of_getElem? (i := 133) rfl))) (by decide) (t := (.array (.object "java/lang/Object"))) (t' := .int) (by decide) (by decide))))
  have f5 := (F_a_size.other W2 (Or.inr (slot_ne (Or.inl (hw _ (List.mem_of_getElem? (i := 171) rfl))) (Or.inl (hw _ (List.mem_of_getElem? (i := 133) rfl))) (by decide) (t := .int) (t' := .int) (by decide) (by decide))))
  obtain ⟨fs, hr, hrun, hended, hW, hsame⟩ := X2.leave (v := none) (fun _ => rfl)
  refine ⟨_, _, X2.returnOut hx Bd.returns (hb hby own_d19_9) hr, hrun, hended, _, _, rfl, ?_, ⟨_, rfl⟩, hW, hsame.mono (by decide) (by decide)⟩
  show Q_own_abInit Z a h0 n0 _ T2.heap _
  rw [e2]
  exact ⟨rfl, N2, K2, f3, f4, f5⟩
theorem own_pd6 : parseMethodDescriptor "()[Ljava/lang/Object;" = some ⟨[], some (.array (.object "java/lang/Object"))⟩ := by decide +kernel
theorem own_pn6 : plainName "java/util/ArrayList" = true := by first | (simp [plainName, overriddenIn]; done) | decide +kernel
theorem own_d18_0 : decode jdk_38_method_3_code 0 = .ok (.aload_n 0, 1) := by decide +kernel
theorem own_d18_1 : decode jdk_38_method_3_code 1 = .ok (.invokespecial 1, 3) := by decide +kernel
theorem own_d18_4 : decode jdk_38_method_3_code 4 = .ok (.aload_n 1, 1) := by decide +kernel
theorem own_d18_5 : decode jdk_38_method_3_code 5 = .ok (.invokeinterface 42 1, 5) := by decide +kernel
theorem own_d18_10 : decode jdk_38_method_3_code 10 = .ok (.astore_n 2, 1) := by decide +kernel
theorem own_d18_11 : decode jdk_38_method_3_code 11 = .ok (.aload_n 0, 1) := by decide +kernel
theorem own_d18_12 : decode jdk_38_method_3_code 12 = .ok (.aload_n 2, 1) := by decide +kernel
theorem own_d18_13 : decode jdk_38_method_3_code 13 = .ok (.arraylength, 1) := by decide +kernel
theorem own_d18_14 : decode jdk_38_method_3_code 14 = .ok (.dup_x1, 1) := by decide +kernel
theorem own_d18_15 : decode jdk_38_method_3_code 15 = .ok (.putfield 48, 3) := by decide +kernel
theorem own_d18_18 : decode jdk_38_method_3_code 18 = .ok (.ifCond .eq 39, 3) := by decide +kernel
theorem own_d18_21 : decode jdk_38_method_3_code 21 = .ok (.aload_n 1, 1) := by decide +kernel
theorem own_d18_22 : decode jdk_38_method_3_code 22 = .ok (.invokeinterface 52 1, 5) := by decide +kernel
theorem own_d18_27 : decode jdk_38_method_3_code 27 = .ok (.ldc 10, 2) := by decide +kernel
theorem own_d18_29 : decode jdk_38_method_3_code 29 = .ok (.if_acmp .ne 11, 3) := by decide +kernel
theorem own_d18_32 : decode jdk_38_method_3_code 32 = .ok (.aload_n 0, 1) := by decide +kernel
theorem own_d18_33 : decode jdk_38_method_3_code 33 = .ok (.aload_n 2, 1) := by decide +kernel
theorem own_d18_34 : decode jdk_38_method_3_code 34 = .ok (.putfield 9, 3) := by decide +kernel
theorem own_d18_37 : decode jdk_38_method_3_code 37 = .ok (.goto 27, 3) := by decide +kernel
theorem own_d18_40 : decode jdk_38_method_3_code 40 = .ok (.aload_n 0, 1) := by decide +kernel
theorem own_d18_41 : decode jdk_38_method_3_code 41 = .ok (.aload_n 2, 1) := by decide +kernel
theorem own_d18_42 : decode jdk_38_method_3_code 42 = .ok (.aload_n 0, 1) := by decide +kernel
theorem own_d18_43 : decode jdk_38_method_3_code 43 = .ok (.getfield 48, 3) := by decide +kernel
theorem own_d18_46 : decode jdk_38_method_3_code 46 = .ok (.ldc 56, 2) := by decide +kernel
theorem own_d18_48 : decode jdk_38_method_3_code 48 = .ok (.invokestatic 57, 3) := by decide +kernel
theorem own_d18_51 : decode jdk_38_method_3_code 51 = .ok (.putfield 9, 3) := by decide +kernel
theorem own_d18_54 : decode jdk_38_method_3_code 54 = .ok (.goto 10, 3) := by decide +kernel
theorem own_d18_57 : decode jdk_38_method_3_code 57 = .ok (.aload_n 0, 1) := by decide +kernel
theorem own_d18_58 : decode jdk_38_method_3_code 58 = .ok (.getstatic 15, 3) := by decide +kernel
theorem own_d18_61 : decode jdk_38_method_3_code 61 = .ok (.putfield 9, 3) := by decide +kernel
theorem own_d18_64 : decode jdk_38_method_3_code 64 = .ok (.return_, 1) := by decide +kernel
theorem own_ef_own_alInit (m : MethodId) (x0 : Addr) (x1 : Addr) : entryFrame m #[(.ref x0), (.ref x1)] 3 = mkF m 0 #[.val (.ref x0), .val (.ref x1), .unset] [] := by first | (simp [entryFrame, mkF, argsToLocals, Value.category]; done) | rfl
def Q_own_alInit (Z : State) (a : Addr) (b : Addr) (eA : Addr) (ka : ClassId) (mO : Addr) (wD : Addr) (h0 : Heap) (n0 : Nat) (v : Option Value) (h : Heap) (L : List Loc) : Prop := v = none ∧ Fr n0 L ∧ Keep h0 h [a] ∧ Exa Z h a "java/util/ArrayList"
set_option maxRecDepth 65536 in
set_option maxHeartbeats 40000000 in
theorem own_alInit (l : Launch) (Z : State) (a0 : Array Value) (hw : ∀ d ∈ tables_1, d.before a0 Z = true) (ws : List Jvm.Cond) (a : Addr) (b : Addr) (eA : Addr) (ka : ClassId) (mO : Addr) (wD : Addr) (h0 : Heap) (n0 : Nat) (Z0 : n0 ≤ h0.size) (E_a : Exa Z h0 a "java/util/ArrayList") (E_b : Exa Z h0 b "java/util/ImmutableCollections$ListN") (F_a_modCount : Fld Z h0 a "java/util/AbstractList" "modCount" "I" (.int (0 : Int32))) (F_a_elementData : Fld Z h0 a "java/util/ArrayList" "elementData" "[Ljava/lang/Object;" .null) (F_a_size : Fld Z h0 a "java/util/ArrayList" "size" "I" (.int (0 : Int32))) (F_b_elements : Fld Z h0 b "java/util/ImmutableCollections$ListN" "elements" "[Ljava/lang/Object;" (.ref eA)) (g_a : n0 ≤ a) (ne_a_b : a ≠ b) (ne_a_eA : a ≠ eA) (Old0 : Old Z n0 h0) (E_eA : Exa Z h0 eA "[Ljava/lang/Object;") (V_eA : Arv Z h0 eA ka (.object "java/lang/Object") (0 : Int32) [] .null) (M_mO : Mir Z "[Ljava/lang/Object;" mO) (SED : Sta Z Z.heap "java/util/ArrayList" "EMPTY_ELEMENTDATA" "[Ljava/lang/Object;" (.ref wD)) :
    MetFree l (⟨"java/util/ArrayList", "<init>", "(Ljava/util/Collection;)V"⟩ : MethodName) (head1 (Jvm.Cond.code (⟨"java/util/ArrayList", "<init>", "(Ljava/util/Collection;)V"⟩ : MethodName) jdk_38_method_3_code 3 none :: ws) ({ frames := 4, cells := 1, slots := 0, locals := 64 } : Room)) (fun as_ U => as_ = #[(.ref a), (.ref b)] ∧ Z.Warmed39 U.vm ∧ U.heap = h0) (fun _ _ _ _ _ => True) (fun _ U o U' => ∃ v L, o = .returned v ∧ Q_own_alInit Z a b eA ka mO wD h0 n0 v U'.heap L ∧ FrameEnd U o U' L ({ frames := 4, cells := 1, slots := 0, locals := 64 } : Room).cells ({ frames := 4, cells := 1, slots := 0, locals := 64 } : Room).slots) := by
  refine MetFree.of_bodySF (plainFor_of_name own_pn6) hisR ?_
  intro p e s m args below meth c s₁ Bd hml0 hP hK
  obtain ⟨rfl, hZ, hh⟩ := hP
  have hx := Bd.exec
  have hby := Bd.bytes
  have hml : c.maxLocals = 3 := hml0
  have hown : s.vm.findClass "java/util/ArrayList" = some m.cls := findClass_of_methodNamed Bd.named
  have hnm := (name_of_methodNamed Bd.named Bd.method).1
  have X0 : Stand p l e ({ frames := 4, cells := 1, slots := 0, locals := 64 } : Room) s m #[(.ref a), (.ref b)] below meth c s₁ [] 0 0 := Stand.of_body Bd
  have e0 : s₁.heap = h0 := by rw [← hh, Bd.state]; rfl
  have N0 := Fr.nil n0
  have K0 := Keep.refl h0 [a]
  show Go p e below (own_F s below (Q_own_alInit Z a b eA ka mO wD h0 n0) ({ frames := 4, cells := 1, slots := 0, locals := 64 } : Room).cells ({ frames := 4, cells := 1, slots := 0, locals := 64 } : Room).slots) (s₁.setTop (entryFrame m #[(.ref a), (.ref b)] 3))
  rw [own_ef_own_alInit m a b]
  refine Go.back (t' := (s₁.setTop (mkF m 1 #[.val (.ref a), .val (.ref b), .unset] [(.ref a)]))) (fun u k => XS.aloadN X0.here hx rfl (hb hby own_d18_0) rfl rfl k) ?_
  obtain ⟨_, _, ⟨T1, L1, k1, n1⟩, -, X1, ⟨Lc1, hQ1, l1, y1, z1⟩, st1⟩ := X0.specialBack hx (y := (⟨"java/util/AbstractList", "<init>", "()V"⟩ : MethodName)) rfl hown (mvT hZ (hw _ (List.mem_of_getElem? (i := 119) rfl))) (mvT hZ (hw _ (List.mem_of_getElem? (i := 120) rfl))) (mvT hZ (hw _ (List.mem_of_getElem? (i := 124) rfl))) (by decide) (backOf (W := 0) (own_abInit l Z a0 hw [] a h0 n0 Z0 E_a F_a_modCount F_a_elementData F_a_size g_a) hZ (hw _ (List.mem_of_getElem? (i := 124) rfl)) (hw _ (List.mem_of_getElem? (i := 123) rfl)) (by decide) (by decide)) (g := (mkF m 1 #[.val (.ref a), .val (.ref b), .unset] [(.ref a)])) rfl (by rw [hml]; rfl) (Steps.refl _) (a := a) (argsL := []) (rest := []) (lenOf own_pd5 rfl) rfl (by show 2 * 0 + _ ≤ _; exact Nat.le_of_eq rfl) (hb hby own_d18_1) (fun _ _ => ⟨rfl, e0, (by decide : 0 + 0 ≤ _), (by decide : 0 + 0 ≤ _)⟩)
  dsimp only [Pt.U, Pt.locs, Pt.cells, Pt.slots] at X1 l1 y1 z1 st1 hQ1
  subst l1 y1 z1
  obtain ⟨rfl, N1, Kc1, P1_0, P1_1, P1_2⟩ := hQ1
  have NA1 := Fr.app N0 N1
  have Z1 : n0 ≤ T1.heap.size := Nat.le_trans Z0 Kc1.1
  have K1 := K0.trans Kc1 (allS (Or.inl (List.mem_of_getElem? (i := 0) rfl)) all0)
  have O1 := Old0.keep Kc1 (allS g_a all0)
  refine Go.back (t' := (T1.setTop (mkF m 4 #[.val (.ref a), .val (.ref b), .unset] []))) (fun u k => st1.trans k) ?_
  refine Go.back (t' := (T1.setTop (mkF m 5 #[.val (.ref a), .val (.ref b), .unset] [(.ref b)]))) (fun u k => XS.aloadN X1.here hx rfl (hb hby own_d18_4) rfl rfl k) ?_
  have f2 := (E_b.keep Kc1)
  have f3 := (F_b_elements.keep Kc1 (ninS (Ne.symm ne_a_b) nin0))
  have f4 := (E_eA.keep Kc1)
  have f5 := (V_eA.keep Kc1 (ninS (Ne.symm ne_a_eA) nin0))
  obtain ⟨cq7, kq7, qa7, qb7, qc7⟩ := isOf hZ rfl f2
  obtain ⟨_, _, ⟨T6, L6, k6, n6⟩, -, X6, ⟨Lc6, hQ6, l6, y6, z6⟩, st6⟩ := X1.interfaceBack hx (C := "java/util/ImmutableCollections$ListN") (xi := (⟨"java/util/Collection", "toArray", "()[Ljava/lang/Object;"⟩ : MethodName)) (y := (⟨"java/util/ImmutableCollections$ListN", "toArray", "()[Ljava/lang/Object;"⟩ : MethodName)) hown (mvT hZ (hw _ (List.mem_of_getElem? (i := 134) rfl))) (mvT hZ (hw _ (List.mem_of_getElem? (i := 135) rfl))) (mvT hZ (hw _ (List.mem_of_getElem? (i := 136) rfl))) (mvT hZ (hw _ (List.mem_of_getElem? (i := 137) rfl))) (mvT hZ (hw _ (List.mem_of_getElem? (i := 138) rfl))) (mvT hZ (hw _ (List.mem_of_getElem? (i := 139) rfl))) (mvT hZ (hw _ (List.mem_of_getElem? (i := 140) rfl))) (mvT hZ (hw _ (List.mem_of_getElem? (i := 141) rfl))) ⟨by decide, by decide⟩ (backOf (W := 0) (own_toA l Z a0 hw [] b eA ka mO T1.heap n0 Z1 f2 f3 f4 f5 M_mO) hZ (hw _ (List.mem_of_getElem? (i := 143) rfl)) (hw _ (List.mem_of_getElem? (i := 142) rfl)) (by decide) (by decide)) qa7 qb7 qc7 (g := (mkF m 5 #[.val (.ref a), .val (.ref b), .unset] [(.ref b)])) rfl (by rw [hml]; rfl) (Steps.refl _) (argsL := []) (rest := []) (lenOf own_pd6 rfl) rfl (by show 2 * 0 + _ ≤ _; exact Nat.le_of_eq rfl) (hb hby own_d18_5) (fun _ _ => ⟨rfl, rfl, (by decide : 0 + 1 ≤ _), (by decide : 0 + 0 ≤ _)⟩)
  dsimp only [Pt.U, Pt.locs, Pt.cells, Pt.slots] at X6 l6 y6 z6 st6 hQ6
  subst l6 y6 z6
  obtain ⟨r6, kr6, rfl, N6, Kc6, gb_r6, szc_r6, P6_0⟩ := hQ6
  have NA6 := Fr.app NA1 N6
  have Z6 : n0 ≤ T6.heap.size := Nat.le_trans Z1 Kc6.1
  have K6 := K1.trans Kc6 all0
  have O6 := O1.keep Kc6 all0
  have sz_r6 : h0.size ≤ r6 := Nat.le_trans K1.1 szc_r6
  have ne_a_r6 : a ≠ r6 := Nat.ne_of_lt (Nat.lt_of_lt_of_le P1_0.lt szc_r6)
  have ne_b_r6 : b ≠ r6 := Nat.ne_of_lt (Nat.lt_of_lt_of_le f2.lt szc_r6)
  have ne_eA_r6 : eA ≠ r6 := Nat.ne_of_lt (Nat.lt_of_lt_of_le f4.lt szc_r6)
  refine Go.back (t' := (T6.setTop (mkF m 10 #[.val (.ref a), .val (.ref b), .unset] [(.ref r6)]))) (fun u k => st6.trans k) ?_
  refine Go.back (t' := (T6.setTop (mkF m 13 #[.val (.ref a), .val (.ref b), .val (.ref r6)] [(.ref r6), (.ref a)]))) (fun u k => XS.astoreN X6.here hx rfl (hb hby own_d18_10) rfl rfl (l' := #[.val (.ref a), .val (.ref b), .val (.ref r6)]) rfl (XS.aloadN X6.here hx rfl (hb hby own_d18_11) rfl rfl (XS.aloadN X6.here hx rfl (hb hby own_d18_12) rfl rfl k))) ?_
  obtain ⟨cl8, Ar8, aq8, aS8, aM8, aH8, aG8⟩ := id P6_0
  refine Go.back (t' := (T6.setTop (mkF m 14 #[.val (.ref a), .val (.ref b), .val (.ref r6)] [(.int cl8.slots.size.toInt32), (.ref a)]))) (fun u k => X6.arraylength hx Ar8.1 (State.isArrayOf_alike hZ.alike Ar8.2.1) (g := (mkF m 13 #[.val (.ref a), .val (.ref b), .val (.ref r6)] [(.ref r6), (.ref a)])) rfl rfl (hb hby own_d18_13) _ k) ?_
  rw [len_of aS8 aM8]
  refine Go.back (t' := (T6.setTop (mkF m 15 #[.val (.ref a), .val (.ref b), .val (.ref r6)] [(.int (0 : Int32)), (.ref a), (.int (0 : Int32))]))) (fun u k => XT.dupX1 X6.here hx rfl (hb hby own_d18_14) rfl rfl rfl k) ?_
  have f10 := (P1_2.keep Kc6 nin0)
  have f11 := (P1_0.keep Kc6)
  obtain ⟨T9, h9, X9, e9, W9, st9⟩ := putF X6 hx hZ hown (host := "") (Or.inl (hw _ (List.mem_of_getElem? (i := 170) rfl))) Via.refl rfl f10 f11 (Or.inl (hw _ (List.mem_of_getElem? (i := 171) rfl))) (hw _ (List.mem_of_getElem? (i := 114) rfl)) (ty := .int) (by decide) rfl rfl (g := (mkF m 15 #[.val (.ref a), .val (.ref b), .val (.ref r6)] [(.int (0 : Int32)), (.ref a), (.int (0 : Int32))])) rfl rfl (hb hby own_d18_15)
  have Z9 : n0 ≤ h9.size := Nat.le_trans Z6 (Keep.of_wr W9).1
  have K9 := K6.wr W9 (Or.inl (List.mem_of_getElem? (i := 0) rfl))
  have N9 := Fr.snoc X9 NA6 g_a
  have O9 := O6.wr W9 g_a
  have F9 := f10.same W9
  refine Go.back (t' := (T9.setTop (mkF m 18 #[.val (.ref a), .val (.ref b), .val (.ref r6)] [(.int (0 : Int32))]))) st9 ?_
  refine Go.back (t' := (T9.setTop (mkF m 58 #[.val (.ref a), .val (.ref b), .val (.ref r6)] [(.ref a)]))) (fun u k => XS.ifYes X9.here hx rfl (pc0 := 18) (pc' := 57) rfl (hb hby own_d18_18) rfl (XT.i0_eq_t (by decide)) (by decide) (by decide) (XS.aloadN X9.here hx rfl (hb hby own_d18_57) rfl rfl k)) ?_
  obtain ⟨T12, X12, e12, st12⟩ := getS2 X9 hx hZ hown (host := "") (Or.inl (hw _ (List.mem_of_getElem? (i := 172) rfl))) Via.refl e9 (SED.ext O9.2) (g := (mkF m 58 #[.val (.ref a), .val (.ref b), .val (.ref r6)] [(.ref a)])) rfl (hb hby own_d18_58)
  refine Go.back (t' := (T12.setTop (mkF m 61 #[.val (.ref a), .val (.ref b), .val (.ref r6)] [(.ref wD), (.ref a)]))) st12 ?_
  have f14 := ((P1_1.keep Kc6 nin0).other W9 (Or.inr (slot_ne (Or.inl (hw _ (List.mem_of_getElem? (i := 174) rfl))) (Or.inl (hw _ (List.mem_of_getElem? (i := 171) rfl))) (by decide) (t := (.array (.object "java/lang/Object"))) (t' := .int) (by decide) (by decide))))
  have f15 := (f11.wr W9)
  obtain ⟨T13, h13, X13, e13, W13, st13⟩ := putF X12 hx hZ hown (host := "") (Or.inl (hw _ (List.mem_of_getElem? (i := 173) rfl))) Via.refl e12 f14 f15 (Or.inl (hw _ (List.mem_of_getElem? (i := 174) rfl))) (hw _ (List.mem_of_getElem? (i := 114) rfl)) (ty := (.array (.object "java/lang/Object"))) (by decide) rfl rfl (g := (mkF m 61 #[.val (.ref a), .val (.ref b), .val (.ref r6)] [(.ref wD), (.ref a)])) rfl rfl (hb hby own_d18_61)
  have Z13 : n0 ≤ h13.size := Nat.le_trans Z9 (Keep.of_wr W13).1
  have K13 := K9.wr W13 (Or.inl (List.mem_of_getElem? (i := 0) rfl))
  have N13 := Fr.snoc X13 N9 g_a
  have O13 := O9.wr W13 g_a
  have F13 := f14.same W13
  refine Go.back (t' := (T13.setTop (mkF m 64 #[.val (.ref a), .val (.ref b), .val (.ref r6)] []))) st13 ?_
  have f16 := (f15.wr W13)
  obtain ⟨fs, hr, hrun, hended, hW, hsame⟩ := X13.leave (v := none) (fun _ => rfl)
  refine ⟨_, _, X13.returnOut hx Bd.returns (hb hby own_d18_64) hr, hrun, hended, _, _, rfl, ?_, ⟨_, rfl⟩, hW, hsame.mono (by decide) (by decide)⟩
  show Q_own_alInit Z a b eA ka mO wD h0 n0 _ T13.heap _
  rw [e13]
  exact ⟨rfl, N13, K13, f16⟩
theorem own_pn7 : plainName "java/util/Collections$UnmodifiableCollection" = true := by first | (simp [plainName, overriddenIn]; done) | decide +kernel
theorem own_d28_0 : decode jdk_119_method_1_code 0 = .ok (.aload_n 0, 1) := by decide +kernel
theorem own_d28_1 : decode jdk_119_method_1_code 1 = .ok (.invokespecial 1, 3) := by decide +kernel
theorem own_d28_4 : decode jdk_119_method_1_code 4 = .ok (.aload_n 1, 1) := by decide +kernel
theorem own_d28_5 : decode jdk_119_method_1_code 5 = .ok (.ifnonnull 11, 3) := by decide +kernel
theorem own_d28_8 : decode jdk_119_method_1_code 8 = .ok (.new 7, 3) := by decide +kernel
theorem own_d28_11 : decode jdk_119_method_1_code 11 = .ok (.dup, 1) := by decide +kernel
theorem own_d28_12 : decode jdk_119_method_1_code 12 = .ok (.invokespecial 9, 3) := by decide +kernel
theorem own_d28_15 : decode jdk_119_method_1_code 15 = .ok (.athrow, 1) := by decide +kernel
theorem own_d28_16 : decode jdk_119_method_1_code 16 = .ok (.aload_n 0, 1) := by decide +kernel
theorem own_d28_17 : decode jdk_119_method_1_code 17 = .ok (.aload_n 1, 1) := by decide +kernel
theorem own_d28_18 : decode jdk_119_method_1_code 18 = .ok (.putfield 10, 3) := by decide +kernel
theorem own_d28_21 : decode jdk_119_method_1_code 21 = .ok (.return_, 1) := by decide +kernel
theorem own_ef_own_ucInit (m : MethodId) (x0 : Addr) (x1 : Addr) : entryFrame m #[(.ref x0), (.ref x1)] 2 = mkF m 0 #[.val (.ref x0), .val (.ref x1)] [] := by first | (simp [entryFrame, mkF, argsToLocals, Value.category]; done) | rfl
def Q_own_ucInit (Z : State) (a : Addr) (b : Addr) (h0 : Heap) (n0 : Nat) (v : Option Value) (h : Heap) (L : List Loc) : Prop := v = none ∧ Fr n0 L ∧ Keep h0 h [a] ∧ Exa Z h a "java/util/Collections$UnmodifiableRandomAccessList" ∧ Fld Z h a "java/util/Collections$UnmodifiableList" "list" "Ljava/util/List;" .null
set_option maxRecDepth 65536 in
set_option maxHeartbeats 40000000 in
theorem own_ucInit (l : Launch) (Z : State) (a0 : Array Value) (hw : ∀ d ∈ tables_1, d.before a0 Z = true) (ws : List Jvm.Cond) (a : Addr) (b : Addr) (h0 : Heap) (n0 : Nat) (Z0 : n0 ≤ h0.size) (E_a : Exa Z h0 a "java/util/Collections$UnmodifiableRandomAccessList") (F_a_c : Fld Z h0 a "java/util/Collections$UnmodifiableCollection" "c" "Ljava/util/Collection;" .null) (F_a_list : Fld Z h0 a "java/util/Collections$UnmodifiableList" "list" "Ljava/util/List;" .null) (g_a : n0 ≤ a) :
    MetFree l (⟨"java/util/Collections$UnmodifiableCollection", "<init>", "(Ljava/util/Collection;)V"⟩ : MethodName) (head1 (Jvm.Cond.code (⟨"java/util/Collections$UnmodifiableCollection", "<init>", "(Ljava/util/Collection;)V"⟩ : MethodName) jdk_119_method_1_code 2 none :: ws) ({ frames := 1, cells := 0, slots := 0, locals := 12 } : Room)) (fun as_ U => as_ = #[(.ref a), (.ref b)] ∧ Z.Warmed39 U.vm ∧ U.heap = h0) (fun _ _ _ _ _ => True) (fun _ U o U' => ∃ v L, o = .returned v ∧ Q_own_ucInit Z a b h0 n0 v U'.heap L ∧ FrameEnd U o U' L ({ frames := 1, cells := 0, slots := 0, locals := 12 } : Room).cells ({ frames := 1, cells := 0, slots := 0, locals := 12 } : Room).slots) := by
  refine MetFree.of_bodySF (plainFor_of_name own_pn7) hisR ?_
  intro p e s m args below meth c s₁ Bd hml0 hP hK
  obtain ⟨rfl, hZ, hh⟩ := hP
  have hx := Bd.exec
  have hby := Bd.bytes
  have hml : c.maxLocals = 2 := hml0
  have hown : s.vm.findClass "java/util/Collections$UnmodifiableCollection" = some m.cls := findClass_of_methodNamed Bd.named
  have hnm := (name_of_methodNamed Bd.named Bd.method).1
  have X0 : Stand p l e ({ frames := 1, cells := 0, slots := 0, locals := 12 } : Room) s m #[(.ref a), (.ref b)] below meth c s₁ [] 0 0 := Stand.of_body Bd
  have e0 : s₁.heap = h0 := by rw [← hh, Bd.state]; rfl
  have N0 := Fr.nil n0
  have K0 := Keep.refl h0 [a]
  show Go p e below (own_F s below (Q_own_ucInit Z a b h0 n0) ({ frames := 1, cells := 0, slots := 0, locals := 12 } : Room).cells ({ frames := 1, cells := 0, slots := 0, locals := 12 } : Room).slots) (s₁.setTop (entryFrame m #[(.ref a), (.ref b)] 2))
  rw [own_ef_own_ucInit m a b]
  refine Go.back (t' := (s₁.setTop (mkF m 1 #[.val (.ref a), .val (.ref b)] [(.ref a)]))) (fun u k => XS.aloadN X0.here hx rfl (hb hby own_d28_0) rfl rfl k) ?_
  obtain ⟨T1, X1, e1, st1⟩ := initO X0 hx hZ hown (hw _ (List.mem_of_getElem? (i := 210) rfl)) (hw _ (List.mem_of_getElem? (i := 7) rfl)) (hw _ (List.mem_of_getElem? (i := 8) rfl)) e0 (g := (mkF m 1 #[.val (.ref a), .val (.ref b)] [(.ref a)])) rfl (by rw [hml]; rfl) rfl (hb hby own_d28_1) (by decide) (W := 0) (by show 2 * 0 + _ ≤ _; exact Nat.le_of_eq rfl) (by decide)
  refine Go.back (t' := (T1.setTop (mkF m 4 #[.val (.ref a), .val (.ref b)] []))) st1 ?_
  refine Go.back (t' := (T1.setTop (mkF m 18 #[.val (.ref a), .val (.ref b)] [(.ref b), (.ref a)]))) (fun u k => XS.aloadN X1.here hx rfl (hb hby own_d28_4) rfl rfl (XT.ifnonnullYes X1.here hx rfl (pc0 := 5) (pc' := 16) rfl (hb hby own_d28_5) rfl (by decide) (by decide) (XS.aloadN X1.here hx rfl (hb hby own_d28_16) rfl rfl (XS.aloadN X1.here hx rfl (hb hby own_d28_17) rfl rfl k)))) ?_
  obtain ⟨T2, h2, X2, e2, W2, st2⟩ := putF X1 hx hZ hown (host := "") (Or.inl (hw _ (List.mem_of_getElem? (i := 211) rfl))) Via.refl e1 F_a_c E_a (Or.inr ⟨(hw _ (List.mem_of_getElem? (i := 212) rfl)), rfl, hnm⟩) (hw _ (List.mem_of_getElem? (i := 193) rfl)) (ty := (.object "java/util/Collection")) (by decide) rfl rfl (g := (mkF m 18 #[.val (.ref a), .val (.ref b)] [(.ref b), (.ref a)])) rfl rfl (hb hby own_d28_18)
  have Z2 : n0 ≤ h2.size := Nat.le_trans Z0 (Keep.of_wr W2).1
  have K2 := K0.wr W2 (Or.inl (List.mem_of_getElem? (i := 0) rfl))
  have N2 := Fr.snoc X2 N0 g_a
  have F2 := F_a_c.same W2
  refine Go.back (t' := (T2.setTop (mkF m 21 #[.val (.ref a), .val (.ref b)] []))) st2 ?_
  have f3 := (E_a.wr W2)
  have f4 := (F_a_list.other W2 (Or.inr (slot_ne (Or.inr (hw _ (List.mem_of_getElem? (i := 214) rfl))) (Or.inr (hw _ (List.mem_of_getElem? (i := 212) rfl))) (by decide) (t := (.object "java/util/List")) (t' := (.object "java/util/Collection")) (by decide) (by decide))))
  obtain ⟨fs, hr, hrun, hended, hW, hsame⟩ := X2.leave (v := none) (fun _ => rfl)
  refine ⟨_, _, X2.returnOut hx Bd.returns (hb hby own_d28_21) hr, hrun, hended, _, _, rfl, ?_, ⟨_, rfl⟩, hW, hsame.mono (by decide) (by decide)⟩
  show Q_own_ucInit Z a b h0 n0 _ T2.heap _
  rw [e2]
  exact ⟨rfl, N2, K2, f3, f4⟩
theorem own_pd7 : parseMethodDescriptor "(Ljava/util/Collection;)V" = some ⟨[(.object "java/util/Collection")], none⟩ := by decide +kernel
theorem own_pn8 : plainName "java/util/Collections$UnmodifiableList" = true := by first | (simp [plainName, overriddenIn]; done) | decide +kernel
theorem own_d27_0 : decode jdk_120_method_1_code 0 = .ok (.aload_n 0, 1) := by decide +kernel
theorem own_d27_1 : decode jdk_120_method_1_code 1 = .ok (.aload_n 1, 1) := by decide +kernel
theorem own_d27_2 : decode jdk_120_method_1_code 2 = .ok (.invokespecial 1, 3) := by decide +kernel
theorem own_d27_5 : decode jdk_120_method_1_code 5 = .ok (.aload_n 0, 1) := by decide +kernel
theorem own_d27_6 : decode jdk_120_method_1_code 6 = .ok (.aload_n 1, 1) := by decide +kernel
theorem own_d27_7 : decode jdk_120_method_1_code 7 = .ok (.putfield 7, 3) := by decide +kernel
theorem own_d27_10 : decode jdk_120_method_1_code 10 = .ok (.return_, 1) := by decide +kernel
theorem own_ef_own_ulInit (m : MethodId) (x0 : Addr) (x1 : Addr) : entryFrame m #[(.ref x0), (.ref x1)] 2 = mkF m 0 #[.val (.ref x0), .val (.ref x1)] [] := by first | (simp [entryFrame, mkF, argsToLocals, Value.category]; done) | rfl
def Q_own_ulInit (Z : State) (a : Addr) (b : Addr) (h0 : Heap) (n0 : Nat) (v : Option Value) (h : Heap) (L : List Loc) : Prop := v = none ∧ Fr n0 L ∧ Keep h0 h [a] ∧ Exa Z h a "java/util/Collections$UnmodifiableRandomAccessList"
set_option maxRecDepth 65536 in
set_option maxHeartbeats 40000000 in
theorem own_ulInit (l : Launch) (Z : State) (a0 : Array Value) (hw : ∀ d ∈ tables_1, d.before a0 Z = true) (ws : List Jvm.Cond) (a : Addr) (b : Addr) (h0 : Heap) (n0 : Nat) (Z0 : n0 ≤ h0.size) (E_a : Exa Z h0 a "java/util/Collections$UnmodifiableRandomAccessList") (F_a_c : Fld Z h0 a "java/util/Collections$UnmodifiableCollection" "c" "Ljava/util/Collection;" .null) (F_a_list : Fld Z h0 a "java/util/Collections$UnmodifiableList" "list" "Ljava/util/List;" .null) (g_a : n0 ≤ a) :
    MetFree l (⟨"java/util/Collections$UnmodifiableList", "<init>", "(Ljava/util/List;)V"⟩ : MethodName) (head1 (Jvm.Cond.code (⟨"java/util/Collections$UnmodifiableList", "<init>", "(Ljava/util/List;)V"⟩ : MethodName) jdk_120_method_1_code 2 none :: ws) ({ frames := 2, cells := 0, slots := 0, locals := 25 } : Room)) (fun as_ U => as_ = #[(.ref a), (.ref b)] ∧ Z.Warmed39 U.vm ∧ U.heap = h0) (fun _ _ _ _ _ => True) (fun _ U o U' => ∃ v L, o = .returned v ∧ Q_own_ulInit Z a b h0 n0 v U'.heap L ∧ FrameEnd U o U' L ({ frames := 2, cells := 0, slots := 0, locals := 25 } : Room).cells ({ frames := 2, cells := 0, slots := 0, locals := 25 } : Room).slots) := by
  refine MetFree.of_bodySF (plainFor_of_name own_pn8) hisR ?_
  intro p e s m args below meth c s₁ Bd hml0 hP hK
  obtain ⟨rfl, hZ, hh⟩ := hP
  have hx := Bd.exec
  have hby := Bd.bytes
  have hml : c.maxLocals = 2 := hml0
  have hown : s.vm.findClass "java/util/Collections$UnmodifiableList" = some m.cls := findClass_of_methodNamed Bd.named
  have hnm := (name_of_methodNamed Bd.named Bd.method).1
  have X0 : Stand p l e ({ frames := 2, cells := 0, slots := 0, locals := 25 } : Room) s m #[(.ref a), (.ref b)] below meth c s₁ [] 0 0 := Stand.of_body Bd
  have e0 : s₁.heap = h0 := by rw [← hh, Bd.state]; rfl
  have N0 := Fr.nil n0
  have K0 := Keep.refl h0 [a]
  show Go p e below (own_F s below (Q_own_ulInit Z a b h0 n0) ({ frames := 2, cells := 0, slots := 0, locals := 25 } : Room).cells ({ frames := 2, cells := 0, slots := 0, locals := 25 } : Room).slots) (s₁.setTop (entryFrame m #[(.ref a), (.ref b)] 2))
  rw [own_ef_own_ulInit m a b]
  refine Go.back (t' := (s₁.setTop (mkF m 2 #[.val (.ref a), .val (.ref b)] [(.ref b), (.ref a)]))) (fun u k => XS.aloadN X0.here hx rfl (hb hby own_d27_0) rfl rfl (XS.aloadN X0.here hx rfl (hb hby own_d27_1) rfl rfl k)) ?_
  obtain ⟨_, _, ⟨T1, L1, k1, n1⟩, -, X1, ⟨Lc1, hQ1, l1, y1, z1⟩, st1⟩ := X0.specialBack hx (y := (⟨"java/util/Collections$UnmodifiableCollection", "<init>", "(Ljava/util/Collection;)V"⟩ : MethodName)) rfl hown (mvT hZ (hw _ (List.mem_of_getElem? (i := 204) rfl))) (mvT hZ (hw _ (List.mem_of_getElem? (i := 205) rfl))) (mvT hZ (hw _ (List.mem_of_getElem? (i := 209) rfl))) (by decide) (backOf (W := 0) (own_ucInit l Z a0 hw [] a b h0 n0 Z0 E_a F_a_c F_a_list g_a) hZ (hw _ (List.mem_of_getElem? (i := 209) rfl)) (hw _ (List.mem_of_getElem? (i := 208) rfl)) (by decide) (by decide)) (g := (mkF m 2 #[.val (.ref a), .val (.ref b)] [(.ref b), (.ref a)])) rfl (by rw [hml]; rfl) (Steps.refl _) (a := a) (argsL := [(.ref b)]) (rest := []) (lenOf own_pd7 rfl) rfl (by show 2 * 0 + _ ≤ _; exact Nat.le_of_eq rfl) (hb hby own_d27_2) (fun _ _ => ⟨rfl, e0, (by decide : 0 + 0 ≤ _), (by decide : 0 + 0 ≤ _)⟩)
  dsimp only [Pt.U, Pt.locs, Pt.cells, Pt.slots] at X1 l1 y1 z1 st1 hQ1
  subst l1 y1 z1
  obtain ⟨rfl, N1, Kc1, P1_0, P1_1⟩ := hQ1
  have NA1 := Fr.app N0 N1
  have Z1 : n0 ≤ T1.heap.size := Nat.le_trans Z0 Kc1.1
  have K1 := K0.trans Kc1 (allS (Or.inl (List.mem_of_getElem? (i := 0) rfl)) all0)
  refine Go.back (t' := (T1.setTop (mkF m 5 #[.val (.ref a), .val (.ref b)] []))) (fun u k => st1.trans k) ?_
  refine Go.back (t' := (T1.setTop (mkF m 7 #[.val (.ref a), .val (.ref b)] [(.ref b), (.ref a)]))) (fun u k => XS.aloadN X1.here hx rfl (hb hby own_d27_5) rfl rfl (XS.aloadN X1.here hx rfl (hb hby own_d27_6) rfl rfl k)) ?_
  obtain ⟨T2, h2, X2, e2, W2, st2⟩ := putF X1 hx hZ hown (host := "") (Or.inl (hw _ (List.mem_of_getElem? (i := 213) rfl))) Via.refl rfl P1_1 P1_0 (Or.inr ⟨(hw _ (List.mem_of_getElem? (i := 214) rfl)), rfl, hnm⟩) (hw _ (List.mem_of_getElem? (i := 193) rfl)) (ty := (.object "java/util/List")) (by decide) rfl rfl (g := (mkF m 7 #[.val (.ref a), .val (.ref b)] [(.ref b), (.ref a)])) rfl rfl (hb hby own_d27_7)
  have Z2 : n0 ≤ h2.size := Nat.le_trans Z1 (Keep.of_wr W2).1
  have K2 := K1.wr W2 (Or.inl (List.mem_of_getElem? (i := 0) rfl))
  have N2 := Fr.snoc X2 NA1 g_a
  have F2 := P1_1.same W2
  refine Go.back (t' := (T2.setTop (mkF m 10 #[.val (.ref a), .val (.ref b)] []))) st2 ?_
  have f3 := (P1_0.wr W2)
  obtain ⟨fs, hr, hrun, hended, hW, hsame⟩ := X2.leave (v := none) (fun _ => rfl)
  refine ⟨_, _, X2.returnOut hx Bd.returns (hb hby own_d27_10) hr, hrun, hended, _, _, rfl, ?_, ⟨_, rfl⟩, hW, hsame.mono (by decide) (by decide)⟩
  show Q_own_ulInit Z a b h0 n0 _ T2.heap _
  rw [e2]
  exact ⟨rfl, N2, K2, f3⟩
theorem own_pd8 : parseMethodDescriptor "(Ljava/util/List;)V" = some ⟨[(.object "java/util/List")], none⟩ := by decide +kernel
theorem own_pn9 : plainName "java/util/Collections$UnmodifiableRandomAccessList" = true := by first | (simp [plainName, overriddenIn]; done) | decide +kernel
theorem own_d26_0 : decode jdk_121_method_1_code 0 = .ok (.aload_n 0, 1) := by decide +kernel
theorem own_d26_1 : decode jdk_121_method_1_code 1 = .ok (.aload_n 1, 1) := by decide +kernel
theorem own_d26_2 : decode jdk_121_method_1_code 2 = .ok (.invokespecial 1, 3) := by decide +kernel
theorem own_d26_5 : decode jdk_121_method_1_code 5 = .ok (.return_, 1) := by decide +kernel
theorem own_ef_own_urInit (m : MethodId) (x0 : Addr) (x1 : Addr) : entryFrame m #[(.ref x0), (.ref x1)] 2 = mkF m 0 #[.val (.ref x0), .val (.ref x1)] [] := by first | (simp [entryFrame, mkF, argsToLocals, Value.category]; done) | rfl
def Q_own_urInit (Z : State) (a : Addr) (b : Addr) (h0 : Heap) (n0 : Nat) (v : Option Value) (h : Heap) (L : List Loc) : Prop := v = none ∧ Fr n0 L ∧ Keep h0 h [a] ∧ Exa Z h a "java/util/Collections$UnmodifiableRandomAccessList"
set_option maxRecDepth 65536 in
set_option maxHeartbeats 40000000 in
theorem own_urInit (l : Launch) (Z : State) (a0 : Array Value) (hw : ∀ d ∈ tables_1, d.before a0 Z = true) (ws : List Jvm.Cond) (a : Addr) (b : Addr) (h0 : Heap) (n0 : Nat) (Z0 : n0 ≤ h0.size) (E_a : Exa Z h0 a "java/util/Collections$UnmodifiableRandomAccessList") (F_a_c : Fld Z h0 a "java/util/Collections$UnmodifiableCollection" "c" "Ljava/util/Collection;" .null) (F_a_list : Fld Z h0 a "java/util/Collections$UnmodifiableList" "list" "Ljava/util/List;" .null) (g_a : n0 ≤ a) :
    MetFree l (⟨"java/util/Collections$UnmodifiableRandomAccessList", "<init>", "(Ljava/util/List;)V"⟩ : MethodName) (head1 (Jvm.Cond.code (⟨"java/util/Collections$UnmodifiableRandomAccessList", "<init>", "(Ljava/util/List;)V"⟩ : MethodName) jdk_121_method_1_code 2 none :: ws) ({ frames := 3, cells := 0, slots := 0, locals := 38 } : Room)) (fun as_ U => as_ = #[(.ref a), (.ref b)] ∧ Z.Warmed39 U.vm ∧ U.heap = h0) (fun _ _ _ _ _ => True) (fun _ U o U' => ∃ v L, o = .returned v ∧ Q_own_urInit Z a b h0 n0 v U'.heap L ∧ FrameEnd U o U' L ({ frames := 3, cells := 0, slots := 0, locals := 38 } : Room).cells ({ frames := 3, cells := 0, slots := 0, locals := 38 } : Room).slots) := by
  refine MetFree.of_bodySF (plainFor_of_name own_pn9) hisR ?_
  intro p e s m args below meth c s₁ Bd hml0 hP hK
  obtain ⟨rfl, hZ, hh⟩ := hP
  have hx := Bd.exec
  have hby := Bd.bytes
  have hml : c.maxLocals = 2 := hml0
  have hown : s.vm.findClass "java/util/Collections$UnmodifiableRandomAccessList" = some m.cls := findClass_of_methodNamed Bd.named
  have hnm := (name_of_methodNamed Bd.named Bd.method).1
  have X0 : Stand p l e ({ frames := 3, cells := 0, slots := 0, locals := 38 } : Room) s m #[(.ref a), (.ref b)] below meth c s₁ [] 0 0 := Stand.of_body Bd
  have e0 : s₁.heap = h0 := by rw [← hh, Bd.state]; rfl
  have N0 := Fr.nil n0
  have K0 := Keep.refl h0 [a]
  show Go p e below (own_F s below (Q_own_urInit Z a b h0 n0) ({ frames := 3, cells := 0, slots := 0, locals := 38 } : Room).cells ({ frames := 3, cells := 0, slots := 0, locals := 38 } : Room).slots) (s₁.setTop (entryFrame m #[(.ref a), (.ref b)] 2))
  rw [own_ef_own_urInit m a b]
  refine Go.back (t' := (s₁.setTop (mkF m 2 #[.val (.ref a), .val (.ref b)] [(.ref b), (.ref a)]))) (fun u k => XS.aloadN X0.here hx rfl (hb hby own_d26_0) rfl rfl (XS.aloadN X0.here hx rfl (hb hby own_d26_1) rfl rfl k)) ?_
  obtain ⟨_, _, ⟨T1, L1, k1, n1⟩, -, X1, ⟨Lc1, hQ1, l1, y1, z1⟩, st1⟩ := X0.specialBack hx (y := (⟨"java/util/Collections$UnmodifiableList", "<init>", "(Ljava/util/List;)V"⟩ : MethodName)) rfl hown (mvT hZ (hw _ (List.mem_of_getElem? (i := 198) rfl))) (mvT hZ (hw _ (List.mem_of_getElem? (i := 199) rfl))) (mvT hZ (hw _ (List.mem_of_getElem? (i := 203) rfl))) (by decide) (backOf (W := 0) (own_ulInit l Z a0 hw [] a b h0 n0 Z0 E_a F_a_c F_a_list g_a) hZ (hw _ (List.mem_of_getElem? (i := 203) rfl)) (hw _ (List.mem_of_getElem? (i := 202) rfl)) (by decide) (by decide)) (g := (mkF m 2 #[.val (.ref a), .val (.ref b)] [(.ref b), (.ref a)])) rfl (by rw [hml]; rfl) (Steps.refl _) (a := a) (argsL := [(.ref b)]) (rest := []) (lenOf own_pd8 rfl) rfl (by show 2 * 0 + _ ≤ _; exact Nat.le_of_eq rfl) (hb hby own_d26_2) (fun _ _ => ⟨rfl, e0, (by decide : 0 + 0 ≤ _), (by decide : 0 + 0 ≤ _)⟩)
  dsimp only [Pt.U, Pt.locs, Pt.cells, Pt.slots] at X1 l1 y1 z1 st1 hQ1
  subst l1 y1 z1
  obtain ⟨rfl, N1, Kc1, P1_0⟩ := hQ1
  have NA1 := Fr.app N0 N1
  have Z1 : n0 ≤ T1.heap.size := Nat.le_trans Z0 Kc1.1
  have K1 := K0.trans Kc1 (allS (Or.inl (List.mem_of_getElem? (i := 0) rfl)) all0)
  refine Go.back (t' := (T1.setTop (mkF m 5 #[.val (.ref a), .val (.ref b)] []))) (fun u k => st1.trans k) ?_
  obtain ⟨fs, hr, hrun, hended, hW, hsame⟩ := X1.leave (v := none) (fun _ => rfl)
  refine ⟨_, _, X1.returnOut hx Bd.returns (hb hby own_d26_5) hr, hrun, hended, _, _, rfl, ?_, ⟨_, rfl⟩, hW, hsame.mono (by decide) (by decide)⟩
  show Q_own_urInit Z a b h0 n0 _ T1.heap _
  exact ⟨rfl, NA1, K1, P1_0⟩
theorem own_pn10 : plainName "java/util/Collections" = true := by first | (simp [plainName, overriddenIn]; done) | decide +kernel
theorem own_d25_0 : decode jdk_79_method_35_code 0 = .ok (.aload_n 0, 1) := by decide +kernel
theorem own_d25_1 : decode jdk_79_method_35_code 1 = .ok (.invokeinterface 211 1, 5) := by decide +kernel
theorem own_d25_6 : decode jdk_79_method_35_code 6 = .ok (.ldc 212, 2) := by decide +kernel
theorem own_d25_8 : decode jdk_79_method_35_code 8 = .ok (.if_acmp .eq 14, 3) := by decide +kernel
theorem own_d25_11 : decode jdk_79_method_35_code 11 = .ok (.aload_n 0, 1) := by decide +kernel
theorem own_d25_12 : decode jdk_79_method_35_code 12 = .ok (.invokeinterface 214 1, 5) := by decide +kernel
theorem own_d25_17 : decode jdk_79_method_35_code 17 = .ok (.ldc 215, 2) := by decide +kernel
theorem own_d25_19 : decode jdk_79_method_35_code 19 = .ok (.if_acmp .ne 5, 3) := by decide +kernel
theorem own_d25_22 : decode jdk_79_method_35_code 22 = .ok (.aload_n 0, 1) := by decide +kernel
theorem own_d25_23 : decode jdk_79_method_35_code 23 = .ok (.areturn, 1) := by decide +kernel
theorem own_d25_24 : decode jdk_79_method_35_code 24 = .ok (.aload_n 0, 1) := by decide +kernel
theorem own_d25_25 : decode jdk_79_method_35_code 25 = .ok (.instanceof 13, 3) := by decide +kernel
theorem own_d25_28 : decode jdk_79_method_35_code 28 = .ok (.ifCond .eq 14, 3) := by decide +kernel
theorem own_d25_31 : decode jdk_79_method_35_code 31 = .ok (.new 215, 3) := by decide +kernel
theorem own_d25_34 : decode jdk_79_method_35_code 34 = .ok (.dup, 1) := by decide +kernel
theorem own_d25_35 : decode jdk_79_method_35_code 35 = .ok (.aload_n 0, 1) := by decide +kernel
theorem own_d25_36 : decode jdk_79_method_35_code 36 = .ok (.invokespecial 217, 3) := by decide +kernel
theorem own_d25_39 : decode jdk_79_method_35_code 39 = .ok (.goto 11, 3) := by decide +kernel
theorem own_d25_42 : decode jdk_79_method_35_code 42 = .ok (.new 212, 3) := by decide +kernel
theorem own_d25_45 : decode jdk_79_method_35_code 45 = .ok (.dup, 1) := by decide +kernel
theorem own_d25_46 : decode jdk_79_method_35_code 46 = .ok (.aload_n 0, 1) := by decide +kernel
theorem own_d25_47 : decode jdk_79_method_35_code 47 = .ok (.invokespecial 219, 3) := by decide +kernel
theorem own_d25_50 : decode jdk_79_method_35_code 50 = .ok (.areturn, 1) := by decide +kernel
theorem own_ef_own_unm (m : MethodId) (x0 : Addr) : entryFrame m #[(.ref x0)] 1 = mkF m 0 #[.val (.ref x0)] [] := by first | (simp [entryFrame, mkF, argsToLocals, Value.category]; done) | rfl
def Q_own_unm (Z : State) (a : Addr) (mA : Addr) (mL : Addr) (mR : Addr) (h0 : Heap) (n0 : Nat) (v : Option Value) (h : Heap) (L : List Loc) : Prop := ∃ u : Addr, v = some (.ref u) ∧ Fr n0 L ∧ Keep h0 h [] ∧ n0 ≤ u ∧ h0.size ≤ u ∧ Exa Z h u "java/util/Collections$UnmodifiableRandomAccessList"
set_option maxRecDepth 65536 in
set_option maxHeartbeats 40000000 in
theorem own_unm (l : Launch) (Z : State) (a0 : Array Value) (hw : ∀ d ∈ tables_1, d.before a0 Z = true) (ws : List Jvm.Cond) (a : Addr) (mA : Addr) (mL : Addr) (mR : Addr) (h0 : Heap) (n0 : Nat) (Z0 : n0 ≤ h0.size) (E_a : Exa Z h0 a "java/util/ArrayList") (M_mA : Mir Z "java/util/ArrayList" mA) (M_mL : Mir Z "java/util/Collections$UnmodifiableList" mL) (M_mR : Mir Z "java/util/Collections$UnmodifiableRandomAccessList" mR) :
    MetFree l (⟨"java/util/Collections", "unmodifiableList", "(Ljava/util/List;)Ljava/util/List;"⟩ : MethodName) (head1 (Jvm.Cond.code (⟨"java/util/Collections", "unmodifiableList", "(Ljava/util/List;)Ljava/util/List;"⟩ : MethodName) jdk_79_method_35_code 1 (some (.object "java/util/List")) :: ws) ({ frames := 4, cells := 1, slots := 2, locals := 52 } : Room)) (fun as_ U => as_ = #[(.ref a)] ∧ Z.Warmed39 U.vm ∧ U.heap = h0) (fun _ _ _ _ _ => True) (fun _ U o U' => ∃ v L, o = .returned v ∧ Q_own_unm Z a mA mL mR h0 n0 v U'.heap L ∧ FrameEnd U o U' L ({ frames := 4, cells := 1, slots := 2, locals := 52 } : Room).cells ({ frames := 4, cells := 1, slots := 2, locals := 52 } : Room).slots) := by
  refine MetFree.of_bodySF (plainFor_of_name own_pn10) hisR ?_
  intro p e s m args below meth c s₁ Bd hml0 hP hK
  obtain ⟨rfl, hZ, hh⟩ := hP
  have hx := Bd.exec
  have hby := Bd.bytes
  have hml : c.maxLocals = 1 := hml0
  have hown : s.vm.findClass "java/util/Collections" = some m.cls := findClass_of_methodNamed Bd.named
  have hnm := (name_of_methodNamed Bd.named Bd.method).1
  have X0 : Stand p l e ({ frames := 4, cells := 1, slots := 2, locals := 52 } : Room) s m #[(.ref a)] below meth c s₁ [] 0 0 := Stand.of_body Bd
  have e0 : s₁.heap = h0 := by rw [← hh, Bd.state]; rfl
  have N0 := Fr.nil n0
  have K0 := Keep.refl h0 []
  show Go p e below (own_F s below (Q_own_unm Z a mA mL mR h0 n0) ({ frames := 4, cells := 1, slots := 2, locals := 52 } : Room).cells ({ frames := 4, cells := 1, slots := 2, locals := 52 } : Room).slots) (s₁.setTop (entryFrame m #[(.ref a)] 1))
  rw [own_ef_own_unm m a]
  refine Go.back (t' := (s₁.setTop (mkF m 1 #[.val (.ref a)] [(.ref a)]))) (fun u k => XS.aloadN X0.here hx rfl (hb hby own_d25_0) rfl rfl k) ?_
  obtain ⟨T1, X1, e1, st1⟩ := own_gclsI X0 hx hZ (K := "java/util/List") hown (hw _ (List.mem_of_getElem? (i := 179) rfl)) (hw _ (List.mem_of_getElem? (i := 151) rfl)) (Jvm.Free.ULB.iface_rides hZ.alike (hw _ (List.mem_of_getElem? (i := 180) rfl))) (hw _ (List.mem_of_getElem? (i := 181) rfl)) (hw _ (List.mem_of_getElem? (i := 152) rfl)) (hw _ (List.mem_of_getElem? (i := 182) rfl)) (hw _ (List.mem_of_getElem? (i := 183) rfl)) (hw _ (List.mem_of_getElem? (i := 184) rfl)) (hw _ (List.mem_of_getElem? (i := 154) rfl)) ⟨by decide, by decide⟩ (by decide) e0 E_a M_mA (g := (mkF m 1 #[.val (.ref a)] [(.ref a)])) rfl (by rw [hml]; rfl) rfl (hb hby own_d25_1) (by decide) (W := 0) (by show 2 * 0 + _ ≤ _; exact Nat.le_of_eq rfl) (by decide)
  refine Go.back (t' := (T1.setTop (mkF m 6 #[.val (.ref a)] [(.ref mA)]))) st1 ?_
  obtain ⟨T2, X2, e2, st2⟩ := own_ldcM X1 hx hZ hown (hw _ (List.mem_of_getElem? (i := 186) rfl)) M_mL e1 (g := (mkF m 6 #[.val (.ref a)] [(.ref mA)])) rfl (hb hby own_d25_6)
  refine Go.back (t' := (T2.setTop (mkF m 8 #[.val (.ref a)] [(.ref mL), (.ref mA)]))) st2 ?_
  refine Go.back (t' := (T2.setTop (mkF m 12 #[.val (.ref a)] [(.ref a)]))) (fun u k => XT.acmpNo X2.here hx rfl (hb hby own_d25_8) rfl rfl rfl (XT.aa_eq_f (fun q => (Mir.ne M_mA M_mL (by decide)) (Value.ref.inj q))) (XS.aloadN X2.here hx rfl (hb hby own_d25_11) rfl rfl k)) ?_
  obtain ⟨T3, X3, e3, st3⟩ := own_gclsI X2 hx hZ (K := "java/util/List") hown (hw _ (List.mem_of_getElem? (i := 188) rfl)) (hw _ (List.mem_of_getElem? (i := 151) rfl)) (Jvm.Free.ULB.iface_rides hZ.alike (hw _ (List.mem_of_getElem? (i := 180) rfl))) (hw _ (List.mem_of_getElem? (i := 181) rfl)) (hw _ (List.mem_of_getElem? (i := 152) rfl)) (hw _ (List.mem_of_getElem? (i := 182) rfl)) (hw _ (List.mem_of_getElem? (i := 183) rfl)) (hw _ (List.mem_of_getElem? (i := 184) rfl)) (hw _ (List.mem_of_getElem? (i := 154) rfl)) ⟨by decide, by decide⟩ (by decide) e2 E_a M_mA (g := (mkF m 12 #[.val (.ref a)] [(.ref a)])) rfl (by rw [hml]; rfl) rfl (hb hby own_d25_12) (by decide) (W := 0) (by show 2 * 0 + _ ≤ _; exact Nat.le_of_eq rfl) (by decide)
  refine Go.back (t' := (T3.setTop (mkF m 17 #[.val (.ref a)] [(.ref mA)]))) st3 ?_
  obtain ⟨T4, X4, e4, st4⟩ := own_ldcM X3 hx hZ hown (hw _ (List.mem_of_getElem? (i := 189) rfl)) M_mR e3 (g := (mkF m 17 #[.val (.ref a)] [(.ref mA)])) rfl (hb hby own_d25_17)
  refine Go.back (t' := (T4.setTop (mkF m 19 #[.val (.ref a)] [(.ref mR), (.ref mA)]))) st4 ?_
  refine Go.back (t' := (T4.setTop (mkF m 25 #[.val (.ref a)] [(.ref a)]))) (fun u k => XT.acmpYes X4.here hx rfl (pc0 := 19) (pc' := 24) rfl (hb hby own_d25_19) rfl rfl rfl (XT.aa_ne_t (fun q => (Mir.ne M_mA M_mR (by decide)) (Value.ref.inj q))) (by decide) (by decide) (XS.aloadN X4.here hx rfl (hb hby own_d25_24) rfl rfl k)) ?_
  obtain ⟨T5, X5, e5, st5⟩ := instY X4 hx hZ hown (hw _ (List.mem_of_getElem? (i := 191) rfl)) e4 (Ins.of_exa E_a (hw _ (List.mem_of_getElem? (i := 192) rfl))) (g := (mkF m 25 #[.val (.ref a)] [(.ref a)])) rfl rfl (hb hby own_d25_25)
  refine Go.back (t' := (T5.setTop (mkF m 28 #[.val (.ref a)] [(.int (1 : Int32))]))) st5 ?_
  refine Go.back (t' := (T5.setTop (mkF m 31 #[.val (.ref a)] []))) (fun u k => XS.ifNo X5.here hx rfl (hb hby own_d25_28) rfl (XT.i0_eq_f (by decide)) k) ?_
  obtain ⟨T6, h6, X6, e6, E6, A6, D6, -, st6⟩ := newO X5 hx hZ hown (hw _ (List.mem_of_getElem? (i := 189) rfl)) (hw _ (List.mem_of_getElem? (i := 193) rfl)) (hw _ (List.mem_of_getElem? (i := 194) rfl)) e5 (g := (mkF m 31 #[.val (.ref a)] [])) rfl (hb hby own_d25_31) (by decide) (by decide)
  obtain ⟨b6, g6⟩ : ∃ z, z = h0.size := ⟨_, rfl⟩
  rw [← g6] at A6 D6 st6
  have ne_a_b6 : a ≠ b6 := Nat.ne_of_lt (Nat.lt_of_lt_of_le E_a.lt (Nat.le_of_eq g6.symm))
  have gb6 : n0 ≤ b6 := Nat.le_trans Z0 (Nat.le_of_eq g6.symm)
  have sz6 : h0.size ≤ b6 := Nat.le_trans K0.1 (Nat.le_of_eq g6.symm)
  have Z6 : n0 ≤ h6.size := Nat.le_trans Z0 E6.1
  have K6 := K0.ext E6
  refine Go.back (t' := (T6.setTop (mkF m 34 #[.val (.ref a)] [(.ref b6)]))) st6 ?_
  refine Go.back (t' := (T6.setTop (mkF m 36 #[.val (.ref a)] [(.ref a), (.ref b6), (.ref b6)]))) (fun u k => XS.dup X6.here hx rfl (hb hby own_d25_34) rfl rfl (XS.aloadN X6.here hx rfl (hb hby own_d25_35) rfl rfl k)) ?_
  obtain ⟨_, _, ⟨T7, L7, k7, n7⟩, -, X7, ⟨Lc7, hQ7, l7, y7, z7⟩, st7⟩ := X6.specialBack hx (y := (⟨"java/util/Collections$UnmodifiableRandomAccessList", "<init>", "(Ljava/util/List;)V"⟩ : MethodName)) rfl hown (mvT hZ (hw _ (List.mem_of_getElem? (i := 195) rfl))) (mvT hZ (hw _ (List.mem_of_getElem? (i := 196) rfl))) (mvT hZ (hw _ (List.mem_of_getElem? (i := 197) rfl))) (by decide) (backOf (W := 1) (own_urInit l Z a0 hw [] b6 a h6 n0 Z6 A6 (D6 (Or.inr (hw _ (List.mem_of_getElem? (i := 212) rfl))) (ty := (.object "java/util/Collection")) (by decide)) (D6 (Or.inr (hw _ (List.mem_of_getElem? (i := 214) rfl))) (ty := (.object "java/util/List")) (by decide)) gb6) hZ (hw _ (List.mem_of_getElem? (i := 197) rfl)) (hw _ (List.mem_of_getElem? (i := 194) rfl)) (by decide) (by decide)) (g := (mkF m 36 #[.val (.ref a)] [(.ref a), (.ref b6), (.ref b6)])) rfl (by rw [hml]; rfl) (Steps.refl _) (a := b6) (argsL := [(.ref a)]) (rest := [(.ref b6)]) (lenOf own_pd8 rfl) rfl (by show 2 * 0 + _ ≤ _; exact Nat.le_of_eq rfl) (hb hby own_d25_36) (fun _ _ => ⟨rfl, e6, (by decide : 1 + 0 ≤ _), (by decide : 2 + 0 ≤ _)⟩)
  dsimp only [Pt.U, Pt.locs, Pt.cells, Pt.slots] at X7 l7 y7 z7 st7 hQ7
  subst l7 y7 z7
  obtain ⟨rfl, N7, Kc7, P7_0⟩ := hQ7
  have NA7 := Fr.app N0 N7
  have Z7 : n0 ≤ T7.heap.size := Nat.le_trans Z6 Kc7.1
  have K7 := K6.trans Kc7 (allS (Or.inr sz6) all0)
  refine Go.back (t' := (T7.setTop (mkF m 39 #[.val (.ref a)] [(.ref b6)]))) (fun u k => st7.trans k) ?_
  refine Go.back (t' := (T7.setTop (mkF m 50 #[.val (.ref a)] [(.ref b6)]))) (fun u k => XS.goto X7.here hx rfl (pc0 := 39) (pc' := 50) rfl (hb hby own_d25_39) (by decide) (by decide) k) ?_
  obtain ⟨fs, hr, hrun, hended, hW, hsame⟩ := X7.leave (v := some (.ref b6)) (fun h => by rw [Bd.returns] at h; cases h)
  refine ⟨_, _, retOut X7 hx (t := (.object "java/util/List")) (i := .areturn) Bd.returns rfl (Or.inr (Or.inr (Or.inr (Or.inr ⟨rfl, rfl, rfl⟩)))) (hb hby own_d25_50) hr, hrun, hended, _, _, rfl, ?_, ⟨_, rfl⟩, hW, hsame.mono (by decide) (by decide)⟩
  show Q_own_unm Z a mA mL mR h0 n0 _ T7.heap _
  exact ⟨b6, rfl, NA7, K7, gb6, sz6, P7_0⟩
theorem own_pd9 : parseMethodDescriptor "(Ljava/util/List;)Ljava/util/List;" = some ⟨[(.object "java/util/List")], some (.object "java/util/List")⟩ := by decide +kernel
theorem own_pn11 : plainName "com/example/binfold/binfold/mime/Headers" = true := by first | (simp [plainName, overriddenIn]; done) | decide +kernel
theorem own_d17_0 : decode prog_55_method_2_code 0 = .ok (.aload_n 0, 1) := by decide +kernel
theorem own_d17_1 : decode prog_55_method_2_code 1 = .ok (.invokespecial 13, 3) := by decide +kernel
theorem own_d17_4 : decode prog_55_method_2_code 4 = .ok (.aload_n 0, 1) := by decide +kernel
theorem own_d17_5 : decode prog_55_method_2_code 5 = .ok (.new 18, 3) := by decide +kernel
theorem own_d17_8 : decode prog_55_method_2_code 8 = .ok (.dup, 1) := by decide +kernel
theorem own_d17_9 : decode prog_55_method_2_code 9 = .ok (.aload_n 1, 1) := by decide +kernel
theorem own_d17_10 : decode prog_55_method_2_code 10 = .ok (.invokespecial 20, 3) := by decide +kernel
theorem own_d17_13 : decode prog_55_method_2_code 13 = .ok (.invokestatic 23, 3) := by decide +kernel
theorem own_d17_16 : decode prog_55_method_2_code 16 = .ok (.putfield 29, 3) := by decide +kernel
theorem own_d17_19 : decode prog_55_method_2_code 19 = .ok (.return_, 1) := by decide +kernel
theorem own_ef_own_hd1 (m : MethodId) (x0 : Addr) (x1 : Addr) : entryFrame m #[(.ref x0), (.ref x1)] 2 = mkF m 0 #[.val (.ref x0), .val (.ref x1)] [] := by first | (simp [entryFrame, mkF, argsToLocals, Value.category]; done) | rfl
def Q_own_hd1 (Z : State) (a : Addr) (b : Addr) (eA : Addr) (ka : ClassId) (wD : Addr) (mO : Addr) (mA : Addr) (mL : Addr) (mR : Addr) (h0 : Heap) (n0 : Nat) (v : Option Value) (h : Heap) (L : List Loc) : Prop := v = none ∧ Fr n0 L ∧ Keep h0 h [a] ∧ Exa Z h a "com/example/binfold/binfold/mime/Headers"
set_option maxRecDepth 65536 in
set_option maxHeartbeats 40000000 in
theorem own_hd1 (l : Launch) (Z : State) (a0 : Array Value) (hw : ∀ d ∈ tables_1, d.before a0 Z = true) (ws : List Jvm.Cond) (a : Addr) (b : Addr) (eA : Addr) (ka : ClassId) (wD : Addr) (mO : Addr) (mA : Addr) (mL : Addr) (mR : Addr) (h0 : Heap) (n0 : Nat) (Z0 : n0 ≤ h0.size) (E_a : Exa Z h0 a "com/example/binfold/binfold/mime/Headers") (E_b : Exa Z h0 b "java/util/ImmutableCollections$ListN") (F_a_fields : Fld Z h0 a "com/example/binfold/binfold/mime/Headers" "fields" "Ljava/util/List;" .null) (F_b_elements : Fld Z h0 b "java/util/ImmutableCollections$ListN" "elements" "[Ljava/lang/Object;" (.ref eA)) (g_a : n0 ≤ a) (ne_a_b : a ≠ b) (ne_a_eA : a ≠ eA) (Old0 : Old Z n0 h0) (E_eA : Exa Z h0 eA "[Ljava/lang/Object;") (V_eA : Arv Z h0 eA ka (.object "java/lang/Object") (0 : Int32) [] .null) (M_mO : Mir Z "[Ljava/lang/Object;" mO) (M_mA : Mir Z "java/util/ArrayList" mA) (M_mL : Mir Z "java/util/Collections$UnmodifiableList" mL) (M_mR : Mir Z "java/util/Collections$UnmodifiableRandomAccessList" mR) (SED : Sta Z Z.heap "java/util/ArrayList" "EMPTY_ELEMENTDATA" "[Ljava/lang/Object;" (.ref wD)) :
    MetFree l (⟨"com/example/binfold/binfold/mime/Headers", "<init>", "(Ljava/util/List;)V"⟩ : MethodName) (head1 (Jvm.Cond.code (⟨"com/example/binfold/binfold/mime/Headers", "<init>", "(Ljava/util/List;)V"⟩ : MethodName) prog_55_method_2_code 2 none :: ws) ({ frames := 5, cells := 3, slots := 5, locals := 80 } : Room)) (fun as_ U => as_ = #[(.ref a), (.ref b)] ∧ Z.Warmed39 U.vm ∧ U.heap = h0) (fun _ _ _ _ _ => True) (fun _ U o U' => ∃ v L, o = .returned v ∧ Q_own_hd1 Z a b eA ka wD mO mA mL mR h0 n0 v U'.heap L ∧ FrameEnd U o U' L ({ frames := 5, cells := 3, slots := 5, locals := 80 } : Room).cells ({ frames := 5, cells := 3, slots := 5, locals := 80 } : Room).slots) := by
  refine MetFree.of_bodySF (plainFor_of_name own_pn11) hisR ?_
  intro p e s m args below meth c s₁ Bd hml0 hP hK
  obtain ⟨rfl, hZ, hh⟩ := hP
  have hx := Bd.exec
  have hby := Bd.bytes
  have hml : c.maxLocals = 2 := hml0
  have hown : s.vm.findClass "com/example/binfold/binfold/mime/Headers" = some m.cls := findClass_of_methodNamed Bd.named
  have hnm := (name_of_methodNamed Bd.named Bd.method).1
  have X0 : Stand p l e ({ frames := 5, cells := 3, slots := 5, locals := 80 } : Room) s m #[(.ref a), (.ref b)] below meth c s₁ [] 0 0 := Stand.of_body Bd
  have e0 : s₁.heap = h0 := by rw [← hh, Bd.state]; rfl
  have N0 := Fr.nil n0
  have K0 := Keep.refl h0 [a]
  show Go p e below (own_F s below (Q_own_hd1 Z a b eA ka wD mO mA mL mR h0 n0) ({ frames := 5, cells := 3, slots := 5, locals := 80 } : Room).cells ({ frames := 5, cells := 3, slots := 5, locals := 80 } : Room).slots) (s₁.setTop (entryFrame m #[(.ref a), (.ref b)] 2))
  rw [own_ef_own_hd1 m a b]
  refine Go.back (t' := (s₁.setTop (mkF m 1 #[.val (.ref a), .val (.ref b)] [(.ref a)]))) (fun u k => XS.aloadN X0.here hx rfl (hb hby own_d17_0) rfl rfl k) ?_
  obtain ⟨T1, X1, e1, st1⟩ := initO X0 hx hZ hown (hw _ (List.mem_of_getElem? (i := 112) rfl)) (hw _ (List.mem_of_getElem? (i := 7) rfl)) (hw _ (List.mem_of_getElem? (i := 8) rfl)) e0 (g := (mkF m 1 #[.val (.ref a), .val (.ref b)] [(.ref a)])) rfl (by rw [hml]; rfl) rfl (hb hby own_d17_1) (by decide) (W := 0) (by show 2 * 0 + _ ≤ _; exact Nat.le_of_eq rfl) (by decide)
  refine Go.back (t' := (T1.setTop (mkF m 4 #[.val (.ref a), .val (.ref b)] []))) st1 ?_
  refine Go.back (t' := (T1.setTop (mkF m 5 #[.val (.ref a), .val (.ref b)] [(.ref a)]))) (fun u k => XS.aloadN X1.here hx rfl (hb hby own_d17_4) rfl rfl k) ?_
  obtain ⟨T2, h2, X2, e2, E2, A2, D2, -, st2⟩ := newO X1 hx hZ hown (hw _ (List.mem_of_getElem? (i := 113) rfl)) (hw _ (List.mem_of_getElem? (i := 114) rfl)) (hw _ (List.mem_of_getElem? (i := 115) rfl)) e1 (g := (mkF m 5 #[.val (.ref a), .val (.ref b)] [(.ref a)])) rfl (hb hby own_d17_5) (by decide) (by decide)
  obtain ⟨b2, g2⟩ : ∃ z, z = h0.size := ⟨_, rfl⟩
  rw [← g2] at A2 D2 st2
  have ne_a_b2 : a ≠ b2 := Nat.ne_of_lt (Nat.lt_of_lt_of_le E_a.lt (Nat.le_of_eq g2.symm))
  have ne_b_b2 : b ≠ b2 := Nat.ne_of_lt (Nat.lt_of_lt_of_le E_b.lt (Nat.le_of_eq g2.symm))
  have ne_eA_b2 : eA ≠ b2 := Nat.ne_of_lt (Nat.lt_of_lt_of_le E_eA.lt (Nat.le_of_eq g2.symm))
  have gb2 : n0 ≤ b2 := Nat.le_trans Z0 (Nat.le_of_eq g2.symm)
  have sz2 : h0.size ≤ b2 := Nat.le_trans K0.1 (Nat.le_of_eq g2.symm)
  have Z2 : n0 ≤ h2.size := Nat.le_trans Z0 E2.1
  have K2 := K0.ext E2
  have O2 := Old0.ext E2
  refine Go.back (t' := (T2.setTop (mkF m 8 #[.val (.ref a), .val (.ref b)] [(.ref b2), (.ref a)]))) st2 ?_
  refine Go.back (t' := (T2.setTop (mkF m 10 #[.val (.ref a), .val (.ref b)] [(.ref b), (.ref b2), (.ref b2), (.ref a)]))) (fun u k => XS.dup X2.here hx rfl (hb hby own_d17_8) rfl rfl (XS.aloadN X2.here hx rfl (hb hby own_d17_9) rfl rfl k)) ?_
  have f3 := (E_b.ext E2)
  have f4 := (F_b_elements.ext E2)
  have f5 := (E_eA.ext E2)
  have f6 := (V_eA.ext E2)
  obtain ⟨_, _, ⟨T7, L7, k7, n7⟩, -, X7, ⟨Lc7, hQ7, l7, y7, z7⟩, st7⟩ := X2.specialBack hx (y := (⟨"java/util/ArrayList", "<init>", "(Ljava/util/Collection;)V"⟩ : MethodName)) rfl hown (mvT hZ (hw _ (List.mem_of_getElem? (i := 116) rfl))) (mvT hZ (hw _ (List.mem_of_getElem? (i := 117) rfl))) (mvT hZ (hw _ (List.mem_of_getElem? (i := 118) rfl))) (by decide) (backOf (W := 2) (own_alInit l Z a0 hw [] b2 b eA ka mO wD h2 n0 Z2 A2 f3 (D2 (Or.inl (hw _ (List.mem_of_getElem? (i := 133) rfl))) (ty := .int) (by decide)) (D2 (Or.inl (hw _ (List.mem_of_getElem? (i := 174) rfl))) (ty := (.array (.object "java/lang/Object"))) (by decide)) (D2 (Or.inl (hw _ (List.mem_of_getElem? (i := 171) rfl))) (ty := .int) (by decide)) f4 gb2 (Ne.symm ne_b_b2) (Ne.symm ne_eA_b2) O2 f5 f6 M_mO SED) hZ (hw _ (List.mem_of_getElem? (i := 118) rfl)) (hw _ (List.mem_of_getElem? (i := 115) rfl)) (by decide) (by decide)) (g := (mkF m 10 #[.val (.ref a), .val (.ref b)] [(.ref b), (.ref b2), (.ref b2), (.ref a)])) rfl (by rw [hml]; rfl) (Steps.refl _) (a := b2) (argsL := [(.ref b)]) (rest := [(.ref b2), (.ref a)]) (lenOf own_pd7 rfl) rfl (by show 2 * 0 + _ ≤ _; exact Nat.le_of_eq rfl) (hb hby own_d17_10) (fun _ _ => ⟨rfl, e2, (by decide : 1 + 1 ≤ _), (by decide : 3 + 0 ≤ _)⟩)
  dsimp only [Pt.U, Pt.locs, Pt.cells, Pt.slots] at X7 l7 y7 z7 st7 hQ7
  subst l7 y7 z7
  obtain ⟨rfl, N7, Kc7, P7_0⟩ := hQ7
  have NA7 := Fr.app N0 N7
  have Z7 : n0 ≤ T7.heap.size := Nat.le_trans Z2 Kc7.1
  have K7 := K2.trans Kc7 (allS (Or.inr sz2) all0)
  have O7 := O2.keep Kc7 (allS gb2 all0)
  refine Go.back (t' := (T7.setTop (mkF m 13 #[.val (.ref a), .val (.ref b)] [(.ref b2), (.ref a)]))) (fun u k => st7.trans k) ?_
  obtain ⟨_, _, ⟨T8, L8, k8, n8⟩, -, X8, ⟨Lc8, hQ8, l8, y8, z8⟩, st8⟩ := Jvm.LawKit.callS X7 hx (y := (⟨"java/util/Collections", "unmodifiableList", "(Ljava/util/List;)Ljava/util/List;"⟩ : MethodName)) hown (mvT hZ (hw _ (List.mem_of_getElem? (i := 175) rfl))) (mvT hZ (hw _ (List.mem_of_getElem? (i := 176) rfl))) (mvT hZ (hw _ (List.mem_of_getElem? (i := 177) rfl))) (mvT hZ (hw _ (List.mem_of_getElem? (i := 178) rfl))) (by decide) (backOf (W := 1) (own_unm l Z a0 hw [] b2 mA mL mR T7.heap n0 Z7 P7_0 M_mA M_mL M_mR) hZ (hw _ (List.mem_of_getElem? (i := 178) rfl)) (hw _ (List.mem_of_getElem? (i := 177) rfl)) (by decide) (by decide)) (g := (mkF m 13 #[.val (.ref a), .val (.ref b)] [(.ref b2), (.ref a)])) rfl (by rw [hml]; rfl) (argsL := [(.ref b2)]) (rest := [(.ref a)]) (lenOf own_pd9 rfl) rfl (by show 2 * 0 + _ ≤ _; exact Nat.le_of_eq rfl) (hb hby own_d17_13) (fun _ _ => ⟨rfl, rfl, (by decide : 2 + 1 ≤ _), (by decide : 3 + 2 ≤ _)⟩)
  dsimp only [Pt.U, Pt.locs, Pt.cells, Pt.slots] at X8 l8 y8 z8 st8 hQ8
  subst l8 y8 z8
  obtain ⟨u8, rfl, N8, Kc8, gb_u8, szc_u8, P8_0⟩ := hQ8
  have NA8 := Fr.app NA7 N8
  have Z8 : n0 ≤ T8.heap.size := Nat.le_trans Z7 Kc8.1
  have K8 := K7.trans Kc8 all0
  have O8 := O7.keep Kc8 all0
  have sz_u8 : h0.size ≤ u8 := Nat.le_trans K7.1 szc_u8
  have f9 := ((E_a.ext E2).keep Kc7)
  have ne_a_u8 : a ≠ u8 := Nat.ne_of_lt (Nat.lt_of_lt_of_le f9.lt szc_u8)
  have f10 := (f3.keep Kc7)
  have ne_b_u8 : b ≠ u8 := Nat.ne_of_lt (Nat.lt_of_lt_of_le f10.lt szc_u8)
  have f11 := (f5.keep Kc7)
  have ne_eA_u8 : eA ≠ u8 := Nat.ne_of_lt (Nat.lt_of_lt_of_le f11.lt szc_u8)
  have ne_b2_u8 : b2 ≠ u8 := Nat.ne_of_lt (Nat.lt_of_lt_of_le P7_0.lt szc_u8)
  refine Go.back (t' := (T8.setTop (mkF m 16 #[.val (.ref a), .val (.ref b)] [(.ref u8), (.ref a)]))) st8 ?_
  have f13 := (((F_a_fields.ext E2).keep Kc7 (ninS ne_a_b2 nin0)).keep Kc8 nin0)
  have f14 := (f9.keep Kc8)
  obtain ⟨T12, h12, X12, e12, W12, st12⟩ := putF X8 hx hZ hown (host := "") (Or.inl (hw _ (List.mem_of_getElem? (i := 215) rfl))) Via.refl rfl f13 f14 (Or.inr ⟨(hw _ (List.mem_of_getElem? (i := 216) rfl)), rfl, hnm⟩) (hw _ (List.mem_of_getElem? (i := 98) rfl)) (ty := (.object "java/util/List")) (by decide) rfl rfl (g := (mkF m 16 #[.val (.ref a), .val (.ref b)] [(.ref u8), (.ref a)])) rfl rfl (hb hby own_d17_16)
  have Z12 : n0 ≤ h12.size := Nat.le_trans Z8 (Keep.of_wr W12).1
  have K12 := K8.wr W12 (Or.inl (List.mem_of_getElem? (i := 0) rfl))
  have N12 := Fr.snoc X12 NA8 g_a
  have O12 := O8.wr W12 g_a
  have F12 := f13.same W12
  refine Go.back (t' := (T12.setTop (mkF m 19 #[.val (.ref a), .val (.ref b)] []))) st12 ?_
  have f15 := (f14.wr W12)
  obtain ⟨fs, hr, hrun, hended, hW, hsame⟩ := X12.leave (v := none) (fun _ => rfl)
  refine ⟨_, _, X12.returnOut hx Bd.returns (hb hby own_d17_19) hr, hrun, hended, _, _, rfl, ?_, ⟨_, rfl⟩, hW, hsame.mono (by decide) (by decide)⟩
  show Q_own_hd1 Z a b eA ka wD mO mA mL mR h0 n0 _ T12.heap _
  rw [e12]
  exact ⟨rfl, N12, K12, f15⟩
theorem own_pn12 : plainName "java/util/List" = true := by first | (simp [plainName, overriddenIn]; done) | decide +kernel
theorem own_d16_0 : decode jdk_40_method_36_code 0 = .ok (.getstatic 90, 3) := by decide +kernel
theorem own_d16_3 : decode jdk_40_method_36_code 3 = .ok (.areturn, 1) := by decide +kernel
theorem own_ef_own_of (m : MethodId)  : entryFrame m #[] 0 = mkF m 0 #[] [] := by first | (simp [entryFrame, mkF, argsToLocals, Value.category]; done) | rfl
def Q_own_of (Z : State) (eL : Addr) (h0 : Heap) (n0 : Nat) (v : Option Value) (h : Heap) (L : List Loc) : Prop := v = some (.ref eL) ∧ Fr n0 L ∧ h = h0
set_option maxRecDepth 65536 in
set_option maxHeartbeats 40000000 in
theorem own_of (l : Launch) (Z : State) (a0 : Array Value) (hw : ∀ d ∈ tables_1, d.before a0 Z = true) (ws : List Jvm.Cond) (eL : Addr) (h0 : Heap) (n0 : Nat) (Z0 : n0 ≤ h0.size) (Old0 : Old Z n0 h0) (SEL : Sta Z Z.heap "java/util/ImmutableCollections" "EMPTY_LIST" "Ljava/util/ImmutableCollections$ListN;" (.ref eL)) :
    MetFree l (⟨"java/util/List", "of", "()Ljava/util/List;"⟩ : MethodName) (head1 (Jvm.Cond.code (⟨"java/util/List", "of", "()Ljava/util/List;"⟩ : MethodName) jdk_40_method_36_code 0 (some (.object "java/util/List")) :: ws) ({ frames := 0, cells := 0, slots := 0, locals := 0 } : Room)) (fun as_ U => as_ = #[] ∧ Z.Warmed39 U.vm ∧ U.heap = h0) (fun _ _ _ _ _ => True) (fun _ U o U' => ∃ v L, o = .returned v ∧ Q_own_of Z eL h0 n0 v U'.heap L ∧ FrameEnd U o U' L ({ frames := 0, cells := 0, slots := 0, locals := 0 } : Room).cells ({ frames := 0, cells := 0, slots := 0, locals := 0 } : Room).slots) := by
  refine MetFree.of_bodySF (plainFor_of_name own_pn12) hisR ?_
  intro p e s m args below meth c s₁ Bd hml0 hP hK
  obtain ⟨rfl, hZ, hh⟩ := hP
  have hx := Bd.exec
  have hby := Bd.bytes
  have hml : c.maxLocals = 0 := hml0
  have hown : s.vm.findClass "java/util/List" = some m.cls := findClass_of_methodNamed Bd.named
  have hnm := (name_of_methodNamed Bd.named Bd.method).1
  have X0 : Stand p l e ({ frames := 0, cells := 0, slots := 0, locals := 0 } : Room) s m #[] below meth c s₁ [] 0 0 := Stand.of_body Bd
  have e0 : s₁.heap = h0 := by rw [← hh, Bd.state]; rfl
  have N0 := Fr.nil n0
  have K0 := Keep.refl h0 []
  show Go p e below (own_F s below (Q_own_of Z eL h0 n0) ({ frames := 0, cells := 0, slots := 0, locals := 0 } : Room).cells ({ frames := 0, cells := 0, slots := 0, locals := 0 } : Room).slots) (s₁.setTop (entryFrame m #[] 0))
  rw [own_ef_own_of m ]
  obtain ⟨T1, X1, e1, st1⟩ := getS2 X0 hx hZ hown (host := "") (Or.inl (hw _ (List.mem_of_getElem? (i := 107) rfl))) Via.refl e0 (SEL.ext Old0.2) (g := (mkF m 0 #[] [])) rfl (hb hby own_d16_0)
  refine Go.back (t' := (T1.setTop (mkF m 3 #[] [(.ref eL)]))) st1 ?_
  obtain ⟨fs, hr, hrun, hended, hW, hsame⟩ := X1.leave (v := some (.ref eL)) (fun h => by rw [Bd.returns] at h; cases h)
  refine ⟨_, _, retOut X1 hx (t := (.object "java/util/List")) (i := .areturn) Bd.returns rfl (Or.inr (Or.inr (Or.inr (Or.inr ⟨rfl, rfl, rfl⟩)))) (hb hby own_d16_3) hr, hrun, hended, _, _, rfl, ?_, ⟨_, rfl⟩, hW, hsame.mono (by decide) (by decide)⟩
  show Q_own_of Z eL h0 n0 _ T1.heap _
  rw [e1]
  exact ⟨rfl, N0, rfl⟩
theorem own_pd10 : parseMethodDescriptor "()Ljava/util/List;" = some ⟨[], some (.object "java/util/List")⟩ := by decide +kernel
theorem own_d15_0 : decode prog_55_method_1_code 0 = .ok (.aload_n 0, 1) := by decide +kernel
theorem own_d15_1 : decode prog_55_method_1_code 1 = .ok (.invokestatic 1, 3) := by decide +kernel
theorem own_d15_4 : decode prog_55_method_1_code 4 = .ok (.invokespecial 7, 3) := by decide +kernel
theorem own_d15_7 : decode prog_55_method_1_code 7 = .ok (.return_, 1) := by decide +kernel
theorem own_ef_own_hd0 (m : MethodId) (x0 : Addr) : entryFrame m #[(.ref x0)] 1 = mkF m 0 #[.val (.ref x0)] [] := by first | (simp [entryFrame, mkF, argsToLocals, Value.category]; done) | rfl
def Q_own_hd0 (Z : State) (a : Addr) (eL : Addr) (eA : Addr) (ka : ClassId) (wD : Addr) (mO : Addr) (mA : Addr) (mL : Addr) (mR : Addr) (h0 : Heap) (n0 : Nat) (v : Option Value) (h : Heap) (L : List Loc) : Prop := v = none ∧ Fr n0 L ∧ Keep h0 h [a] ∧ Exa Z h a "com/example/binfold/binfold/mime/Headers"
set_option maxRecDepth 65536 in
set_option maxHeartbeats 40000000 in
theorem own_hd0 (l : Launch) (Z : State) (a0 : Array Value) (hw : ∀ d ∈ tables_1, d.before a0 Z = true) (ws : List Jvm.Cond) (a : Addr) (eL : Addr) (eA : Addr) (ka : ClassId) (wD : Addr) (mO : Addr) (mA : Addr) (mL : Addr) (mR : Addr) (h0 : Heap) (n0 : Nat) (Z0 : n0 ≤ h0.size) (E_a : Exa Z h0 a "com/example/binfold/binfold/mime/Headers") (F_a_fields : Fld Z h0 a "com/example/binfold/binfold/mime/Headers" "fields" "Ljava/util/List;" .null) (g_a : n0 ≤ a) (Old0 : Old Z n0 h0) (SEL : Sta Z Z.heap "java/util/ImmutableCollections" "EMPTY_LIST" "Ljava/util/ImmutableCollections$ListN;" (.ref eL)) (E_eL : Exa Z h0 eL "java/util/ImmutableCollections$ListN") (F_eL_elements : Fld Z h0 eL "java/util/ImmutableCollections$ListN" "elements" "[Ljava/lang/Object;" (.ref eA)) (E_eA : Exa Z h0 eA "[Ljava/lang/Object;") (V_eA : Arv Z h0 eA ka (.object "java/lang/Object") (0 : Int32) [] .null) (M_mO : Mir Z "[Ljava/lang/Object;" mO) (M_mA : Mir Z "java/util/ArrayList" mA) (M_mL : Mir Z "java/util/Collections$UnmodifiableList" mL) (M_mR : Mir Z "java/util/Collections$UnmodifiableRandomAccessList" mR) (SED : Sta Z Z.heap "java/util/ArrayList" "EMPTY_ELEMENTDATA" "[Ljava/lang/Object;" (.ref wD)) (ne_a_eL : a ≠ eL) (ne_a_eA : a ≠ eA) :
    MetFree l (⟨"com/example/binfold/binfold/mime/Headers", "<init>", "()V"⟩ : MethodName) (head1 (Jvm.Cond.code (⟨"com/example/binfold/binfold/mime/Headers", "<init>", "()V"⟩ : MethodName) prog_55_method_1_code 1 none :: ws) ({ frames := 6, cells := 3, slots := 5, locals := 93 } : Room)) (fun as_ U => as_ = #[(.ref a)] ∧ Z.Warmed39 U.vm ∧ U.heap = h0) (fun _ _ _ _ _ => True) (fun _ U o U' => ∃ v L, o = .returned v ∧ Q_own_hd0 Z a eL eA ka wD mO mA mL mR h0 n0 v U'.heap L ∧ FrameEnd U o U' L ({ frames := 6, cells := 3, slots := 5, locals := 93 } : Room).cells ({ frames := 6, cells := 3, slots := 5, locals := 93 } : Room).slots) := by
  refine MetFree.of_bodySF (plainFor_of_name own_pn11) hisR ?_
  intro p e s m args below meth c s₁ Bd hml0 hP hK
  obtain ⟨rfl, hZ, hh⟩ := hP
  have hx := Bd.exec
  have hby := Bd.bytes
  have hml : c.maxLocals = 1 := hml0
  have hown : s.vm.findClass "com/example/binfold/binfold/mime/Headers" = some m.cls := findClass_of_methodNamed Bd.named
  have hnm := (name_of_methodNamed Bd.named Bd.method).1
  have X0 : Stand p l e ({ frames := 6, cells := 3, slots := 5, locals := 93 } : Room) s m #[(.ref a)] below meth c s₁ [] 0 0 := Stand.of_body Bd
  have e0 : s₁.heap = h0 := by rw [← hh, Bd.state]; rfl
  have N0 := Fr.nil n0
  have K0 := Keep.refl h0 [a]
  show Go p e below (own_F s below (Q_own_hd0 Z a eL eA ka wD mO mA mL mR h0 n0) ({ frames := 6, cells := 3, slots := 5, locals := 93 } : Room).cells ({ frames := 6, cells := 3, slots := 5, locals := 93 } : Room).slots) (s₁.setTop (entryFrame m #[(.ref a)] 1))
  rw [own_ef_own_hd0 m a]
  refine Go.back (t' := (s₁.setTop (mkF m 1 #[.val (.ref a)] [(.ref a)]))) (fun u k => XS.aloadN X0.here hx rfl (hb hby own_d15_0) rfl rfl k) ?_
  obtain ⟨_, _, ⟨T1, L1, k1, n1⟩, -, X1, ⟨Lc1, hQ1, l1, y1, z1⟩, st1⟩ := Jvm.LawKit.callS X0 hx (y := (⟨"java/util/List", "of", "()Ljava/util/List;"⟩ : MethodName)) hown (mvT hZ (hw _ (List.mem_of_getElem? (i := 103) rfl))) (mvT hZ (hw _ (List.mem_of_getElem? (i := 104) rfl))) (mvT hZ (hw _ (List.mem_of_getElem? (i := 105) rfl))) (mvT hZ (hw _ (List.mem_of_getElem? (i := 106) rfl))) (by decide) (backOf (W := 1) (own_of l Z a0 hw [] eL h0 n0 Z0 Old0 SEL) hZ (hw _ (List.mem_of_getElem? (i := 106) rfl)) (hw _ (List.mem_of_getElem? (i := 105) rfl)) (by decide) (by decide)) (g := (mkF m 1 #[.val (.ref a)] [(.ref a)])) rfl (by rw [hml]; rfl) (argsL := []) (rest := [(.ref a)]) (lenOf own_pd10 rfl) rfl (by show 2 * 0 + _ ≤ _; exact Nat.le_of_eq rfl) (hb hby own_d15_1) (fun _ _ => ⟨rfl, e0, (by decide : 0 + 0 ≤ _), (by decide : 0 + 0 ≤ _)⟩)
  dsimp only [Pt.U, Pt.locs, Pt.cells, Pt.slots] at X1 l1 y1 z1 st1 hQ1
  subst l1 y1 z1
  obtain ⟨rfl, N1, e1⟩ := hQ1
  have NA1 := Fr.app N0 N1
  refine Go.back (t' := (T1.setTop (mkF m 4 #[.val (.ref a)] [(.ref eL), (.ref a)]))) st1 ?_
  obtain ⟨_, _, ⟨T2, L2, k2, n2⟩, -, X2, ⟨Lc2, hQ2, l2, y2, z2⟩, st2⟩ := X1.specialBack hx (y := (⟨"com/example/binfold/binfold/mime/Headers", "<init>", "(Ljava/util/List;)V"⟩ : MethodName)) rfl hown (mvT hZ (hw _ (List.mem_of_getElem? (i := 109) rfl))) (mvT hZ (hw _ (List.mem_of_getElem? (i := 110) rfl))) (mvT hZ (hw _ (List.mem_of_getElem? (i := 111) rfl))) (by decide) (backOf (W := 0) (own_hd1 l Z a0 hw [] a eL eA ka wD mO mA mL mR h0 n0 Z0 E_a E_eL F_a_fields F_eL_elements g_a ne_a_eL ne_a_eA Old0 E_eA V_eA M_mO M_mA M_mL M_mR SED) hZ (hw _ (List.mem_of_getElem? (i := 111) rfl)) (hw _ (List.mem_of_getElem? (i := 99) rfl)) (by decide) (by decide)) (g := (mkF m 4 #[.val (.ref a)] [(.ref eL), (.ref a)])) rfl (by rw [hml]; rfl) (Steps.refl _) (a := a) (argsL := [(.ref eL)]) (rest := []) (lenOf own_pd8 rfl) rfl (by show 2 * 0 + _ ≤ _; exact Nat.le_of_eq rfl) (hb hby own_d15_4) (fun _ _ => ⟨rfl, e1, (by decide : 0 + 3 ≤ _), (by decide : 0 + 5 ≤ _)⟩)
  dsimp only [Pt.U, Pt.locs, Pt.cells, Pt.slots] at X2 l2 y2 z2 st2 hQ2
  subst l2 y2 z2
  obtain ⟨rfl, N2, Kc2, P2_0⟩ := hQ2
  have NA2 := Fr.app NA1 N2
  have Z2 : n0 ≤ T2.heap.size := Nat.le_trans Z0 Kc2.1
  have K2 := K0.trans Kc2 (allS (Or.inl (List.mem_of_getElem? (i := 0) rfl)) all0)
  have O2 := Old0.keep Kc2 (allS g_a all0)
  refine Go.back (t' := (T2.setTop (mkF m 7 #[.val (.ref a)] []))) (fun u k => st2.trans k) ?_
  obtain ⟨fs, hr, hrun, hended, hW, hsame⟩ := X2.leave (v := none) (fun _ => rfl)
  refine ⟨_, _, X2.returnOut hx Bd.returns (hb hby own_d15_7) hr, hrun, hended, _, _, rfl, ?_, ⟨_, rfl⟩, hW, hsame.mono (by decide) (by decide)⟩
  show Q_own_hd0 Z a eL eA ka wD mO mA mL mR h0 n0 _ T2.heap _
  exact ⟨rfl, NA2, K2, P2_0⟩
theorem own_pn13 : plainName "com/example/binfold/binfold/PackageParts$Part" = true := by first | (simp [plainName, overriddenIn]; done) | decide +kernel
theorem own_d1_0 : decode prog_24_method_1_code 0 = .ok (.aload_n 0, 1) := by decide +kernel
theorem own_d1_1 : decode prog_24_method_1_code 1 = .ok (.invokespecial 1, 3) := by decide +kernel
theorem own_d1_4 : decode prog_24_method_1_code 4 = .ok (.aload_n 0, 1) := by decide +kernel
theorem own_d1_5 : decode prog_24_method_1_code 5 = .ok (.ldc2_w 7, 3) := by decide +kernel
theorem own_d1_8 : decode prog_24_method_1_code 8 = .ok (.putfield 9, 3) := by decide +kernel
theorem own_d1_11 : decode prog_24_method_1_code 11 = .ok (.aload_n 0, 1) := by decide +kernel
theorem own_d1_12 : decode prog_24_method_1_code 12 = .ok (.aload_n 1, 1) := by decide +kernel
theorem own_d1_13 : decode prog_24_method_1_code 13 = .ok (.putfield 15, 3) := by decide +kernel
theorem own_d1_16 : decode prog_24_method_1_code 16 = .ok (.aload_n 0, 1) := by decide +kernel
theorem own_d1_17 : decode prog_24_method_1_code 17 = .ok (.aload_n 2, 1) := by decide +kernel
theorem own_d1_18 : decode prog_24_method_1_code 18 = .ok (.putfield 19, 3) := by decide +kernel
theorem own_d1_21 : decode prog_24_method_1_code 21 = .ok (.return_, 1) := by decide +kernel
theorem own_ef_own_ptInitRR (m : MethodId) (x0 : Addr) (x1 : Addr) (x2 : Addr) : entryFrame m #[(.ref x0), (.ref x1), (.ref x2)] 3 = mkF m 0 #[.val (.ref x0), .val (.ref x1), .val (.ref x2)] [] := by first | (simp [entryFrame, mkF, argsToLocals, Value.category]; done) | rfl
def Q_own_ptInitRR (Z : State) (a : Addr) (sx : Addr) (hx_ : Addr) (h0 : Heap) (n0 : Nat) (v : Option Value) (h : Heap) (L : List Loc) : Prop := v = none ∧ Fr n0 L ∧ Keep h0 h [a] ∧ Exa Z h a "com/example/binfold/binfold/PackageParts$Part" ∧ Fld Z h a "com/example/binfold/binfold/PackageParts$Part" "length" "J" (.long (-1 : Int64)) ∧ Fld Z h a "com/example/binfold/binfold/PackageParts$Part" "contentId" "Ljava/lang/String;" (.ref sx) ∧ Fld Z h a "com/example/binfold/binfold/PackageParts$Part" "headers" "Lcom/example/binfold/binfold/mime/Headers;" (.ref hx_)
set_option maxRecDepth 65536 in
set_option maxHeartbeats 40000000 in
theorem own_ptInitRR (l : Launch) (Z : State) (a0 : Array Value) (hw : ∀ d ∈ tables_1, d.before a0 Z = true) (ws : List Jvm.Cond) (a : Addr) (sx : Addr) (hx_ : Addr) (h0 : Heap) (n0 : Nat) (Z0 : n0 ≤ h0.size) (E_a : Exa Z h0 a "com/example/binfold/binfold/PackageParts$Part") (F_a_length : Fld Z h0 a "com/example/binfold/binfold/PackageParts$Part" "length" "J" (.long (0 : Int64))) (F_a_contentId : Fld Z h0 a "com/example/binfold/binfold/PackageParts$Part" "contentId" "Ljava/lang/String;" .null) (F_a_headers : Fld Z h0 a "com/example/binfold/binfold/PackageParts$Part" "headers" "Lcom/example/binfold/binfold/mime/Headers;" .null) (g_a : n0 ≤ a) :
    MetFree l (⟨"com/example/binfold/binfold/PackageParts$Part", "<init>", "(Ljava/lang/String;Lcom/example/binfold/binfold/mime/Headers;)V"⟩ : MethodName) (head1 (Jvm.Cond.code (⟨"com/example/binfold/binfold/PackageParts$Part", "<init>", "(Ljava/lang/String;Lcom/example/binfold/binfold/mime/Headers;)V"⟩ : MethodName) prog_24_method_1_code 3 none :: ws) ({ frames := 1, cells := 0, slots := 0, locals := 12 } : Room)) (fun as_ U => as_ = #[(.ref a), (.ref sx), (.ref hx_)] ∧ Z.Warmed39 U.vm ∧ U.heap = h0) (fun _ _ _ _ _ => True) (fun _ U o U' => ∃ v L, o = .returned v ∧ Q_own_ptInitRR Z a sx hx_ h0 n0 v U'.heap L ∧ FrameEnd U o U' L ({ frames := 1, cells := 0, slots := 0, locals := 12 } : Room).cells ({ frames := 1, cells := 0, slots := 0, locals := 12 } : Room).slots) := by
  refine MetFree.of_bodySF (plainFor_of_name own_pn13) hisR ?_
  intro p e s m args below meth c s₁ Bd hml0 hP hK
  obtain ⟨rfl, hZ, hh⟩ := hP
  have hx := Bd.exec
  have hby := Bd.bytes
  have hml : c.maxLocals = 3 := hml0
  have hown : s.vm.findClass "com/example/binfold/binfold/PackageParts$Part" = some m.cls := findClass_of_methodNamed Bd.named
  have hnm := (name_of_methodNamed Bd.named Bd.method).1
  have X0 : Stand p l e ({ frames := 1, cells := 0, slots := 0, locals := 12 } : Room) s m #[(.ref a), (.ref sx), (.ref hx_)] below meth c s₁ [] 0 0 := Stand.of_body Bd
  have e0 : s₁.heap = h0 := by rw [← hh, Bd.state]; rfl
  have N0 := Fr.nil n0
  have K0 := Keep.refl h0 [a]
  show Go p e below (own_F s below (Q_own_ptInitRR Z a sx hx_ h0 n0) ({ frames := 1, cells := 0, slots := 0, locals := 12 } : Room).cells ({ frames := 1, cells := 0, slots := 0, locals := 12 } : Room).slots) (s₁.setTop (entryFrame m #[(.ref a), (.ref sx), (.ref hx_)] 3))
  rw [own_ef_own_ptInitRR m a sx hx_]
  refine Go.back (t' := (s₁.setTop (mkF m 1 #[.val (.ref a), .val (.ref sx), .val (.ref hx_)] [(.ref a)]))) (fun u k => XS.aloadN X0.here hx rfl (hb hby own_d1_0) rfl rfl k) ?_
  obtain ⟨T1, X1, e1, st1⟩ := initO X0 hx hZ hown (hw _ (List.mem_of_getElem? (i := 6) rfl)) (hw _ (List.mem_of_getElem? (i := 7) rfl)) (hw _ (List.mem_of_getElem? (i := 8) rfl)) e0 (g := (mkF m 1 #[.val (.ref a), .val (.ref sx), .val (.ref hx_)] [(.ref a)])) rfl (by rw [hml]; rfl) rfl (hb hby own_d1_1) (by decide) (W := 0) (by show 2 * 0 + _ ≤ _; exact Nat.le_of_eq rfl) (by decide)
  refine Go.back (t' := (T1.setTop (mkF m 4 #[.val (.ref a), .val (.ref sx), .val (.ref hx_)] []))) st1 ?_
  refine Go.back (t' := (T1.setTop (mkF m 8 #[.val (.ref a), .val (.ref sx), .val (.ref hx_)] [(.long (-1 : Int64)), (.ref a)]))) (fun u k => XS.aloadN X1.here hx rfl (hb hby own_d1_4) rfl rfl (X1.ldc2J hx hown (mvT hZ (hw _ (List.mem_of_getElem? (i := 9) rfl))) rfl (hb hby own_d1_5) k)) ?_
  obtain ⟨T2, h2, X2, e2, W2, st2⟩ := putF X1 hx hZ hown (host := "") (Or.inl (hw _ (List.mem_of_getElem? (i := 10) rfl))) Via.refl e1 F_a_length E_a (Or.inl (hw _ (List.mem_of_getElem? (i := 11) rfl))) (hw _ (List.mem_of_getElem? (i := 1) rfl)) (ty := .long) (by decide) rfl rfl (g := (mkF m 8 #[.val (.ref a), .val (.ref sx), .val (.ref hx_)] [(.long (-1 : Int64)), (.ref a)])) rfl rfl (hb hby own_d1_8)
  have Z2 : n0 ≤ h2.size := Nat.le_trans Z0 (Keep.of_wr W2).1
  have K2 := K0.wr W2 (Or.inl (List.mem_of_getElem? (i := 0) rfl))
  have N2 := Fr.snoc X2 N0 g_a
  have F2 := F_a_length.same W2
  refine Go.back (t' := (T2.setTop (mkF m 11 #[.val (.ref a), .val (.ref sx), .val (.ref hx_)] []))) st2 ?_
  refine Go.back (t' := (T2.setTop (mkF m 13 #[.val (.ref a), .val (.ref sx), .val (.ref hx_)] [(.ref sx), (.ref a)]))) (fun u k => XS.aloadN X2.here hx rfl (hb hby own_d1_11) rfl rfl (XS.aloadN X2.here hx rfl (hb hby own_d1_12) rfl rfl k)) ?_
  have f4 := (F_a_contentId.other W2 (Or.inr (slot_ne (Or.inr (hw _ (List.mem_of_getElem? (i := 13) rfl))) (Or.inl (hw _ (List.mem_of_getElem? (i := 11) rfl))) (by decide) (t := (.object "java/lang/String")) (t' := .long) (by decide) (by decide))))
  have f5 := (E_a.wr W2)
  obtain ⟨T3, h3, X3, e3, W3, st3⟩ := putF X2 hx hZ hown (host := "") (Or.inl (hw _ (List.mem_of_getElem? (i := 12) rfl))) Via.refl e2 f4 f5 (Or.inr ⟨(hw _ (List.mem_of_getElem? (i := 13) rfl)), rfl, hnm⟩) (hw _ (List.mem_of_getElem? (i := 1) rfl)) (ty := (.object "java/lang/String")) (by decide) rfl rfl (g := (mkF m 13 #[.val (.ref a), .val (.ref sx), .val (.ref hx_)] [(.ref sx), (.ref a)])) rfl rfl (hb hby own_d1_13)
  have Z3 : n0 ≤ h3.size := Nat.le_trans Z2 (Keep.of_wr W3).1
  have K3 := K2.wr W3 (Or.inl (List.mem_of_getElem? (i := 0) rfl))
  have N3 := Fr.snoc X3 N2 g_a
  have F3 := f4.same W3
  refine Go.back (t' := (T3.setTop (mkF m 16 #[.val (.ref a), .val (.ref sx), .val (.ref hx_)] []))) st3 ?_
  refine Go.back (t' := (T3.setTop (mkF m 18 #[.val (.ref a), .val (.ref sx), .val (.ref hx_)] [(.ref hx_), (.ref a)]))) (fun u k => XS.aloadN X3.here hx rfl (hb hby own_d1_16) rfl rfl (XS.aloadN X3.here hx rfl (hb hby own_d1_17) rfl rfl k)) ?_
  have f7 := ((F_a_headers.other W2 (Or.inr (slot_ne (Or.inr (hw _ (List.mem_of_getElem? (i := 15) rfl))) (Or.inl (hw _ (List.mem_of_getElem? (i := 11) rfl))) (by decide) (t := (.object "com/example/binfold/binfold/mime/Headers")) (t' := .long) (by decide) (by decide)))).other W3 (Or.inr (slot_ne (Or.inr (hw _ (List.mem_of_getElem? (i := 15) rfl))) (Or.inr (hw _ (List.mem_of_getElem? (i := 13) rfl))) (by decide) (t := (.object "com/example/binfold/binfold/mime/Headers")) (t' := (.object "java/lang/String")) (by decide) (by decide))))
  have f8 := (f5.wr W3)
  obtain ⟨T6, h6, X6, e6, W6, st6⟩ := putF X3 hx hZ hown (host := "") (Or.inl (hw _ (List.mem_of_getElem? (i := 14) rfl))) Via.refl e3 f7 f8 (Or.inr ⟨(hw _ (List.mem_of_getElem? (i := 15) rfl)), rfl, hnm⟩) (hw _ (List.mem_of_getElem? (i := 1) rfl)) (ty := (.object "com/example/binfold/binfold/mime/Headers")) (by decide) rfl rfl (g := (mkF m 18 #[.val (.ref a), .val (.ref sx), .val (.ref hx_)] [(.ref hx_), (.ref a)])) rfl rfl (hb hby own_d1_18)
  have Z6 : n0 ≤ h6.size := Nat.le_trans Z3 (Keep.of_wr W6).1
  have K6 := K3.wr W6 (Or.inl (List.mem_of_getElem? (i := 0) rfl))
  have N6 := Fr.snoc X6 N3 g_a
  have F6 := f7.same W6
  refine Go.back (t' := (T6.setTop (mkF m 21 #[.val (.ref a), .val (.ref sx), .val (.ref hx_)] []))) st6 ?_
  have f9 := (f8.wr W6)
  have f10 := ((F2.other W3 (Or.inr (slot_ne (Or.inl (hw _ (List.mem_of_getElem? (i := 11) rfl))) (Or.inr (hw _ (List.mem_of_getElem? (i := 13) rfl))) (by decide) (t := .long) (t' := (.object "java/lang/String")) (by decide) (by decide)))).other W6 (Or.inr (slot_ne (Or.inl (hw _ (List.mem_of_getElem? (i := 11) rfl))) (Or.inr (hw _ (List.mem_of_getElem? (i := 15) rfl))) (by decide) (t := .long) (t' := (.object "com/example/binfold/binfold/mime/Headers")) (by decide) (by decide))))
  have f11 := (F3.other W6 (Or.inr (slot_ne (Or.inr (hw _ (List.mem_of_getElem? (i := 13) rfl))) (Or.inr (hw _ (List.mem_of_getElem? (i := 15) rfl))) (by decide) (t := (.object "java/lang/String")) (t' := (.object "com/example/binfold/binfold/mime/Headers")) (by decide) (by decide))))
  obtain ⟨fs, hr, hrun, hended, hW, hsame⟩ := X6.leave (v := none) (fun _ => rfl)
  refine ⟨_, _, X6.returnOut hx Bd.returns (hb hby own_d1_21) hr, hrun, hended, _, _, rfl, ?_, ⟨_, rfl⟩, hW, hsame.mono (by decide) (by decide)⟩
  show Q_own_ptInitRR Z a sx hx_ h0 n0 _ T6.heap _
  rw [e6]
  exact ⟨rfl, N6, K6, f9, f10, f11, F6⟩
theorem own_pn14 : plainName "com/example/binfold/binfold/PackagePart" = true := by first | (simp [plainName, overriddenIn]; done) | decide +kernel
theorem own_d4_0 : decode prog_22_method_1_code 0 = .ok (.aload_n 0, 1) := by decide +kernel
theorem own_d4_1 : decode prog_22_method_1_code 1 = .ok (.invokespecial 1, 3) := by decide +kernel
theorem own_d4_4 : decode prog_22_method_1_code 4 = .ok (.aload_n 0, 1) := by decide +kernel
theorem own_d4_5 : decode prog_22_method_1_code 5 = .ok (.aload_n 1, 1) := by decide +kernel
theorem own_d4_6 : decode prog_22_method_1_code 6 = .ok (.putfield 7, 3) := by decide +kernel
theorem own_d4_9 : decode prog_22_method_1_code 9 = .ok (.aload_n 0, 1) := by decide +kernel
theorem own_d4_10 : decode prog_22_method_1_code 10 = .ok (.aload_n 2, 1) := by decide +kernel
theorem own_d4_11 : decode prog_22_method_1_code 11 = .ok (.putfield 13, 3) := by decide +kernel
theorem own_d4_14 : decode prog_22_method_1_code 14 = .ok (.aload_n 0, 1) := by decide +kernel
theorem own_d4_15 : decode prog_22_method_1_code 15 = .ok (.lload_n 3, 1) := by decide +kernel
theorem own_d4_16 : decode prog_22_method_1_code 16 = .ok (.putfield 17, 3) := by decide +kernel
theorem own_d4_19 : decode prog_22_method_1_code 19 = .ok (.return_, 1) := by decide +kernel
theorem own_ef_own_ppInitRR (m : MethodId) (x0 : Addr) (x1 : Addr) (x2 : Addr) : entryFrame m #[(.ref x0), (.ref x1), (.ref x2), (.long (-1 : Int64))] 5 = mkF m 0 #[.val (.ref x0), .val (.ref x1), .val (.ref x2), .val (.long (-1 : Int64)), .second] [] := by first | (simp [entryFrame, mkF, argsToLocals, Value.category]; done) | rfl
def Q_own_ppInitRR (Z : State) (a : Addr) (sx : Addr) (hx_ : Addr) (h0 : Heap) (n0 : Nat) (v : Option Value) (h : Heap) (L : List Loc) : Prop := v = none ∧ Fr n0 L ∧ Keep h0 h [a] ∧ Exa Z h a "com/example/binfold/binfold/PackagePart" ∧ Fld Z h a "com/example/binfold/binfold/PackagePart" "decodedLength" "J" (.long (-1 : Int64)) ∧ Fld Z h a "com/example/binfold/binfold/PackagePart" "contentId" "Ljava/lang/String;" (.ref sx) ∧ Fld Z h a "com/example/binfold/binfold/PackagePart" "headers" "Lcom/example/binfold/binfold/mime/Headers;" (.ref hx_)
set_option maxRecDepth 65536 in
set_option maxHeartbeats 40000000 in
theorem own_ppInitRR (l : Launch) (Z : State) (a0 : Array Value) (hw : ∀ d ∈ tables_1, d.before a0 Z = true) (ws : List Jvm.Cond) (a : Addr) (sx : Addr) (hx_ : Addr) (h0 : Heap) (n0 : Nat) (Z0 : n0 ≤ h0.size) (E_a : Exa Z h0 a "com/example/binfold/binfold/PackagePart") (F_a_decodedLength : Fld Z h0 a "com/example/binfold/binfold/PackagePart" "decodedLength" "J" (.long (0 : Int64))) (F_a_contentId : Fld Z h0 a "com/example/binfold/binfold/PackagePart" "contentId" "Ljava/lang/String;" .null) (F_a_headers : Fld Z h0 a "com/example/binfold/binfold/PackagePart" "headers" "Lcom/example/binfold/binfold/mime/Headers;" .null) (g_a : n0 ≤ a) :
    MetFree l (⟨"com/example/binfold/binfold/PackagePart", "<init>", "(Ljava/lang/String;Lcom/example/binfold/binfold/mime/Headers;J)V"⟩ : MethodName) (head1 (Jvm.Cond.code (⟨"com/example/binfold/binfold/PackagePart", "<init>", "(Ljava/lang/String;Lcom/example/binfold/binfold/mime/Headers;J)V"⟩ : MethodName) prog_22_method_1_code 5 none :: ws) ({ frames := 1, cells := 0, slots := 0, locals := 12 } : Room)) (fun as_ U => as_ = #[(.ref a), (.ref sx), (.ref hx_), (.long (-1 : Int64))] ∧ Z.Warmed39 U.vm ∧ U.heap = h0) (fun _ _ _ _ _ => True) (fun _ U o U' => ∃ v L, o = .returned v ∧ Q_own_ppInitRR Z a sx hx_ h0 n0 v U'.heap L ∧ FrameEnd U o U' L ({ frames := 1, cells := 0, slots := 0, locals := 12 } : Room).cells ({ frames := 1, cells := 0, slots := 0, locals := 12 } : Room).slots) := by
  refine MetFree.of_bodySF (plainFor_of_name own_pn14) hisR ?_
  intro p e s m args below meth c s₁ Bd hml0 hP hK
  obtain ⟨rfl, hZ, hh⟩ := hP
  have hx := Bd.exec
  have hby := Bd.bytes
  have hml : c.maxLocals = 5 := hml0
  have hown : s.vm.findClass "com/example/binfold/binfold/PackagePart" = some m.cls := findClass_of_methodNamed Bd.named
  have hnm := (name_of_methodNamed Bd.named Bd.method).1
  have X0 : Stand p l e ({ frames := 1, cells := 0, slots := 0, locals := 12 } : Room) s m #[(.ref a), (.ref sx), (.ref hx_), (.long (-1 : Int64))] below meth c s₁ [] 0 0 := Stand.of_body Bd
  have e0 : s₁.heap = h0 := by rw [← hh, Bd.state]; rfl
  have N0 := Fr.nil n0
  have K0 := Keep.refl h0 [a]
  show Go p e below (own_F s below (Q_own_ppInitRR Z a sx hx_ h0 n0) ({ frames := 1, cells := 0, slots := 0, locals := 12 } : Room).cells ({ frames := 1, cells := 0, slots := 0, locals := 12 } : Room).slots) (s₁.setTop (entryFrame m #[(.ref a), (.ref sx), (.ref hx_), (.long (-1 : Int64))] 5))
  rw [own_ef_own_ppInitRR m a sx hx_]
  refine Go.back (t' := (s₁.setTop (mkF m 1 #[.val (.ref a), .val (.ref sx), .val (.ref hx_), .val (.long (-1 : Int64)), .second] [(.ref a)]))) (fun u k => XS.aloadN X0.here hx rfl (hb hby own_d4_0) rfl rfl k) ?_
  obtain ⟨T1, X1, e1, st1⟩ := initO X0 hx hZ hown (hw _ (List.mem_of_getElem? (i := 27) rfl)) (hw _ (List.mem_of_getElem? (i := 7) rfl)) (hw _ (List.mem_of_getElem? (i := 8) rfl)) e0 (g := (mkF m 1 #[.val (.ref a), .val (.ref sx), .val (.ref hx_), .val (.long (-1 : Int64)), .second] [(.ref a)])) rfl (by rw [hml]; rfl) rfl (hb hby own_d4_1) (by decide) (W := 0) (by show 2 * 0 + _ ≤ _; exact Nat.le_of_eq rfl) (by decide)
  refine Go.back (t' := (T1.setTop (mkF m 4 #[.val (.ref a), .val (.ref sx), .val (.ref hx_), .val (.long (-1 : Int64)), .second] []))) st1 ?_
  refine Go.back (t' := (T1.setTop (mkF m 6 #[.val (.ref a), .val (.ref sx), .val (.ref hx_), .val (.long (-1 : Int64)), .second] [(.ref sx), (.ref a)]))) (fun u k => XS.aloadN X1.here hx rfl (hb hby own_d4_4) rfl rfl (XS.aloadN X1.here hx rfl (hb hby own_d4_5) rfl rfl k)) ?_
  obtain ⟨T2, h2, X2, e2, W2, st2⟩ := putF X1 hx hZ hown (host := "") (Or.inl (hw _ (List.mem_of_getElem? (i := 28) rfl))) Via.refl e1 F_a_contentId E_a (Or.inr ⟨(hw _ (List.mem_of_getElem? (i := 29) rfl)), rfl, hnm⟩) (hw _ (List.mem_of_getElem? (i := 22) rfl)) (ty := (.object "java/lang/String")) (by decide) rfl rfl (g := (mkF m 6 #[.val (.ref a), .val (.ref sx), .val (.ref hx_), .val (.long (-1 : Int64)), .second] [(.ref sx), (.ref a)])) rfl rfl (hb hby own_d4_6)
  have Z2 : n0 ≤ h2.size := Nat.le_trans Z0 (Keep.of_wr W2).1
  have K2 := K0.wr W2 (Or.inl (List.mem_of_getElem? (i := 0) rfl))
  have N2 := Fr.snoc X2 N0 g_a
  have F2 := F_a_contentId.same W2
  refine Go.back (t' := (T2.setTop (mkF m 9 #[.val (.ref a), .val (.ref sx), .val (.ref hx_), .val (.long (-1 : Int64)), .second] []))) st2 ?_
  refine Go.back (t' := (T2.setTop (mkF m 11 #[.val (.ref a), .val (.ref sx), .val (.ref hx_), .val (.long (-1 : Int64)), .second] [(.ref hx_), (.ref a)]))) (fun u k => XS.aloadN X2.here hx rfl (hb hby own_d4_9) rfl rfl (XS.aloadN X2.here hx rfl (hb hby own_d4_10) rfl rfl k)) ?_
  have f4 := (F_a_headers.other W2 (Or.inr (slot_ne (Or.inr (hw _ (List.mem_of_getElem? (i := 31) rfl))) (Or.inr (hw _ (List.mem_of_getElem? (i := 29) rfl))) (by decide) (t := (.object "com/example/binfold/binfold/mime/Headers")) (t' := (.object "java/lang/String")) (by decide) (by decide))))
  have f5 := (E_a.wr W2)
  obtain ⟨T3, h3, X3, e3, W3, st3⟩ := putF X2 hx hZ hown (host := "") (Or.inl (hw _ (List.mem_of_getElem? (i := 30) rfl))) Via.refl e2 f4 f5 (Or.inr ⟨(hw _ (List.mem_of_getElem? (i := 31) rfl)), rfl, hnm⟩) (hw _ (List.mem_of_getElem? (i := 22) rfl)) (ty := (.object "com/example/binfold/binfold/mime/Headers")) (by decide) rfl rfl (g := (mkF m 11 #[.val (.ref a), .val (.ref sx), .val (.ref hx_), .val (.long (-1 : Int64)), .second] [(.ref hx_), (.ref a)])) rfl rfl (hb hby own_d4_11)
  have Z3 : n0 ≤ h3.size := Nat.le_trans Z2 (Keep.of_wr W3).1
  have K3 := K2.wr W3 (Or.inl (List.mem_of_getElem? (i := 0) rfl))
  have N3 := Fr.snoc X3 N2 g_a
  have F3 := f4.same W3
  refine Go.back (t' := (T3.setTop (mkF m 14 #[.val (.ref a), .val (.ref sx), .val (.ref hx_), .val (.long (-1 : Int64)), .second] []))) st3 ?_
  refine Go.back (t' := (T3.setTop (mkF m 16 #[.val (.ref a), .val (.ref sx), .val (.ref hx_), .val (.long (-1 : Int64)), .second] [(.long (-1 : Int64)), (.ref a)]))) (fun u k => XS.aloadN X3.here hx rfl (hb hby own_d4_14) rfl rfl (XT.lloadN X3.here hx rfl (hb hby own_d4_15) rfl k)) ?_
  have f7 := ((F_a_decodedLength.other W2 (Or.inr (slot_ne (Or.inr (hw _ (List.mem_of_getElem? (i := 33) rfl))) (Or.inr (hw _ (List.mem_of_getElem? (i := 29) rfl))) (by decide) (t := .long) (t' := (.object "java/lang/String")) (by decide) (by decide)))).other W3 (Or.inr (slot_ne (Or.inr (hw _ (List.mem_of_getElem? (i := 33) rfl))) (Or.inr (hw _ (List.mem_of_getElem? (i := 31) rfl))) (by decide) (t := .long) (t' := (.object "com/example/binfold/binfold/mime/Headers")) (by decide) (by decide))))
  have f8 := (f5.wr W3)
  obtain ⟨T6, h6, X6, e6, W6, st6⟩ := putF X3 hx hZ hown (host := "") (Or.inl (hw _ (List.mem_of_getElem? (i := 32) rfl))) Via.refl e3 f7 f8 (Or.inr ⟨(hw _ (List.mem_of_getElem? (i := 33) rfl)), rfl, hnm⟩) (hw _ (List.mem_of_getElem? (i := 22) rfl)) (ty := .long) (by decide) rfl rfl (g := (mkF m 16 #[.val (.ref a), .val (.ref sx), .val (.ref hx_), .val (.long (-1 : Int64)), .second] [(.long (-1 : Int64)), (.ref a)])) rfl rfl (hb hby own_d4_16)
  have Z6 : n0 ≤ h6.size := Nat.le_trans Z3 (Keep.of_wr W6).1
  have K6 := K3.wr W6 (Or.inl (List.mem_of_getElem? (i := 0) rfl))
  have N6 := Fr.snoc X6 N3 g_a
  have F6 := f7.same W6
  refine Go.back (t' := (T6.setTop (mkF m 19 #[.val (.ref a), .val (.ref sx), .val (.ref hx_), .val (.long (-1 : Int64)), .second] []))) st6 ?_
  have f9 := (f8.wr W6)
  have f10 := ((F2.other W3 (Or.inr (slot_ne (Or.inr (hw _ (List.mem_of_getElem? (i := 29) rfl))) (Or.inr (hw _ (List.mem_of_getElem? (i := 31) rfl))) (by decide) (t := (.object "java/lang/String")) (t' := (.object "com/example/binfold/binfold/mime/Headers")) (by decide) (by decide)))).other W6 (Or.inr (slot_ne (Or.inr (hw _ (List.mem_of_getElem? (i := 29) rfl))) (Or.inr (hw _ (List.mem_of_getElem? (i := 33) rfl))) (by decide) (t := (.object "java/lang/String")) (t' := .long) (by decide) (by decide))))
  have f11 := (F3.other W6 (Or.inr (slot_ne (Or.inr (hw _ (List.mem_of_getElem? (i := 31) rfl))) (Or.inr (hw _ (List.mem_of_getElem? (i := 33) rfl))) (by decide) (t := (.object "com/example/binfold/binfold/mime/Headers")) (t' := .long) (by decide) (by decide))))
  obtain ⟨fs, hr, hrun, hended, hW, hsame⟩ := X6.leave (v := none) (fun _ => rfl)
  refine ⟨_, _, X6.returnOut hx Bd.returns (hb hby own_d4_19) hr, hrun, hended, _, _, rfl, ?_, ⟨_, rfl⟩, hW, hsame.mono (by decide) (by decide)⟩
  show Q_own_ppInitRR Z a sx hx_ h0 n0 _ T6.heap _
  rw [e6]
  exact ⟨rfl, N6, K6, f9, F6, f10, f11⟩
theorem own_pd11 : parseMethodDescriptor "(Ljava/lang/String;Lcom/example/binfold/binfold/mime/Headers;J)V" = some ⟨[(.object "java/lang/String"), (.object "com/example/binfold/binfold/mime/Headers"), .long], none⟩ := by decide +kernel
theorem own_d3_0 : decode prog_24_method_5_code 0 = .ok (.new 43, 3) := by decide +kernel
theorem own_d3_3 : decode prog_24_method_5_code 3 = .ok (.dup, 1) := by decide +kernel
theorem own_d3_4 : decode prog_24_method_5_code 4 = .ok (.aload_n 0, 1) := by decide +kernel
theorem own_d3_5 : decode prog_24_method_5_code 5 = .ok (.getfield 15, 3) := by decide +kernel
theorem own_d3_8 : decode prog_24_method_5_code 8 = .ok (.aload_n 0, 1) := by decide +kernel
theorem own_d3_9 : decode prog_24_method_5_code 9 = .ok (.getfield 19, 3) := by decide +kernel
theorem own_d3_12 : decode prog_24_method_5_code 12 = .ok (.aload_n 0, 1) := by decide +kernel
theorem own_d3_13 : decode prog_24_method_5_code 13 = .ok (.getfield 9, 3) := by decide +kernel
theorem own_d3_16 : decode prog_24_method_5_code 16 = .ok (.invokespecial 45, 3) := by decide +kernel
theorem own_d3_19 : decode prog_24_method_5_code 19 = .ok (.areturn, 1) := by decide +kernel
theorem own_ef_own_desRR (m : MethodId) (x0 : Addr) : entryFrame m #[(.ref x0)] 1 = mkF m 0 #[.val (.ref x0)] [] := by first | (simp [entryFrame, mkF, argsToLocals, Value.category]; done) | rfl
def Q_own_desRR (Z : State) (a : Addr) (sx : Addr) (hx_ : Addr) (h0 : Heap) (n0 : Nat) (v : Option Value) (h : Heap) (L : List Loc) : Prop := ∃ q : Addr, v = some (.ref q) ∧ Fr n0 L ∧ Keep h0 h [] ∧ n0 ≤ q ∧ h0.size ≤ q ∧ Exa Z h q "com/example/binfold/binfold/PackagePart" ∧ Fld Z h q "com/example/binfold/binfold/PackagePart" "decodedLength" "J" (.long (-1 : Int64)) ∧ Fld Z h q "com/example/binfold/binfold/PackagePart" "contentId" "Ljava/lang/String;" (.ref sx) ∧ Fld Z h q "com/example/binfold/binfold/PackagePart" "headers" "Lcom/example/binfold/binfold/mime/Headers;" (.ref hx_)
set_option maxRecDepth 65536 in
set_option maxHeartbeats 40000000 in
theorem own_desRR (l : Launch) (Z : State) (a0 : Array Value) (hw : ∀ d ∈ tables_1, d.before a0 Z = true) (ws : List Jvm.Cond) (a : Addr) (sx : Addr) (hx_ : Addr) (h0 : Heap) (n0 : Nat) (Z0 : n0 ≤ h0.size) (E_a : Exa Z h0 a "com/example/binfold/binfold/PackageParts$Part") (F_a_length : Fld Z h0 a "com/example/binfold/binfold/PackageParts$Part" "length" "J" (.long (-1 : Int64))) (F_a_contentId : Fld Z h0 a "com/example/binfold/binfold/PackageParts$Part" "contentId" "Ljava/lang/String;" (.ref sx)) (F_a_headers : Fld Z h0 a "com/example/binfold/binfold/PackageParts$Part" "headers" "Lcom/example/binfold/binfold/mime/Headers;" (.ref hx_)) :
    MetFree l (⟨"com/example/binfold/binfold/PackageParts$Part", "description", "()Lcom/example/binfold/binfold/PackagePart;"⟩ : MethodName) (head1 (Jvm.Cond.code (⟨"com/example/binfold/binfold/PackageParts$Part", "description", "()Lcom/example/binfold/binfold/PackagePart;"⟩ : MethodName) prog_24_method_5_code 1 (some (.object "com/example/binfold/binfold/PackagePart")) :: ws) ({ frames := 2, cells := 1, slots := 3, locals := 29 } : Room)) (fun as_ U => as_ = #[(.ref a)] ∧ Z.Warmed39 U.vm ∧ U.heap = h0) (fun _ _ _ _ _ => True) (fun _ U o U' => ∃ v L, o = .returned v ∧ Q_own_desRR Z a sx hx_ h0 n0 v U'.heap L ∧ FrameEnd U o U' L ({ frames := 2, cells := 1, slots := 3, locals := 29 } : Room).cells ({ frames := 2, cells := 1, slots := 3, locals := 29 } : Room).slots) := by
  refine MetFree.of_bodySF (plainFor_of_name own_pn13) hisR ?_
  intro p e s m args below meth c s₁ Bd hml0 hP hK
  obtain ⟨rfl, hZ, hh⟩ := hP
  have hx := Bd.exec
  have hby := Bd.bytes
  have hml : c.maxLocals = 1 := hml0
  have hown : s.vm.findClass "com/example/binfold/binfold/PackageParts$Part" = some m.cls := findClass_of_methodNamed Bd.named
  have hnm := (name_of_methodNamed Bd.named Bd.method).1
  have X0 : Stand p l e ({ frames := 2, cells := 1, slots := 3, locals := 29 } : Room) s m #[(.ref a)] below meth c s₁ [] 0 0 := Stand.of_body Bd
  have e0 : s₁.heap = h0 := by rw [← hh, Bd.state]; rfl
  have N0 := Fr.nil n0
  have K0 := Keep.refl h0 []
  show Go p e below (own_F s below (Q_own_desRR Z a sx hx_ h0 n0) ({ frames := 2, cells := 1, slots := 3, locals := 29 } : Room).cells ({ frames := 2, cells := 1, slots := 3, locals := 29 } : Room).slots) (s₁.setTop (entryFrame m #[(.ref a)] 1))
  rw [own_ef_own_desRR m a]
  obtain ⟨T1, h1, X1, e1, E1, A1, D1, -, st1⟩ := newO X0 hx hZ hown (hw _ (List.mem_of_getElem? (i := 21) rfl)) (hw _ (List.mem_of_getElem? (i := 22) rfl)) (hw _ (List.mem_of_getElem? (i := 23) rfl)) e0 (g := (mkF m 0 #[.val (.ref a)] [])) rfl (hb hby own_d3_0) (by decide) (by decide)
  obtain ⟨b1, g1⟩ : ∃ z, z = h0.size := ⟨_, rfl⟩
  rw [← g1] at A1 D1 st1
  have ne_a_b1 : a ≠ b1 := Nat.ne_of_lt (Nat.lt_of_lt_of_le E_a.lt (Nat.le_of_eq g1.symm))
  have gb1 : n0 ≤ b1 := Nat.le_trans Z0 (Nat.le_of_eq g1.symm)
  have sz1 : h0.size ≤ b1 := Nat.le_trans K0.1 (Nat.le_of_eq g1.symm)
  have Z1 : n0 ≤ h1.size := Nat.le_trans Z0 E1.1
  have K1 := K0.ext E1
  refine Go.back (t' := (T1.setTop (mkF m 3 #[.val (.ref a)] [(.ref b1)]))) st1 ?_
  refine Go.back (t' := (T1.setTop (mkF m 5 #[.val (.ref a)] [(.ref a), (.ref b1), (.ref b1)]))) (fun u k => XS.dup X1.here hx rfl (hb hby own_d3_3) rfl rfl (XS.aloadN X1.here hx rfl (hb hby own_d3_4) rfl rfl k)) ?_
  have f2 := (F_a_contentId.ext E1)
  obtain ⟨T3, X3, e3, st3⟩ := getF X1 hx hZ hown (host := "") (Or.inl (hw _ (List.mem_of_getElem? (i := 12) rfl))) Via.refl e1 f2 (g := (mkF m 5 #[.val (.ref a)] [(.ref a), (.ref b1), (.ref b1)])) rfl rfl (hb hby own_d3_5)
  refine Go.back (t' := (T3.setTop (mkF m 8 #[.val (.ref a)] [(.ref sx), (.ref b1), (.ref b1)]))) st3 ?_
  refine Go.back (t' := (T3.setTop (mkF m 9 #[.val (.ref a)] [(.ref a), (.ref sx), (.ref b1), (.ref b1)]))) (fun u k => XS.aloadN X3.here hx rfl (hb hby own_d3_8) rfl rfl k) ?_
  have f4 := (F_a_headers.ext E1)
  obtain ⟨T5, X5, e5, st5⟩ := getF X3 hx hZ hown (host := "") (Or.inl (hw _ (List.mem_of_getElem? (i := 14) rfl))) Via.refl e3 f4 (g := (mkF m 9 #[.val (.ref a)] [(.ref a), (.ref sx), (.ref b1), (.ref b1)])) rfl rfl (hb hby own_d3_9)
  refine Go.back (t' := (T5.setTop (mkF m 12 #[.val (.ref a)] [(.ref hx_), (.ref sx), (.ref b1), (.ref b1)]))) st5 ?_
  refine Go.back (t' := (T5.setTop (mkF m 13 #[.val (.ref a)] [(.ref a), (.ref hx_), (.ref sx), (.ref b1), (.ref b1)]))) (fun u k => XS.aloadN X5.here hx rfl (hb hby own_d3_12) rfl rfl k) ?_
  have f6 := (F_a_length.ext E1)
  obtain ⟨T7, X7, e7, st7⟩ := getF X5 hx hZ hown (host := "") (Or.inl (hw _ (List.mem_of_getElem? (i := 10) rfl))) Via.refl e5 f6 (g := (mkF m 13 #[.val (.ref a)] [(.ref a), (.ref hx_), (.ref sx), (.ref b1), (.ref b1)])) rfl rfl (hb hby own_d3_13)
  refine Go.back (t' := (T7.setTop (mkF m 16 #[.val (.ref a)] [(.long (-1 : Int64)), (.ref hx_), (.ref sx), (.ref b1), (.ref b1)]))) st7 ?_
  obtain ⟨_, _, ⟨T8, L8, k8, n8⟩, -, X8, ⟨Lc8, hQ8, l8, y8, z8⟩, st8⟩ := X7.specialBack hx (y := (⟨"com/example/binfold/binfold/PackagePart", "<init>", "(Ljava/lang/String;Lcom/example/binfold/binfold/mime/Headers;J)V"⟩ : MethodName)) rfl hown (mvT hZ (hw _ (List.mem_of_getElem? (i := 24) rfl))) (mvT hZ (hw _ (List.mem_of_getElem? (i := 25) rfl))) (mvT hZ (hw _ (List.mem_of_getElem? (i := 26) rfl))) (by decide) (backOf (W := 1) (own_ppInitRR l Z a0 hw [] b1 sx hx_ h1 n0 Z1 A1 (D1 (Or.inr (hw _ (List.mem_of_getElem? (i := 33) rfl))) (ty := .long) (by decide)) (D1 (Or.inr (hw _ (List.mem_of_getElem? (i := 29) rfl))) (ty := (.object "java/lang/String")) (by decide)) (D1 (Or.inr (hw _ (List.mem_of_getElem? (i := 31) rfl))) (ty := (.object "com/example/binfold/binfold/mime/Headers")) (by decide)) gb1) hZ (hw _ (List.mem_of_getElem? (i := 26) rfl)) (hw _ (List.mem_of_getElem? (i := 23) rfl)) (by decide) (by decide)) (g := (mkF m 16 #[.val (.ref a)] [(.long (-1 : Int64)), (.ref hx_), (.ref sx), (.ref b1), (.ref b1)])) rfl (by rw [hml]; rfl) (Steps.refl _) (a := b1) (argsL := [(.ref sx), (.ref hx_), (.long (-1 : Int64))]) (rest := [(.ref b1)]) (lenOf own_pd11 rfl) rfl (by show 2 * 0 + _ ≤ _; exact Nat.le_of_eq rfl) (hb hby own_d3_16) (fun _ _ => ⟨rfl, e7, (by decide : 1 + 0 ≤ _), (by decide : 3 + 0 ≤ _)⟩)
  dsimp only [Pt.U, Pt.locs, Pt.cells, Pt.slots] at X8 l8 y8 z8 st8 hQ8
  subst l8 y8 z8
  obtain ⟨rfl, N8, Kc8, P8_0, P8_1, P8_2, P8_3⟩ := hQ8
  have NA8 := Fr.app N0 N8
  have Z8 : n0 ≤ T8.heap.size := Nat.le_trans Z1 Kc8.1
  have K8 := K1.trans Kc8 (allS (Or.inr sz1) all0)
  refine Go.back (t' := (T8.setTop (mkF m 19 #[.val (.ref a)] [(.ref b1)]))) (fun u k => st8.trans k) ?_
  obtain ⟨fs, hr, hrun, hended, hW, hsame⟩ := X8.leave (v := some (.ref b1)) (fun h => by rw [Bd.returns] at h; cases h)
  refine ⟨_, _, retOut X8 hx (t := (.object "com/example/binfold/binfold/PackagePart")) (i := .areturn) Bd.returns rfl (Or.inr (Or.inr (Or.inr (Or.inr ⟨rfl, rfl, rfl⟩)))) (hb hby own_d3_19) hr, hrun, hended, _, _, rfl, ?_, ⟨_, rfl⟩, hW, hsame.mono (by decide) (by decide)⟩
  show Q_own_desRR Z a sx hx_ h0 n0 _ T8.heap _
  exact ⟨b1, rfl, NA8, K8, gb1, sz1, P8_0, P8_1, P8_2, P8_3⟩
theorem own_ef_own_ptInitRN (m : MethodId) (x0 : Addr) (x1 : Addr) : entryFrame m #[(.ref x0), (.ref x1), .null] 3 = mkF m 0 #[.val (.ref x0), .val (.ref x1), .val .null] [] := by first | (simp [entryFrame, mkF, argsToLocals, Value.category]; done) | rfl
def Q_own_ptInitRN (Z : State) (a : Addr) (sx : Addr) (h0 : Heap) (n0 : Nat) (v : Option Value) (h : Heap) (L : List Loc) : Prop := v = none ∧ Fr n0 L ∧ Keep h0 h [a] ∧ Exa Z h a "com/example/binfold/binfold/PackageParts$Part" ∧ Fld Z h a "com/example/binfold/binfold/PackageParts$Part" "length" "J" (.long (-1 : Int64)) ∧ Fld Z h a "com/example/binfold/binfold/PackageParts$Part" "contentId" "Ljava/lang/String;" (.ref sx) ∧ Fld Z h a "com/example/binfold/binfold/PackageParts$Part" "headers" "Lcom/example/binfold/binfold/mime/Headers;" .null
set_option maxRecDepth 65536 in
set_option maxHeartbeats 40000000 in
theorem own_ptInitRN (l : Launch) (Z : State) (a0 : Array Value) (hw : ∀ d ∈ tables_1, d.before a0 Z = true) (ws : List Jvm.Cond) (a : Addr) (sx : Addr) (h0 : Heap) (n0 : Nat) (Z0 : n0 ≤ h0.size) (E_a : Exa Z h0 a "com/example/binfold/binfold/PackageParts$Part") (F_a_length : Fld Z h0 a "com/example/binfold/binfold/PackageParts$Part" "length" "J" (.long (0 : Int64))) (F_a_contentId : Fld Z h0 a "com/example/binfold/binfold/PackageParts$Part" "contentId" "Ljava/lang/String;" .null) (F_a_headers : Fld Z h0 a "com/example/binfold/binfold/PackageParts$Part" "headers" "Lcom/example/binfold/binfold/mime/Headers;" .null) (g_a : n0 ≤ a) :
    MetFree l (⟨"com/example/binfold/binfold/PackageParts$Part", "<init>", "(Ljava/lang/String;Lcom/example/binfold/binfold/mime/Headers;)V"⟩ : MethodName) (head1 (Jvm.Cond.code (⟨"com/example/binfold/binfold/PackageParts$Part", "<init>", "(Ljava/lang/String;Lcom/example/binfold/binfold/mime/Headers;)V"⟩ : MethodName) prog_24_method_1_code 3 none :: ws) ({ frames := 1, cells := 0, slots := 0, locals := 12 } : Room)) (fun as_ U => as_ = #[(.ref a), (.ref sx), .null] ∧ Z.Warmed39 U.vm ∧ U.heap = h0) (fun _ _ _ _ _ => True) (fun _ U o U' => ∃ v L, o = .returned v ∧ Q_own_ptInitRN Z a sx h0 n0 v U'.heap L ∧ FrameEnd U o U' L ({ frames := 1, cells := 0, slots := 0, locals := 12 } : Room).cells ({ frames := 1, cells := 0, slots := 0, locals := 12 } : Room).slots) := by
  refine MetFree.of_bodySF (plainFor_of_name own_pn13) hisR ?_
  intro p e s m args below meth c s₁ Bd hml0 hP hK
  obtain ⟨rfl, hZ, hh⟩ := hP
  have hx := Bd.exec
  have hby := Bd.bytes
  have hml : c.maxLocals = 3 := hml0
  have hown : s.vm.findClass "com/example/binfold/binfold/PackageParts$Part" = some m.cls := findClass_of_methodNamed Bd.named
  have hnm := (name_of_methodNamed Bd.named Bd.method).1
  have X0 : Stand p l e ({ frames := 1, cells := 0, slots := 0, locals := 12 } : Room) s m #[(.ref a), (.ref sx), .null] below meth c s₁ [] 0 0 := Stand.of_body Bd
  have e0 : s₁.heap = h0 := by rw [← hh, Bd.state]; rfl
  have N0 := Fr.nil n0
  have K0 := Keep.refl h0 [a]
  show Go p e below (own_F s below (Q_own_ptInitRN Z a sx h0 n0) ({ frames := 1, cells := 0, slots := 0, locals := 12 } : Room).cells ({ frames := 1, cells := 0, slots := 0, locals := 12 } : Room).slots) (s₁.setTop (entryFrame m #[(.ref a), (.ref sx), .null] 3))
  rw [own_ef_own_ptInitRN m a sx]
  refine Go.back (t' := (s₁.setTop (mkF m 1 #[.val (.ref a), .val (.ref sx), .val .null] [(.ref a)]))) (fun u k => XS.aloadN X0.here hx rfl (hb hby own_d1_0) rfl rfl k) ?_
  obtain ⟨T1, X1, e1, st1⟩ := initO X0 hx hZ hown (hw _ (List.mem_of_getElem? (i := 6) rfl)) (hw _ (List.mem_of_getElem? (i := 7) rfl)) (hw _ (List.mem_of_getElem? (i := 8) rfl)) e0 (g := (mkF m 1 #[.val (.ref a), .val (.ref sx), .val .null] [(.ref a)])) rfl (by rw [hml]; rfl) rfl (hb hby own_d1_1) (by decide) (W := 0) (by show 2 * 0 + _ ≤ _; exact Nat.le_of_eq rfl) (by decide)
  refine Go.back (t' := (T1.setTop (mkF m 4 #[.val (.ref a), .val (.ref sx), .val .null] []))) st1 ?_
  refine Go.back (t' := (T1.setTop (mkF m 8 #[.val (.ref a), .val (.ref sx), .val .null] [(.long (-1 : Int64)), (.ref a)]))) (fun u k => XS.aloadN X1.here hx rfl (hb hby own_d1_4) rfl rfl (X1.ldc2J hx hown (mvT hZ (hw _ (List.mem_of_getElem? (i := 9) rfl))) rfl (hb hby own_d1_5) k)) ?_
  obtain ⟨T2, h2, X2, e2, W2, st2⟩ := putF X1 hx hZ hown (host := "") (Or.inl (hw _ (List.mem_of_getElem? (i := 10) rfl))) Via.refl e1 F_a_length E_a (Or.inl (hw _ (List.mem_of_getElem? (i := 11) rfl))) (hw _ (List.mem_of_getElem? (i := 1) rfl)) (ty := .long) (by decide) rfl rfl (g := (mkF m 8 #[.val (.ref a), .val (.ref sx), .val .null] [(.long (-1 : Int64)), (.ref a)])) rfl rfl (hb hby own_d1_8)
  have Z2 : n0 ≤ h2.size := Nat.le_trans Z0 (Keep.of_wr W2).1
  have K2 := K0.wr W2 (Or.inl (List.mem_of_getElem? (i := 0) rfl))
  have N2 := Fr.snoc X2 N0 g_a
  have F2 := F_a_length.same W2
  refine Go.back (t' := (T2.setTop (mkF m 11 #[.val (.ref a), .val (.ref sx), .val .null] []))) st2 ?_
  refine Go.back (t' := (T2.setTop (mkF m 13 #[.val (.ref a), .val (.ref sx), .val .null] [(.ref sx), (.ref a)]))) (fun u k => XS.aloadN X2.here hx rfl (hb hby own_d1_11) rfl rfl (XS.aloadN X2.here hx rfl (hb hby own_d1_12) rfl rfl k)) ?_
  have f4 := (F_a_contentId.other W2 (Or.inr (slot_ne (Or.inr (hw _ (List.mem_of_getElem? (i := 13) rfl))) (Or.inl (hw _ (List.mem_of_getElem? (i := 11) rfl))) (by decide) (t := (.object "java/lang/String")) (t' := .long) (by decide) (by decide))))
  have f5 := (E_a.wr W2)
  obtain ⟨T3, h3, X3, e3, W3, st3⟩ := putF X2 hx hZ hown (host := "") (Or.inl (hw _ (List.mem_of_getElem? (i := 12) rfl))) Via.refl e2 f4 f5 (Or.inr ⟨(hw _ (List.mem_of_getElem? (i := 13) rfl)), rfl, hnm⟩) (hw _ (List.mem_of_getElem? (i := 1) rfl)) (ty := (.object "java/lang/String")) (by decide) rfl rfl (g := (mkF m 13 #[.val (.ref a), .val (.ref sx), .val .null] [(.ref sx), (.ref a)])) rfl rfl (hb hby own_d1_13)
  have Z3 : n0 ≤ h3.size := Nat.le_trans Z2 (Keep.of_wr W3).1
  have K3 := K2.wr W3 (Or.inl (List.mem_of_getElem? (i := 0) rfl))
  have N3 := Fr.snoc X3 N2 g_a
  have F3 := f4.same W3
  refine Go.back (t' := (T3.setTop (mkF m 16 #[.val (.ref a), .val (.ref sx), .val .null] []))) st3 ?_
  refine Go.back (t' := (T3.setTop (mkF m 18 #[.val (.ref a), .val (.ref sx), .val .null] [.null, (.ref a)]))) (fun u k => XS.aloadN X3.here hx rfl (hb hby own_d1_16) rfl rfl (XS.aloadN X3.here hx rfl (hb hby own_d1_17) rfl rfl k)) ?_
  have f7 := ((F_a_headers.other W2 (Or.inr (slot_ne (Or.inr (hw _ (List.mem_of_getElem? (i := 15) rfl))) (Or.inl (hw _ (List.mem_of_getElem? (i := 11) rfl))) (by decide) (t := (.object "com/example/binfold/binfold/mime/Headers")) (t' := .long) (by decide) (by decide)))).other W3 (Or.inr (slot_ne (Or.inr (hw _ (List.mem_of_getElem? (i := 15) rfl))) (Or.inr (hw _ (List.mem_of_getElem? (i := 13) rfl))) (by decide) (t := (.object "com/example/binfold/binfold/mime/Headers")) (t' := (.object "java/lang/String")) (by decide) (by decide))))
  have f8 := (f5.wr W3)
  obtain ⟨T6, h6, X6, e6, W6, st6⟩ := putF X3 hx hZ hown (host := "") (Or.inl (hw _ (List.mem_of_getElem? (i := 14) rfl))) Via.refl e3 f7 f8 (Or.inr ⟨(hw _ (List.mem_of_getElem? (i := 15) rfl)), rfl, hnm⟩) (hw _ (List.mem_of_getElem? (i := 1) rfl)) (ty := (.object "com/example/binfold/binfold/mime/Headers")) (by decide) rfl rfl (g := (mkF m 18 #[.val (.ref a), .val (.ref sx), .val .null] [.null, (.ref a)])) rfl rfl (hb hby own_d1_18)
  have Z6 : n0 ≤ h6.size := Nat.le_trans Z3 (Keep.of_wr W6).1
  have K6 := K3.wr W6 (Or.inl (List.mem_of_getElem? (i := 0) rfl))
  have N6 := Fr.snoc X6 N3 g_a
  have F6 := f7.same W6
  refine Go.back (t' := (T6.setTop (mkF m 21 #[.val (.ref a), .val (.ref sx), .val .null] []))) st6 ?_
  have f9 := (f8.wr W6)
  have f10 := ((F2.other W3 (Or.inr (slot_ne (Or.inl (hw _ (List.mem_of_getElem? (i := 11) rfl))) (Or.inr (hw _ (List.mem_of_getElem? (i := 13) rfl))) (by decide) (t := .long) (t' := (.object "java/lang/String")) (by decide) (by decide)))).other W6 (Or.inr (slot_ne (Or.inl (hw _ (List.mem_of_getElem? (i := 11) rfl))) (Or.inr (hw _ (List.mem_of_getElem? (i := 15) rfl))) (by decide) (t := .long) (t' := (.object "com/example/binfold/binfold/mime/Headers")) (by decide) (by decide))))
  have f11 := (F3.other W6 (Or.inr (slot_ne (Or.inr (hw _ (List.mem_of_getElem? (i := 13) rfl))) (Or.inr (hw _ (List.mem_of_getElem? (i := 15) rfl))) (by decide) (t := (.object "java/lang/String")) (t' := (.object "com/example/binfold/binfold/mime/Headers")) (by decide) (by decide))))
  obtain ⟨fs, hr, hrun, hended, hW, hsame⟩ := X6.leave (v := none) (fun _ => rfl)
  refine ⟨_, _, X6.returnOut hx Bd.returns (hb hby own_d1_21) hr, hrun, hended, _, _, rfl, ?_, ⟨_, rfl⟩, hW, hsame.mono (by decide) (by decide)⟩
  show Q_own_ptInitRN Z a sx h0 n0 _ T6.heap _
  rw [e6]
  exact ⟨rfl, N6, K6, f9, f10, f11, F6⟩
theorem own_ef_own_ppInitRN (m : MethodId) (x0 : Addr) (x1 : Addr) : entryFrame m #[(.ref x0), (.ref x1), .null, (.long (-1 : Int64))] 5 = mkF m 0 #[.val (.ref x0), .val (.ref x1), .val .null, .val (.long (-1 : Int64)), .second] [] := by first | (simp [entryFrame, mkF, argsToLocals, Value.category]; done) | rfl
def Q_own_ppInitRN (Z : State) (a : Addr) (sx : Addr) (h0 : Heap) (n0 : Nat) (v : Option Value) (h : Heap) (L : List Loc) : Prop := v = none ∧ Fr n0 L ∧ Keep h0 h [a] ∧ Exa Z h a "com/example/binfold/binfold/PackagePart" ∧ Fld Z h a "com/example/binfold/binfold/PackagePart" "decodedLength" "J" (.long (-1 : Int64)) ∧ Fld Z h a "com/example/binfold/binfold/PackagePart" "contentId" "Ljava/lang/String;" (.ref sx) ∧ Fld Z h a "com/example/binfold/binfold/PackagePart" "headers" "Lcom/example/binfold/binfold/mime/Headers;" .null
set_option maxRecDepth 65536 in
set_option maxHeartbeats 40000000 in
theorem own_ppInitRN (l : Launch) (Z : State) (a0 : Array Value) (hw : ∀ d ∈ tables_1, d.before a0 Z = true) (ws : List Jvm.Cond) (a : Addr) (sx : Addr) (h0 : Heap) (n0 : Nat) (Z0 : n0 ≤ h0.size) (E_a : Exa Z h0 a "com/example/binfold/binfold/PackagePart") (F_a_decodedLength : Fld Z h0 a "com/example/binfold/binfold/PackagePart" "decodedLength" "J" (.long (0 : Int64))) (F_a_contentId : Fld Z h0 a "com/example/binfold/binfold/PackagePart" "contentId" "Ljava/lang/String;" .null) (F_a_headers : Fld Z h0 a "com/example/binfold/binfold/PackagePart" "headers" "Lcom/example/binfold/binfold/mime/Headers;" .null) (g_a : n0 ≤ a) :
    MetFree l (⟨"com/example/binfold/binfold/PackagePart", "<init>", "(Ljava/lang/String;Lcom/example/binfold/binfold/mime/Headers;J)V"⟩ : MethodName) (head1 (Jvm.Cond.code (⟨"com/example/binfold/binfold/PackagePart", "<init>", "(Ljava/lang/String;Lcom/example/binfold/binfold/mime/Headers;J)V"⟩ : MethodName) prog_22_method_1_code 5 none :: ws) ({ frames := 1, cells := 0, slots := 0, locals := 12 } : Room)) (fun as_ U => as_ = #[(.ref a), (.ref sx), .null, (.long (-1 : Int64))] ∧ Z.Warmed39 U.vm ∧ U.heap = h0) (fun _ _ _ _ _ => True) (fun _ U o U' => ∃ v L, o = .returned v ∧ Q_own_ppInitRN Z a sx h0 n0 v U'.heap L ∧ FrameEnd U o U' L ({ frames := 1, cells := 0, slots := 0, locals := 12 } : Room).cells ({ frames := 1, cells := 0, slots := 0, locals := 12 } : Room).slots) := by
  refine MetFree.of_bodySF (plainFor_of_name own_pn14) hisR ?_
  intro p e s m args below meth c s₁ Bd hml0 hP hK
  obtain ⟨rfl, hZ, hh⟩ := hP
  have hx := Bd.exec
  have hby := Bd.bytes
  have hml : c.maxLocals = 5 := hml0
  have hown : s.vm.findClass "com/example/binfold/binfold/PackagePart" = some m.cls := findClass_of_methodNamed Bd.named
  have hnm := (name_of_methodNamed Bd.named Bd.method).1
  have X0 : Stand p l e ({ frames := 1, cells := 0, slots := 0, locals := 12 } : Room) s m #[(.ref a), (.ref sx), .null, (.long (-1 : Int64))] below meth c s₁ [] 0 0 := Stand.of_body Bd
  have e0 : s₁.heap = h0 := by rw [← hh, Bd.state]; rfl
  have N0 := Fr.nil n0
  have K0 := Keep.refl h0 [a]
  show Go p e below (own_F s below (Q_own_ppInitRN Z a sx h0 n0) ({ frames := 1, cells := 0, slots := 0, locals := 12 } : Room).cells ({ frames := 1, cells := 0, slots := 0, locals := 12 } : Room).slots) (s₁.setTop (entryFrame m #[(.ref a), (.ref sx), .null, (.long (-1 : Int64))] 5))
  rw [own_ef_own_ppInitRN m a sx]
  refine Go.back (t' := (s₁.setTop (mkF m 1 #[.val (.ref a), .val (.ref sx), .val .null, .val (.long (-1 : Int64)), .second] [(.ref a)]))) (fun u k => XS.aloadN X0.here hx rfl (hb hby own_d4_0) rfl rfl k) ?_
  obtain ⟨T1, X1, e1, st1⟩ := initO X0 hx hZ hown (hw _ (List.mem_of_getElem? (i := 27) rfl)) (hw _ (List.mem_of_getElem? (i := 7) rfl)) (hw _ (List.mem_of_getElem? (i := 8) rfl)) e0 (g := (mkF m 1 #[.val (.ref a), .val (.ref sx), .val .null, .val (.long (-1 : Int64)), .second] [(.ref a)])) rfl (by rw [hml]; rfl) rfl (hb hby own_d4_1) (by decide) (W := 0) (by show 2 * 0 + _ ≤ _; exact Nat.le_of_eq rfl) (by decide)
  refine Go.back (t' := (T1.setTop (mkF m 4 #[.val (.ref a), .val (.ref sx), .val .null, .val (.long (-1 : Int64)), .second] []))) st1 ?_
  refine Go.back (t' := (T1.setTop (mkF m 6 #[.val (.ref a), .val (.ref sx), .val .null, .val (.long (-1 : Int64)), .second] [(.ref sx), (.ref a)]))) (fun u k => XS.aloadN X1.here hx rfl (hb hby own_d4_4) rfl rfl (XS.aloadN X1.here hx rfl (hb hby own_d4_5) rfl rfl k)) ?_
  obtain ⟨T2, h2, X2, e2, W2, st2⟩ := putF X1 hx hZ hown (host := "") (Or.inl (hw _ (List.mem_of_getElem? (i := 28) rfl))) Via.refl e1 F_a_contentId E_a (Or.inr ⟨(hw _ (List.mem_of_getElem? (i := 29) rfl)), rfl, hnm⟩) (hw _ (List.mem_of_getElem? (i := 22) rfl)) (ty := (.object "java/lang/String")) (by decide) rfl rfl (g := (mkF m 6 #[.val (.ref a), .val (.ref sx), .val .null, .val (.long (-1 : Int64)), .second] [(.ref sx), (.ref a)])) rfl rfl (hb hby own_d4_6)
  have Z2 : n0 ≤ h2.size := Nat.le_trans Z0 (Keep.of_wr W2).1
  have K2 := K0.wr W2 (Or.inl (List.mem_of_getElem? (i := 0) rfl))
  have N2 := Fr.snoc X2 N0 g_a
  have F2 := F_a_contentId.same W2
  refine Go.back (t' := (T2.setTop (mkF m 9 #[.val (.ref a), .val (.ref sx), .val .null, .val (.long (-1 : Int64)), .second] []))) st2 ?_
  refine Go.back (t' := (T2.setTop (mkF m 11 #[.val (.ref a), .val (.ref sx), .val .null, .val (.long (-1 : Int64)), .second] [.null, (.ref a)]))) (fun u k => XS.aloadN X2.here hx rfl (hb hby own_d4_9) rfl rfl (XS.aloadN X2.here hx rfl (hb hby own_d4_10) rfl rfl k)) ?_
  have f4 := (F_a_headers.other W2 (Or.inr (slot_ne (Or.inr (hw _ (List.mem_of_getElem? (i := 31) rfl))) (Or.inr (hw _ (List.mem_of_getElem? (i := 29) rfl))) (by decide) (t := (.object "com/example/binfold/binfold/mime/Headers")) (t' := (.object "java/lang/String")) (by decide) (by decide))))
  have f5 := (E_a.wr W2)
  obtain ⟨T3, h3, X3, e3, W3, st3⟩ := putF X2 hx hZ hown (host := "") (Or.inl (hw _ (List.mem_of_getElem? (i := 30) rfl))) Via.refl e2 f4 f5 (Or.inr ⟨(hw _ (List.mem_of_getElem? (i := 31) rfl)), rfl, hnm⟩) (hw _ (List.mem_of_getElem? (i := 22) rfl)) (ty := (.object "com/example/binfold/binfold/mime/Headers")) (by decide) rfl rfl (g := (mkF m 11 #[.val (.ref a), .val (.ref sx), .val .null, .val (.long (-1 : Int64)), .second] [.null, (.ref a)])) rfl rfl (hb hby own_d4_11)
  have Z3 : n0 ≤ h3.size := Nat.le_trans Z2 (Keep.of_wr W3).1
  have K3 := K2.wr W3 (Or.inl (List.mem_of_getElem? (i := 0) rfl))
  have N3 := Fr.snoc X3 N2 g_a
  have F3 := f4.same W3
  refine Go.back (t' := (T3.setTop (mkF m 14 #[.val (.ref a), .val (.ref sx), .val .null, .val (.long (-1 : Int64)), .second] []))) st3 ?_
  refine Go.back (t' := (T3.setTop (mkF m 16 #[.val (.ref a), .val (.ref sx), .val .null, .val (.long (-1 : Int64)), .second] [(.long (-1 : Int64)), (.ref a)]))) (fun u k => XS.aloadN X3.here hx rfl (hb hby own_d4_14) rfl rfl (XT.lloadN X3.here hx rfl (hb hby own_d4_15) rfl k)) ?_
  have f7 := ((F_a_decodedLength.other W2 (Or.inr (slot_ne (Or.inr (hw _ (List.mem_of_getElem? (i := 33) rfl))) (Or.inr (hw _ (List.mem_of_getElem? (i := 29) rfl))) (by decide) (t := .long) (t' := (.object "java/lang/String")) (by decide) (by decide)))).other W3 (Or.inr (slot_ne (Or.inr (hw _ (List.mem_of_getElem? (i := 33) rfl))) (Or.inr (hw _ (List.mem_of_getElem? (i := 31) rfl))) (by decide) (t := .long) (t' := (.object "com/example/binfold/binfold/mime/Headers")) (by decide) (by decide))))
  have f8 := (f5.wr W3)
  obtain ⟨T6, h6, X6, e6, W6, st6⟩ := putF X3 hx hZ hown (host := "") (Or.inl (hw _ (List.mem_of_getElem? (i := 32) rfl))) Via.refl e3 f7 f8 (Or.inr ⟨(hw _ (List.mem_of_getElem? (i := 33) rfl)), rfl, hnm⟩) (hw _ (List.mem_of_getElem? (i := 22) rfl)) (ty := .long) (by decide) rfl rfl (g := (mkF m 16 #[.val (.ref a), .val (.ref sx), .val .null, .val (.long (-1 : Int64)), .second] [(.long (-1 : Int64)), (.ref a)])) rfl rfl (hb hby own_d4_16)
  have Z6 : n0 ≤ h6.size := Nat.le_trans Z3 (Keep.of_wr W6).1
  have K6 := K3.wr W6 (Or.inl (List.mem_of_getElem? (i := 0) rfl))
  have N6 := Fr.snoc X6 N3 g_a
  have F6 := f7.same W6
  refine Go.back (t' := (T6.setTop (mkF m 19 #[.val (.ref a), .val (.ref sx), .val .null, .val (.long (-1 : Int64)), .second] []))) st6 ?_
  have f9 := (f8.wr W6)
  have f10 := ((F2.other W3 (Or.inr (slot_ne (Or.inr (hw _ (List.mem_of_getElem? (i := 29) rfl))) (Or.inr (hw _ (List.mem_of_getElem? (i := 31) rfl))) (by decide) (t := (.object "java/lang/String")) (t' := (.object "com/example/binfold/binfold/mime/Headers")) (by decide) (by decide)))).other W6 (Or.inr (slot_ne (Or.inr (hw _ (List.mem_of_getElem? (i := 29) rfl))) (Or.inr (hw _ (List.mem_of_getElem? (i := 33) rfl))) (by decide) (t := (.object "java/lang/String")) (t' := .long) (by decide) (by decide))))
  have f11 := (F3.other W6 (Or.inr (slot_ne (Or.inr (hw _ (List.mem_of_getElem? (i := 31) rfl))) (Or.inr (hw _ (List.mem_of_getElem? (i := 33) rfl))) (by decide) (t := (.object "com/example/binfold/binfold/mime/Headers")) (t' := .long) (by decide) (by decide))))
  obtain ⟨fs, hr, hrun, hended, hW, hsame⟩ := X6.leave (v := none) (fun _ => rfl)
  refine ⟨_, _, X6.returnOut hx Bd.returns (hb hby own_d4_19) hr, hrun, hended, _, _, rfl, ?_, ⟨_, rfl⟩, hW, hsame.mono (by decide) (by decide)⟩
  show Q_own_ppInitRN Z a sx h0 n0 _ T6.heap _
  rw [e6]
  exact ⟨rfl, N6, K6, f9, F6, f10, f11⟩
theorem own_ef_own_desRN (m : MethodId) (x0 : Addr) : entryFrame m #[(.ref x0)] 1 = mkF m 0 #[.val (.ref x0)] [] := by first | (simp [entryFrame, mkF, argsToLocals, Value.category]; done) | rfl
def Q_own_desRN (Z : State) (a : Addr) (sx : Addr) (h0 : Heap) (n0 : Nat) (v : Option Value) (h : Heap) (L : List Loc) : Prop := ∃ q : Addr, v = some (.ref q) ∧ Fr n0 L ∧ Keep h0 h [] ∧ n0 ≤ q ∧ h0.size ≤ q ∧ Exa Z h q "com/example/binfold/binfold/PackagePart" ∧ Fld Z h q "com/example/binfold/binfold/PackagePart" "decodedLength" "J" (.long (-1 : Int64)) ∧ Fld Z h q "com/example/binfold/binfold/PackagePart" "contentId" "Ljava/lang/String;" (.ref sx) ∧ Fld Z h q "com/example/binfold/binfold/PackagePart" "headers" "Lcom/example/binfold/binfold/mime/Headers;" .null
set_option maxRecDepth 65536 in
set_option maxHeartbeats 40000000 in
theorem own_desRN (l : Launch) (Z : State) (a0 : Array Value) (hw : ∀ d ∈ tables_1, d.before a0 Z = true) (ws : List Jvm.Cond) (a : Addr) (sx : Addr) (h0 : Heap) (n0 : Nat) (Z0 : n0 ≤ h0.size) (E_a : Exa Z h0 a "com/example/binfold/binfold/PackageParts$Part") (F_a_length : Fld Z h0 a "com/example/binfold/binfold/PackageParts$Part" "length" "J" (.long (-1 : Int64))) (F_a_contentId : Fld Z h0 a "com/example/binfold/binfold/PackageParts$Part" "contentId" "Ljava/lang/String;" (.ref sx)) (F_a_headers : Fld Z h0 a "com/example/binfold/binfold/PackageParts$Part" "headers" "Lcom/example/binfold/binfold/mime/Headers;" .null) :
    MetFree l (⟨"com/example/binfold/binfold/PackageParts$Part", "description", "()Lcom/example/binfold/binfold/PackagePart;"⟩ : MethodName) (head1 (Jvm.Cond.code (⟨"com/example/binfold/binfold/PackageParts$Part", "description", "()Lcom/example/binfold/binfold/PackagePart;"⟩ : MethodName) prog_24_method_5_code 1 (some (.object "com/example/binfold/binfold/PackagePart")) :: ws) ({ frames := 2, cells := 1, slots := 3, locals := 29 } : Room)) (fun as_ U => as_ = #[(.ref a)] ∧ Z.Warmed39 U.vm ∧ U.heap = h0) (fun _ _ _ _ _ => True) (fun _ U o U' => ∃ v L, o = .returned v ∧ Q_own_desRN Z a sx h0 n0 v U'.heap L ∧ FrameEnd U o U' L ({ frames := 2, cells := 1, slots := 3, locals := 29 } : Room).cells ({ frames := 2, cells := 1, slots := 3, locals := 29 } : Room).slots) := by
  refine MetFree.of_bodySF (plainFor_of_name own_pn13) hisR ?_
  intro p e s m args below meth c s₁ Bd hml0 hP hK
  obtain ⟨rfl, hZ, hh⟩ := hP
  have hx := Bd.exec
  have hby := Bd.bytes
  have hml : c.maxLocals = 1 := hml0
  have hown : s.vm.findClass "com/example/binfold/binfold/PackageParts$Part" = some m.cls := findClass_of_methodNamed Bd.named
  have hnm := (name_of_methodNamed Bd.named Bd.method).1
  have X0 : Stand p l e ({ frames := 2, cells := 1, slots := 3, locals := 29 } : Room) s m #[(.ref a)] below meth c s₁ [] 0 0 := Stand.of_body Bd
  have e0 : s₁.heap = h0 := by rw [← hh, Bd.state]; rfl
  have N0 := Fr.nil n0
  have K0 := Keep.refl h0 []
  show Go p e below (own_F s below (Q_own_desRN Z a sx h0 n0) ({ frames := 2, cells := 1, slots := 3, locals := 29 } : Room).cells ({ frames := 2, cells := 1, slots := 3, locals := 29 } : Room).slots) (s₁.setTop (entryFrame m #[(.ref a)] 1))
  rw [own_ef_own_desRN m a]
  obtain ⟨T1, h1, X1, e1, E1, A1, D1, -, st1⟩ := newO X0 hx hZ hown (hw _ (List.mem_of_getElem? (i := 21) rfl)) (hw _ (List.mem_of_getElem? (i := 22) rfl)) (hw _ (List.mem_of_getElem? (i := 23) rfl)) e0 (g := (mkF m 0 #[.val (.ref a)] [])) rfl (hb hby own_d3_0) (by decide) (by decide)
  obtain ⟨b1, g1⟩ : ∃ z, z = h0.size := ⟨_, rfl⟩
  rw [← g1] at A1 D1 st1
  have ne_a_b1 : a ≠ b1 := Nat.ne_of_lt (Nat.lt_of_lt_of_le E_a.lt (Nat.le_of_eq g1.symm))
  have gb1 : n0 ≤ b1 := Nat.le_trans Z0 (Nat.le_of_eq g1.symm)
  have sz1 : h0.size ≤ b1 := Nat.le_trans K0.1 (Nat.le_of_eq g1.symm)
  have Z1 : n0 ≤ h1.size := Nat.le_trans Z0 E1.1
  have K1 := K0.ext E1
  refine Go.back (t' := (T1.setTop (mkF m 3 #[.val (.ref a)] [(.ref b1)]))) st1 ?_
  refine Go.back (t' := (T1.setTop (mkF m 5 #[.val (.ref a)] [(.ref a), (.ref b1), (.ref b1)]))) (fun u k => XS.dup X1.here hx rfl (hb hby own_d3_3) rfl rfl (XS.aloadN X1.here hx rfl (hb hby own_d3_4) rfl rfl k)) ?_
  have f2 := (F_a_contentId.ext E1)
  obtain ⟨T3, X3, e3, st3⟩ := getF X1 hx hZ hown (host := "") (Or.inl (hw _ (List.mem_of_getElem? (i := 12) rfl))) Via.refl e1 f2 (g := (mkF m 5 #[.val (.ref a)] [(.ref a), (.ref b1), (.ref b1)])) rfl rfl (hb hby own_d3_5)
  refine Go.back (t' := (T3.setTop (mkF m 8 #[.val (.ref a)] [(.ref sx), (.ref b1), (.ref b1)]))) st3 ?_
  refine Go.back (t' := (T3.setTop (mkF m 9 #[.val (.ref a)] [(.ref a), (.ref sx), (.ref b1), (.ref b1)]))) (fun u k => XS.aloadN X3.here hx rfl (hb hby own_d3_8) rfl rfl k) ?_
  have f4 := (F_a_headers.ext E1)
  obtain ⟨T5, X5, e5, st5⟩ := getF X3 hx hZ hown (host := "") (Or.inl (hw _ (List.mem_of_getElem? (i := 14) rfl))) Via.refl e3 f4 (g := (mkF m 9 #[.val (.ref a)] [(.ref a), (.ref sx), (.ref b1), (.ref b1)])) rfl rfl (hb hby own_d3_9)
  refine Go.back (t' := (T5.setTop (mkF m 12 #[.val (.ref a)] [.null, (.ref sx), (.ref b1), (.ref b1)]))) st5 ?_
  refine Go.back (t' := (T5.setTop (mkF m 13 #[.val (.ref a)] [(.ref a), .null, (.ref sx), (.ref b1), (.ref b1)]))) (fun u k => XS.aloadN X5.here hx rfl (hb hby own_d3_12) rfl rfl k) ?_
  have f6 := (F_a_length.ext E1)
  obtain ⟨T7, X7, e7, st7⟩ := getF X5 hx hZ hown (host := "") (Or.inl (hw _ (List.mem_of_getElem? (i := 10) rfl))) Via.refl e5 f6 (g := (mkF m 13 #[.val (.ref a)] [(.ref a), .null, (.ref sx), (.ref b1), (.ref b1)])) rfl rfl (hb hby own_d3_13)
  refine Go.back (t' := (T7.setTop (mkF m 16 #[.val (.ref a)] [(.long (-1 : Int64)), .null, (.ref sx), (.ref b1), (.ref b1)]))) st7 ?_
  obtain ⟨_, _, ⟨T8, L8, k8, n8⟩, -, X8, ⟨Lc8, hQ8, l8, y8, z8⟩, st8⟩ := X7.specialBack hx (y := (⟨"com/example/binfold/binfold/PackagePart", "<init>", "(Ljava/lang/String;Lcom/example/binfold/binfold/mime/Headers;J)V"⟩ : MethodName)) rfl hown (mvT hZ (hw _ (List.mem_of_getElem? (i := 24) rfl))) (mvT hZ (hw _ (List.mem_of_getElem? (i := 25) rfl))) (mvT hZ (hw _ (List.mem_of_getElem? (i := 26) rfl))) (by decide) (backOf (W := 1) (own_ppInitRN l Z a0 hw [] b1 sx h1 n0 Z1 A1 (D1 (Or.inr (hw _ (List.mem_of_getElem? (i := 33) rfl))) (ty := .long) (by decide)) (D1 (Or.inr (hw _ (List.mem_of_getElem? (i := 29) rfl))) (ty := (.object "java/lang/String")) (by decide)) (D1 (Or.inr (hw _ (List.mem_of_getElem? (i := 31) rfl))) (ty := (.object "com/example/binfold/binfold/mime/Headers")) (by decide)) gb1) hZ (hw _ (List.mem_of_getElem? (i := 26) rfl)) (hw _ (List.mem_of_getElem? (i := 23) rfl)) (by decide) (by decide)) (g := (mkF m 16 #[.val (.ref a)] [(.long (-1 : Int64)), .null, (.ref sx), (.ref b1), (.ref b1)])) rfl (by rw [hml]; rfl) (Steps.refl _) (a := b1) (argsL := [(.ref sx), .null, (.long (-1 : Int64))]) (rest := [(.ref b1)]) (lenOf own_pd11 rfl) rfl (by show 2 * 0 + _ ≤ _; exact Nat.le_of_eq rfl) (hb hby own_d3_16) (fun _ _ => ⟨rfl, e7, (by decide : 1 + 0 ≤ _), (by decide : 3 + 0 ≤ _)⟩)
  dsimp only [Pt.U, Pt.locs, Pt.cells, Pt.slots] at X8 l8 y8 z8 st8 hQ8
  subst l8 y8 z8
  obtain ⟨rfl, N8, Kc8, P8_0, P8_1, P8_2, P8_3⟩ := hQ8
  have NA8 := Fr.app N0 N8
  have Z8 : n0 ≤ T8.heap.size := Nat.le_trans Z1 Kc8.1
  have K8 := K1.trans Kc8 (allS (Or.inr sz1) all0)
  refine Go.back (t' := (T8.setTop (mkF m 19 #[.val (.ref a)] [(.ref b1)]))) (fun u k => st8.trans k) ?_
  obtain ⟨fs, hr, hrun, hended, hW, hsame⟩ := X8.leave (v := some (.ref b1)) (fun h => by rw [Bd.returns] at h; cases h)
  refine ⟨_, _, retOut X8 hx (t := (.object "com/example/binfold/binfold/PackagePart")) (i := .areturn) Bd.returns rfl (Or.inr (Or.inr (Or.inr (Or.inr ⟨rfl, rfl, rfl⟩)))) (hb hby own_d3_19) hr, hrun, hended, _, _, rfl, ?_, ⟨_, rfl⟩, hW, hsame.mono (by decide) (by decide)⟩
  show Q_own_desRN Z a sx h0 n0 _ T8.heap _
  exact ⟨b1, rfl, NA8, K8, gb1, sz1, P8_0, P8_1, P8_2, P8_3⟩
theorem own_ef_own_ptInitNR (m : MethodId) (x0 : Addr) (x2 : Addr) : entryFrame m #[(.ref x0), .null, (.ref x2)] 3 = mkF m 0 #[.val (.ref x0), .val .null, .val (.ref x2)] [] := by first | (simp [entryFrame, mkF, argsToLocals, Value.category]; done) | rfl
def Q_own_ptInitNR (Z : State) (a : Addr) (hx_ : Addr) (h0 : Heap) (n0 : Nat) (v : Option Value) (h : Heap) (L : List Loc) : Prop := v = none ∧ Fr n0 L ∧ Keep h0 h [a] ∧ Exa Z h a "com/example/binfold/binfold/PackageParts$Part" ∧ Fld Z h a "com/example/binfold/binfold/PackageParts$Part" "length" "J" (.long (-1 : Int64)) ∧ Fld Z h a "com/example/binfold/binfold/PackageParts$Part" "contentId" "Ljava/lang/String;" .null ∧ Fld Z h a "com/example/binfold/binfold/PackageParts$Part" "headers" "Lcom/example/binfold/binfold/mime/Headers;" (.ref hx_)
set_option maxRecDepth 65536 in
set_option maxHeartbeats 40000000 in
theorem own_ptInitNR (l : Launch) (Z : State) (a0 : Array Value) (hw : ∀ d ∈ tables_1, d.before a0 Z = true) (ws : List Jvm.Cond) (a : Addr) (hx_ : Addr) (h0 : Heap) (n0 : Nat) (Z0 : n0 ≤ h0.size) (E_a : Exa Z h0 a "com/example/binfold/binfold/PackageParts$Part") (F_a_length : Fld Z h0 a "com/example/binfold/binfold/PackageParts$Part" "length" "J" (.long (0 : Int64))) (F_a_contentId : Fld Z h0 a "com/example/binfold/binfold/PackageParts$Part" "contentId" "Ljava/lang/String;" .null) (F_a_headers : Fld Z h0 a "com/example/binfold/binfold/PackageParts$Part" "headers" "Lcom/example/binfold/binfold/mime/Headers;" .null) (g_a : n0 ≤ a) :
    MetFree l (⟨"com/example/binfold/binfold/PackageParts$Part", "<init>", "(Ljava/lang/String;Lcom/example/binfold/binfold/mime/Headers;)V"⟩ : MethodName) (head1 (Jvm.Cond.code (⟨"com/example/binfold/binfold/PackageParts$Part", "<init>", "(Ljava/lang/String;Lcom/example/binfold/binfold/mime/Headers;)V"⟩ : MethodName) prog_24_method_1_code 3 none :: ws) ({ frames := 1, cells := 0, slots := 0, locals := 12 } : Room)) (fun as_ U => as_ = #[(.ref a), .null, (.ref hx_)] ∧ Z.Warmed39 U.vm ∧ U.heap = h0) (fun _ _ _ _ _ => True) (fun _ U o U' => ∃ v L, o = .returned v ∧ Q_own_ptInitNR Z a hx_ h0 n0 v U'.heap L ∧ FrameEnd U o U' L ({ frames := 1, cells := 0, slots := 0, locals := 12 } : Room).cells ({ frames := 1, cells := 0, slots := 0, locals := 12 } : Room).slots) := by
  refine MetFree.of_bodySF (plainFor_of_name own_pn13) hisR ?_
  intro p e s m args below meth c s₁ Bd hml0 hP hK
  obtain ⟨rfl, hZ, hh⟩ := hP
  have hx := Bd.exec
  have hby := Bd.bytes
  have hml : c.maxLocals = 3 := hml0
  have hown : s.vm.findClass "com/example/binfold/binfold/PackageParts$Part" = some m.cls := findClass_of_methodNamed Bd.named
  have hnm := (name_of_methodNamed Bd.named Bd.method).1
  have X0 : Stand p l e ({ frames := 1, cells := 0, slots := 0, locals := 12 } : Room) s m #[(.ref a), .null, (.ref hx_)] below meth c s₁ [] 0 0 := Stand.of_body Bd
  have e0 : s₁.heap = h0 := by rw [← hh, Bd.state]; rfl
  have N0 := Fr.nil n0
  have K0 := Keep.refl h0 [a]
  show Go p e below (own_F s below (Q_own_ptInitNR Z a hx_ h0 n0) ({ frames := 1, cells := 0, slots := 0, locals := 12 } : Room).cells ({ frames := 1, cells := 0, slots := 0, locals := 12 } : Room).slots) (s₁.setTop (entryFrame m #[(.ref a), .null, (.ref hx_)] 3))
  rw [own_ef_own_ptInitNR m a hx_]
  refine Go.back (t' := (s₁.setTop (mkF m 1 #[.val (.ref a), .val .null, .val (.ref hx_)] [(.ref a)]))) (fun u k => XS.aloadN X0.here hx rfl (hb hby own_d1_0) rfl rfl k) ?_
  obtain ⟨T1, X1, e1, st1⟩ := initO X0 hx hZ hown (hw _ (List.mem_of_getElem? (i := 6) rfl)) (hw _ (List.mem_of_getElem? (i := 7) rfl)) (hw _ (List.mem_of_getElem? (i := 8) rfl)) e0 (g := (mkF m 1 #[.val (.ref a), .val .null, .val (.ref hx_)] [(.ref a)])) rfl (by rw [hml]; rfl) rfl (hb hby own_d1_1) (by decide) (W := 0) (by show 2 * 0 + _ ≤ _; exact Nat.le_of_eq rfl) (by decide)
  refine Go.back (t' := (T1.setTop (mkF m 4 #[.val (.ref a), .val .null, .val (.ref hx_)] []))) st1 ?_
  refine Go.back (t' := (T1.setTop (mkF m 8 #[.val (.ref a), .val .null, .val (.ref hx_)] [(.long (-1 : Int64)), (.ref a)]))) (fun u k => XS.aloadN X1.here hx rfl (hb hby own_d1_4) rfl rfl (X1.ldc2J hx hown (mvT hZ (hw _ (List.mem_of_getElem? (i := 9) rfl))) rfl (hb hby own_d1_5) k)) ?_
  obtain ⟨T2, h2, X2, e2, W2, st2⟩ := putF X1 hx hZ hown (host := "") (Or.inl (hw _ (List.mem_of_getElem? (i := 10) rfl))) Via.refl e1 F_a_length E_a (Or.inl (hw _ (List.mem_of_getElem? (i := 11) rfl))) (hw _ (List.mem_of_getElem? (i := 1) rfl)) (ty := .long) (by decide) rfl rfl (g := (mkF m 8 #[.val (.ref a), .val .null, .val (.ref hx_)] [(.long (-1 : Int64)), (.ref a)])) rfl rfl (hb hby own_d1_8)
  have Z2 : n0 ≤ h2.size := Nat.le_trans Z0 (Keep.of_wr W2).1
  have K2 := K0.wr W2 (Or.inl (List.mem_of_getElem? (i := 0) rfl))
  have N2 := Fr.snoc X2 N0 g_a
  have F2 := F_a_length.same W2
  refine Go.back (t' := (T2.setTop (mkF m 11 #[.val (.ref a), .val .null, .val (.ref hx_)] []))) st2 ?_
  refine Go.back (t' := (T2.setTop (mkF m 13 #[.val (.ref a), .val .null, .val (.ref hx_)] [.null, (.ref a)]))) (fun u k => XS.aloadN X2.here hx rfl (hb hby own_d1_11) rfl rfl (XS.aloadN X2.here hx rfl (hb hby own_d1_12) rfl rfl k)) ?_
  have f4 := (F_a_contentId.other W2 (Or.inr (slot_ne (Or.inr (hw _ (List.mem_of_getElem? (i := 13) rfl))) (Or.inl (hw _ (List.mem_of_getElem? (i := 11) rfl))) (by decide) (t := (.object "java/lang/String")) (t' := .long) (by decide) (by decide))))
  have f5 := (E_a.wr W2)
  obtain ⟨T3, h3, X3, e3, W3, st3⟩ := putF X2 hx hZ hown (host := "") (Or.inl (hw _ (List.mem_of_getElem? (i := 12) rfl))) Via.refl e2 f4 f5 (Or.inr ⟨(hw _ (List.mem_of_getElem? (i := 13) rfl)), rfl, hnm⟩) (hw _ (List.mem_of_getElem? (i := 1) rfl)) (ty := (.object "java/lang/String")) (by decide) rfl rfl (g := (mkF m 13 #[.val (.ref a), .val .null, .val (.ref hx_)] [.null, (.ref a)])) rfl rfl (hb hby own_d1_13)
  have Z3 : n0 ≤ h3.size := Nat.le_trans Z2 (Keep.of_wr W3).1
  have K3 := K2.wr W3 (Or.inl (List.mem_of_getElem? (i := 0) rfl))
  have N3 := Fr.snoc X3 N2 g_a
  have F3 := f4.same W3
  refine Go.back (t' := (T3.setTop (mkF m 16 #[.val (.ref a), .val .null, .val (.ref hx_)] []))) st3 ?_
  refine Go.back (t' := (T3.setTop (mkF m 18 #[.val (.ref a), .val .null, .val (.ref hx_)] [(.ref hx_), (.ref a)]))) (fun u k => XS.aloadN X3.here hx rfl (hb hby own_d1_16) rfl rfl (XS.aloadN X3.here hx rfl (hb hby own_d1_17) rfl rfl k)) ?_
  have f7 := ((F_a_headers.other W2 (Or.inr (slot_ne (Or.inr (hw _ (List.mem_of_getElem? (i := 15) rfl))) (Or.inl (hw _ (List.mem_of_getElem? (i := 11) rfl))) (by decide) (t := (.object "com/example/binfold/binfold/mime/Headers")) (t' := .long) (by decide) (by decide)))).other W3 (Or.inr (slot_ne (Or.inr (hw _ (List.mem_of_getElem? (i := 15) rfl))) (Or.inr (hw _ (List.mem_of_getElem? (i := 13) rfl))) (by decide) (t := (.object "com/example/binfold/binfold/mime/Headers")) (t' := (.object "java/lang/String")) (by decide) (by decide))))
  have f8 := (f5.wr W3)
  obtain ⟨T6, h6, X6, e6, W6, st6⟩ := putF X3 hx hZ hown (host := "") (Or.inl (hw _ (List.mem_of_getElem? (i := 14) rfl))) Via.refl e3 f7 f8 (Or.inr ⟨(hw _ (List.mem_of_getElem? (i := 15) rfl)), rfl, hnm⟩) (hw _ (List.mem_of_getElem? (i := 1) rfl)) (ty := (.object "com/example/binfold/binfold/mime/Headers")) (by decide) rfl rfl (g := (mkF m 18 #[.val (.ref a), .val .null, .val (.ref hx_)] [(.ref hx_), (.ref a)])) rfl rfl (hb hby own_d1_18)
  have Z6 : n0 ≤ h6.size := Nat.le_trans Z3 (Keep.of_wr W6).1
  have K6 := K3.wr W6 (Or.inl (List.mem_of_getElem? (i := 0) rfl))
  have N6 := Fr.snoc X6 N3 g_a
  have F6 := f7.same W6
  refine Go.back (t' := (T6.setTop (mkF m 21 #[.val (.ref a), .val .null, .val (.ref hx_)] []))) st6 ?_
  have f9 := (f8.wr W6)
  have f10 := ((F2.other W3 (Or.inr (slot_ne (Or.inl (hw _ (List.mem_of_getElem? (i := 11) rfl))) (Or.inr (hw _ (List.mem_of_getElem? (i := 13) rfl))) (by decide) (t := .long) (t' := (.object "java/lang/String")) (by decide) (by decide)))).other W6 (Or.inr (slot_ne (Or.inl (hw _ (List.mem_of_getElem? (i := 11) rfl))) (Or.inr (hw _ (List.mem_of_getElem? (i := 15) rfl))) (by decide) (t := .long) (t' := (.object "com/example/binfold/binfold/mime/Headers")) (by decide) (by decide))))
  have f11 := (F3.other W6 (Or.inr (slot_ne (Or.inr (hw _ (List.mem_of_getElem? (i := 13) rfl))) (Or.inr (hw _ (List.mem_of_getElem? (i := 15) rfl))) (by decide) (t := (.object "java/lang/String")) (t' := (.object "com/example/binfold/binfold/mime/Headers")) (by decide) (by decide))))
  obtain ⟨fs, hr, hrun, hended, hW, hsame⟩ := X6.leave (v := none) (fun _ => rfl)
  refine ⟨_, _, X6.returnOut hx Bd.returns (hb hby own_d1_21) hr, hrun, hended, _, _, rfl, ?_, ⟨_, rfl⟩, hW, hsame.mono (by decide) (by decide)⟩
  show Q_own_ptInitNR Z a hx_ h0 n0 _ T6.heap _
  rw [e6]
  exact ⟨rfl, N6, K6, f9, f10, f11, F6⟩
theorem own_ef_own_ppInitNR (m : MethodId) (x0 : Addr) (x2 : Addr) : entryFrame m #[(.ref x0), .null, (.ref x2), (.long (-1 : Int64))] 5 = mkF m 0 #[.val (.ref x0), .val .null, .val (.ref x2), .val (.long (-1 : Int64)), .second] [] := by first | (simp [entryFrame, mkF, argsToLocals, Value.category]; done) | rfl
def Q_own_ppInitNR (Z : State) (a : Addr) (hx_ : Addr) (h0 : Heap) (n0 : Nat) (v : Option Value) (h : Heap) (L : List Loc) : Prop := v = none ∧ Fr n0 L ∧ Keep h0 h [a] ∧ Exa Z h a "com/example/binfold/binfold/PackagePart" ∧ Fld Z h a "com/example/binfold/binfold/PackagePart" "decodedLength" "J" (.long (-1 : Int64)) ∧ Fld Z h a "com/example/binfold/binfold/PackagePart" "contentId" "Ljava/lang/String;" .null ∧ Fld Z h a "com/example/binfold/binfold/PackagePart" "headers" "Lcom/example/binfold/binfold/mime/Headers;" (.ref hx_)
set_option maxRecDepth 65536 in
set_option maxHeartbeats 40000000 in
theorem own_ppInitNR (l : Launch) (Z : State) (a0 : Array Value) (hw : ∀ d ∈ tables_1, d.before a0 Z = true) (ws : List Jvm.Cond) (a : Addr) (hx_ : Addr) (h0 : Heap) (n0 : Nat) (Z0 : n0 ≤ h0.size) (E_a : Exa Z h0 a "com/example/binfold/binfold/PackagePart") (F_a_decodedLength : Fld Z h0 a "com/example/binfold/binfold/PackagePart" "decodedLength" "J" (.long (0 : Int64))) (F_a_contentId : Fld Z h0 a "com/example/binfold/binfold/PackagePart" "contentId" "Ljava/lang/String;" .null) (F_a_headers : Fld Z h0 a "com/example/binfold/binfold/PackagePart" "headers" "Lcom/example/binfold/binfold/mime/Headers;" .null) (g_a : n0 ≤ a) :
    MetFree l (⟨"com/example/binfold/binfold/PackagePart", "<init>", "(Ljava/lang/String;Lcom/example/binfold/binfold/mime/Headers;J)V"⟩ : MethodName) (head1 (Jvm.Cond.code (⟨"com/example/binfold/binfold/PackagePart", "<init>", "(Ljava/lang/String;Lcom/example/binfold/binfold/mime/Headers;J)V"⟩ : MethodName) prog_22_method_1_code 5 none :: ws) ({ frames := 1, cells := 0, slots := 0, locals := 12 } : Room)) (fun as_ U => as_ = #[(.ref a), .null, (.ref hx_), (.long (-1 : Int64))] ∧ Z.Warmed39 U.vm ∧ U.heap = h0) (fun _ _ _ _ _ => True) (fun _ U o U' => ∃ v L, o = .returned v ∧ Q_own_ppInitNR Z a hx_ h0 n0 v U'.heap L ∧ FrameEnd U o U' L ({ frames := 1, cells := 0, slots := 0, locals := 12 } : Room).cells ({ frames := 1, cells := 0, slots := 0, locals := 12 } : Room).slots) := by
  refine MetFree.of_bodySF (plainFor_of_name own_pn14) hisR ?_
  intro p e s m args below meth c s₁ Bd hml0 hP hK
  obtain ⟨rfl, hZ, hh⟩ := hP
  have hx := Bd.exec
  have hby := Bd.bytes
  have hml : c.maxLocals = 5 := hml0
  have hown : s.vm.findClass "com/example/binfold/binfold/PackagePart" = some m.cls := findClass_of_methodNamed Bd.named
  have hnm := (name_of_methodNamed Bd.named Bd.method).1
  have X0 : Stand p l e ({ frames := 1, cells := 0, slots := 0, locals := 12 } : Room) s m #[(.ref a), .null, (.ref hx_), (.long (-1 : Int64))] below meth c s₁ [] 0 0 := Stand.of_body Bd
  have e0 : s₁.heap = h0 := by rw [← hh, Bd.state]; rfl
  have N0 := Fr.nil n0
  have K0 := Keep.refl h0 [a]
  show Go p e below (own_F s below (Q_own_ppInitNR Z a hx_ h0 n0) ({ frames := 1, cells := 0, slots := 0, locals := 12 } : Room).cells ({ frames := 1, cells := 0, slots := 0, locals := 12 } : Room).slots) (s₁.setTop (entryFrame m #[(.ref a), .null, (.ref hx_), (.long (-1 : Int64))] 5))
  rw [own_ef_own_ppInitNR m a hx_]
  refine Go.back (t' := (s₁.setTop (mkF m 1 #[.val (.ref a), .val .null, .val (.ref hx_), .val (.long (-1 : Int64)), .second] [(.ref a)]))) (fun u k => XS.aloadN X0.here hx rfl (hb hby own_d4_0) rfl rfl k) ?_
  obtain ⟨T1, X1, e1, st1⟩ := initO X0 hx hZ hown (hw _ (List.mem_of_getElem? (i := 27) rfl)) (hw _ (List.mem_of_getElem? (i := 7) rfl)) (hw _ (List.mem_of_getElem? (i := 8) rfl)) e0 (g := (mkF m 1 #[.val (.ref a), .val .null, .val (.ref hx_), .val (.long (-1 : Int64)), .second] [(.ref a)])) rfl (by rw [hml]; rfl) rfl (hb hby own_d4_1) (by decide) (W := 0) (by show 2 * 0 + _ ≤ _; exact Nat.le_of_eq rfl) (by decide)
  refine Go.back (t' := (T1.setTop (mkF m 4 #[.val (.ref a), .val .null, .val (.ref hx_), .val (.long (-1 : Int64)), .second] []))) st1 ?_
  refine Go.back (t' := (T1.setTop (mkF m 6 #[.val (.ref a), .val .null, .val (.ref hx_), .val (.long (-1 : Int64)), .second] [.null, (.ref a)]))) (fun u k => XS.aloadN X1.here hx rfl (hb hby own_d4_4) rfl rfl (XS.aloadN X1.here hx rfl (hb hby own_d4_5) rfl rfl k)) ?_
  obtain ⟨T2, h2, X2, e2, W2, st2⟩ := putF X1 hx hZ hown (host := "") (Or.inl (hw _ (List.mem_of_getElem? (i := 28) rfl))) Via.refl e1 F_a_contentId E_a (Or.inr ⟨(hw _ (List.mem_of_getElem? (i := 29) rfl)), rfl, hnm⟩) (hw _ (List.mem_of_getElem? (i := 22) rfl)) (ty := (.object "java/lang/String")) (by decide) rfl rfl (g := (mkF m 6 #[.val (.ref a), .val .null, .val (.ref hx_), .val (.long (-1 : Int64)), .second] [.null, (.ref a)])) rfl rfl (hb hby own_d4_6)
  have Z2 : n0 ≤ h2.size := Nat.le_trans Z0 (Keep.of_wr W2).1
  have K2 := K0.wr W2 (Or.inl (List.mem_of_getElem? (i := 0) rfl))
  have N2 := Fr.snoc X2 N0 g_a
  have F2 := F_a_contentId.same W2
  refine Go.back (t' := (T2.setTop (mkF m 9 #[.val (.ref a), .val .null, .val (.ref hx_), .val (.long (-1 : Int64)), .second] []))) st2 ?_
  refine Go.back (t' := (T2.setTop (mkF m 11 #[.val (.ref a), .val .null, .val (.ref hx_), .val (.long (-1 : Int64)), .second] [(.ref hx_), (.ref a)]))) (fun u k => XS.aloadN X2.here hx rfl (hb hby own_d4_9) rfl rfl (XS.aloadN X2.here hx rfl (hb hby own_d4_10) rfl rfl k)) ?_
  have f4 := (F_a_headers.other W2 (Or.inr (slot_ne (Or.inr (hw _ (List.mem_of_getElem? (i := 31) rfl))) (Or.inr (hw _ (List.mem_of_getElem? (i := 29) rfl))) (by decide) (t := (.object "com/example/binfold/binfold/mime/Headers")) (t' := (.object "java/lang/String")) (by decide) (by decide))))
  have f5 := (E_a.wr W2)
  obtain ⟨T3, h3, X3, e3, W3, st3⟩ := putF X2 hx hZ hown (host := "") (Or.inl (hw _ (List.mem_of_getElem? (i := 30) rfl))) Via.refl e2 f4 f5 (Or.inr ⟨(hw _ (List.mem_of_getElem? (i := 31) rfl)), rfl, hnm⟩) (hw _ (List.mem_of_getElem? (i := 22) rfl)) (ty := (.object "com/example/binfold/binfold/mime/Headers")) (by decide) rfl rfl (g := (mkF m 11 #[.val (.ref a), .val .null, .val (.ref hx_), .val (.long (-1 : Int64)), .second] [(.ref hx_), (.ref a)])) rfl rfl (hb hby own_d4_11)
  have Z3 : n0 ≤ h3.size := Nat.le_trans Z2 (Keep.of_wr W3).1
  have K3 := K2.wr W3 (Or.inl (List.mem_of_getElem? (i := 0) rfl))
  have N3 := Fr.snoc X3 N2 g_a
  have F3 := f4.same W3
  refine Go.back (t' := (T3.setTop (mkF m 14 #[.val (.ref a), .val .null, .val (.ref hx_), .val (.long (-1 : Int64)), .second] []))) st3 ?_
  refine Go.back (t' := (T3.setTop (mkF m 16 #[.val (.ref a), .val .null, .val (.ref hx_), .val (.long (-1 : Int64)), .second] [(.long (-1 : Int64)), (.ref a)]))) (fun u k => XS.aloadN X3.here hx rfl (hb hby own_d4_14) rfl rfl (XT.lloadN X3.here hx rfl (hb hby own_d4_15) rfl k)) ?_
  have f7 := ((F_a_decodedLength.other W2 (Or.inr (slot_ne (Or.inr (hw _ (List.mem_of_getElem? (i := 33) rfl))) (Or.inr (hw _ (List.mem_of_getElem? (i := 29) rfl))) (by decide) (t := .long) (t' := (.object "java/lang/String")) (by decide) (by decide)))).other W3 (Or.inr (slot_ne (Or.inr (hw _ (List.mem_of_getElem? (i := 33) rfl))) (Or.inr (hw _ (List.mem_of_getElem? (i := 31) rfl))) (by decide) (t := .long) (t' := (.object "com/example/binfold/binfold/mime/Headers")) (by decide) (by decide))))
  have f8 := (f5.wr W3)
  obtain ⟨T6, h6, X6, e6, W6, st6⟩ := putF X3 hx hZ hown (host := "") (Or.inl (hw _ (List.mem_of_getElem? (i := 32) rfl))) Via.refl e3 f7 f8 (Or.inr ⟨(hw _ (List.mem_of_getElem? (i := 33) rfl)), rfl, hnm⟩) (hw _ (List.mem_of_getElem? (i := 22) rfl)) (ty := .long) (by decide) rfl rfl (g := (mkF m 16 #[.val (.ref a), .val .null, .val (.ref hx_), .val (.long (-1 : Int64)), .second] [(.long (-1 : Int64)), (.ref a)])) rfl rfl (hb hby own_d4_16)
  have Z6 : n0 ≤ h6.size := Nat.le_trans Z3 (Keep.of_wr W6).1
  have K6 := K3.wr W6 (Or.inl (List.mem_of_getElem? (i := 0) rfl))
  have N6 := Fr.snoc X6 N3 g_a
  have F6 := f7.same W6
  refine Go.back (t' := (T6.setTop (mkF m 19 #[.val (.ref a), .val .null, .val (.ref hx_), .val (.long (-1 : Int64)), .second] []))) st6 ?_
  have f9 := (f8.wr W6)
  have f10 := ((F2.other W3 (Or.inr (slot_ne (Or.inr (hw _ (List.mem_of_getElem? (i := 29) rfl))) (Or.inr (hw _ (List.mem_of_getElem? (i := 31) rfl))) (by decide) (t := (.object "java/lang/String")) (t' := (.object "com/example/binfold/binfold/mime/Headers")) (by decide) (by decide)))).other W6 (Or.inr (slot_ne (Or.inr (hw _ (List.mem_of_getElem? (i := 29) rfl))) (Or.inr (hw _ (List.mem_of_getElem? (i := 33) rfl))) (by decide) (t := (.object "java/lang/String")) (t' := .long) (by decide) (by decide))))
  have f11 := (F3.other W6 (Or.inr (slot_ne (Or.inr (hw _ (List.mem_of_getElem? (i := 31) rfl))) (Or.inr (hw _ (List.mem_of_getElem? (i := 33) rfl))) (by decide) (t := (.object "com/example/binfold/binfold/mime/Headers")) (t' := .long) (by decide) (by decide))))
  obtain ⟨fs, hr, hrun, hended, hW, hsame⟩ := X6.leave (v := none) (fun _ => rfl)
  refine ⟨_, _, X6.returnOut hx Bd.returns (hb hby own_d4_19) hr, hrun, hended, _, _, rfl, ?_, ⟨_, rfl⟩, hW, hsame.mono (by decide) (by decide)⟩
  show Q_own_ppInitNR Z a hx_ h0 n0 _ T6.heap _
  rw [e6]
  exact ⟨rfl, N6, K6, f9, F6, f10, f11⟩
theorem own_ef_own_desNR (m : MethodId) (x0 : Addr) : entryFrame m #[(.ref x0)] 1 = mkF m 0 #[.val (.ref x0)] [] := by first | (simp [entryFrame, mkF, argsToLocals, Value.category]; done) | rfl
def Q_own_desNR (Z : State) (a : Addr) (hx_ : Addr) (h0 : Heap) (n0 : Nat) (v : Option Value) (h : Heap) (L : List Loc) : Prop := ∃ q : Addr, v = some (.ref q) ∧ Fr n0 L ∧ Keep h0 h [] ∧ n0 ≤ q ∧ h0.size ≤ q ∧ Exa Z h q "com/example/binfold/binfold/PackagePart" ∧ Fld Z h q "com/example/binfold/binfold/PackagePart" "decodedLength" "J" (.long (-1 : Int64)) ∧ Fld Z h q "com/example/binfold/binfold/PackagePart" "contentId" "Ljava/lang/String;" .null ∧ Fld Z h q "com/example/binfold/binfold/PackagePart" "headers" "Lcom/example/binfold/binfold/mime/Headers;" (.ref hx_)
set_option maxRecDepth 65536 in
set_option maxHeartbeats 40000000 in
theorem own_desNR (l : Launch) (Z : State) (a0 : Array Value) (hw : ∀ d ∈ tables_1, d.before a0 Z = true) (ws : List Jvm.Cond) (a : Addr) (hx_ : Addr) (h0 : Heap) (n0 : Nat) (Z0 : n0 ≤ h0.size) (E_a : Exa Z h0 a "com/example/binfold/binfold/PackageParts$Part") (F_a_length : Fld Z h0 a "com/example/binfold/binfold/PackageParts$Part" "length" "J" (.long (-1 : Int64))) (F_a_contentId : Fld Z h0 a "com/example/binfold/binfold/PackageParts$Part" "contentId" "Ljava/lang/String;" .null) (F_a_headers : Fld Z h0 a "com/example/binfold/binfold/PackageParts$Part" "headers" "Lcom/example/binfold/binfold/mime/Headers;" (.ref hx_)) :
    MetFree l (⟨"com/example/binfold/binfold/PackageParts$Part", "description", "()Lcom/example/binfold/binfold/PackagePart;"⟩ : MethodName) (head1 (Jvm.Cond.code (⟨"com/example/binfold/binfold/PackageParts$Part", "description", "()Lcom/example/binfold/binfold/PackagePart;"⟩ : MethodName) prog_24_method_5_code 1 (some (.object "com/example/binfold/binfold/PackagePart")) :: ws) ({ frames := 2, cells := 1, slots := 3, locals := 29 } : Room)) (fun as_ U => as_ = #[(.ref a)] ∧ Z.Warmed39 U.vm ∧ U.heap = h0) (fun _ _ _ _ _ => True) (fun _ U o U' => ∃ v L, o = .returned v ∧ Q_own_desNR Z a hx_ h0 n0 v U'.heap L ∧ FrameEnd U o U' L ({ frames := 2, cells := 1, slots := 3, locals := 29 } : Room).cells ({ frames := 2, cells := 1, slots := 3, locals := 29 } : Room).slots) := by
  refine MetFree.of_bodySF (plainFor_of_name own_pn13) hisR ?_
  intro p e s m args below meth c s₁ Bd hml0 hP hK
  obtain ⟨rfl, hZ, hh⟩ := hP
  have hx := Bd.exec
  have hby := Bd.bytes
  have hml : c.maxLocals = 1 := hml0
  have hown : s.vm.findClass "com/example/binfold/binfold/PackageParts$Part" = some m.cls := findClass_of_methodNamed Bd.named
  have hnm := (name_of_methodNamed Bd.named Bd.method).1
  have X0 : Stand p l e ({ frames := 2, cells := 1, slots := 3, locals := 29 } : Room) s m #[(.ref a)] below meth c s₁ [] 0 0 := Stand.of_body Bd
  have e0 : s₁.heap = h0 := by rw [← hh, Bd.state]; rfl
  have N0 := Fr.nil n0
  have K0 := Keep.refl h0 []
  show Go p e below (own_F s below (Q_own_desNR Z a hx_ h0 n0) ({ frames := 2, cells := 1, slots := 3, locals := 29 } : Room).cells ({ frames := 2, cells := 1, slots := 3, locals := 29 } : Room).slots) (s₁.setTop (entryFrame m #[(.ref a)] 1))
  rw [own_ef_own_desNR m a]
  obtain ⟨T1, h1, X1, e1, E1, A1, D1, -, st1⟩ := newO X0 hx hZ hown (hw _ (List.mem_of_getElem? (i := 21) rfl)) (hw _ (List.mem_of_getElem? (i := 22) rfl)) (hw _ (List.mem_of_getElem? (i := 23) rfl)) e0 (g := (mkF m 0 #[.val (.ref a)] [])) rfl (hb hby own_d3_0) (by decide) (by decide)
  obtain ⟨b1, g1⟩ : ∃ z, z = h0.size := ⟨_, rfl⟩
  rw [← g1] at A1 D1 st1
  have ne_a_b1 : a ≠ b1 := Nat.ne_of_lt (Nat.lt_of_lt_of_le E_a.lt (Nat.le_of_eq g1.symm))
  have gb1 : n0 ≤ b1 := Nat.le_trans Z0 (Nat.le_of_eq g1.symm)
  have sz1 : h0.size ≤ b1 := Nat.le_trans K0.1 (Nat.le_of_eq g1.symm)
  have Z1 : n0 ≤ h1.size := Nat.le_trans Z0 E1.1
  have K1 := K0.ext E1
  refine Go.back (t' := (T1.setTop (mkF m 3 #[.val (.ref a)] [(.ref b1)]))) st1 ?_
  refine Go.back (t' := (T1.setTop (mkF m 5 #[.val (.ref a)] [(.ref a), (.ref b1), (.ref b1)]))) (fun u k => XS.dup X1.here hx rfl (hb hby own_d3_3) rfl rfl (XS.aloadN X1.here hx rfl (hb hby own_d3_4) rfl rfl k)) ?_
  have f2 := (F_a_contentId.ext E1)
  obtain ⟨T3, X3, e3, st3⟩ := getF X1 hx hZ hown (host := "") (Or.inl (hw _ (List.mem_of_getElem? (i := 12) rfl))) Via.refl e1 f2 (g := (mkF m 5 #[.val (.ref a)] [(.ref a), (.ref b1), (.ref b1)])) rfl rfl (hb hby own_d3_5)
  refine Go.back (t' := (T3.setTop (mkF m 8 #[.val (.ref a)] [.null, (.ref b1), (.ref b1)]))) st3 ?_
  refine Go.back (t' := (T3.setTop (mkF m 9 #[.val (.ref a)] [(.ref a), .null, (.ref b1), (.ref b1)]))) (fun u k => XS.aloadN X3.here hx rfl (hb hby own_d3_8) rfl rfl k) ?_
  have f4 := (F_a_headers.ext E1)
  obtain ⟨T5, X5, e5, st5⟩ := getF X3 hx hZ hown (host := "") (Or.inl (hw _ (List.mem_of_getElem? (i := 14) rfl))) Via.refl e3 f4 (g := (mkF m 9 #[.val (.ref a)] [(.ref a), .null, (.ref b1), (.ref b1)])) rfl rfl (hb hby own_d3_9)
  refine Go.back (t' := (T5.setTop (mkF m 12 #[.val (.ref a)] [(.ref hx_), .null, (.ref b1), (.ref b1)]))) st5 ?_
  refine Go.back (t' := (T5.setTop (mkF m 13 #[.val (.ref a)] [(.ref a), (.ref hx_), .null, (.ref b1), (.ref b1)]))) (fun u k => XS.aloadN X5.here hx rfl (hb hby own_d3_12) rfl rfl k) ?_
  have f6 := (F_a_length.ext E1)
  obtain ⟨T7, X7, e7, st7⟩ := getF X5 hx hZ hown (host := "") (Or.inl (hw _ (List.mem_of_getElem? (i := 10) rfl))) Via.refl e5 f6 (g := (mkF m 13 #[.val (.ref a)] [(.ref a), (.ref hx_), .null, (.ref b1), (.ref b1)])) rfl rfl (hb hby own_d3_13)
  refine Go.back (t' := (T7.setTop (mkF m 16 #[.val (.ref a)] [(.long (-1 : Int64)), (.ref hx_), .null, (.ref b1), (.ref b1)]))) st7 ?_
  obtain ⟨_, _, ⟨T8, L8, k8, n8⟩, -, X8, ⟨Lc8, hQ8, l8, y8, z8⟩, st8⟩ := X7.specialBack hx (y := (⟨"com/example/binfold/binfold/PackagePart", "<init>", "(Ljava/lang/String;Lcom/example/binfold/binfold/mime/Headers;J)V"⟩ : MethodName)) rfl hown (mvT hZ (hw _ (List.mem_of_getElem? (i := 24) rfl))) (mvT hZ (hw _ (List.mem_of_getElem? (i := 25) rfl))) (mvT hZ (hw _ (List.mem_of_getElem? (i := 26) rfl))) (by decide) (backOf (W := 1) (own_ppInitNR l Z a0 hw [] b1 hx_ h1 n0 Z1 A1 (D1 (Or.inr (hw _ (List.mem_of_getElem? (i := 33) rfl))) (ty := .long) (by decide)) (D1 (Or.inr (hw _ (List.mem_of_getElem? (i := 29) rfl))) (ty := (.object "java/lang/String")) (by decide)) (D1 (Or.inr (hw _ (List.mem_of_getElem? (i := 31) rfl))) (ty := (.object "com/example/binfold/binfold/mime/Headers")) (by decide)) gb1) hZ (hw _ (List.mem_of_getElem? (i := 26) rfl)) (hw _ (List.mem_of_getElem? (i := 23) rfl)) (by decide) (by decide)) (g := (mkF m 16 #[.val (.ref a)] [(.long (-1 : Int64)), (.ref hx_), .null, (.ref b1), (.ref b1)])) rfl (by rw [hml]; rfl) (Steps.refl _) (a := b1) (argsL := [.null, (.ref hx_), (.long (-1 : Int64))]) (rest := [(.ref b1)]) (lenOf own_pd11 rfl) rfl (by show 2 * 0 + _ ≤ _; exact Nat.le_of_eq rfl) (hb hby own_d3_16) (fun _ _ => ⟨rfl, e7, (by decide : 1 + 0 ≤ _), (by decide : 3 + 0 ≤ _)⟩)
  dsimp only [Pt.U, Pt.locs, Pt.cells, Pt.slots] at X8 l8 y8 z8 st8 hQ8
  subst l8 y8 z8
  obtain ⟨rfl, N8, Kc8, P8_0, P8_1, P8_2, P8_3⟩ := hQ8
  have NA8 := Fr.app N0 N8
  have Z8 : n0 ≤ T8.heap.size := Nat.le_trans Z1 Kc8.1
  have K8 := K1.trans Kc8 (allS (Or.inr sz1) all0)
  refine Go.back (t' := (T8.setTop (mkF m 19 #[.val (.ref a)] [(.ref b1)]))) (fun u k => st8.trans k) ?_
  obtain ⟨fs, hr, hrun, hended, hW, hsame⟩ := X8.leave (v := some (.ref b1)) (fun h => by rw [Bd.returns] at h; cases h)
  refine ⟨_, _, retOut X8 hx (t := (.object "com/example/binfold/binfold/PackagePart")) (i := .areturn) Bd.returns rfl (Or.inr (Or.inr (Or.inr (Or.inr ⟨rfl, rfl, rfl⟩)))) (hb hby own_d3_19) hr, hrun, hended, _, _, rfl, ?_, ⟨_, rfl⟩, hW, hsame.mono (by decide) (by decide)⟩
  show Q_own_desNR Z a hx_ h0 n0 _ T8.heap _
  exact ⟨b1, rfl, NA8, K8, gb1, sz1, P8_0, P8_1, P8_2, P8_3⟩
theorem own_ef_own_ptInitNN (m : MethodId) (x0 : Addr) : entryFrame m #[(.ref x0), .null, .null] 3 = mkF m 0 #[.val (.ref x0), .val .null, .val .null] [] := by first | (simp [entryFrame, mkF, argsToLocals, Value.category]; done) | rfl
def Q_own_ptInitNN (Z : State) (a : Addr) (h0 : Heap) (n0 : Nat) (v : Option Value) (h : Heap) (L : List Loc) : Prop := v = none ∧ Fr n0 L ∧ Keep h0 h [a] ∧ Exa Z h a "com/example/binfold/binfold/PackageParts$Part" ∧ Fld Z h a "com/example/binfold/binfold/PackageParts$Part" "length" "J" (.long (-1 : Int64)) ∧ Fld Z h a "com/example/binfold/binfold/PackageParts$Part" "contentId" "Ljava/lang/String;" .null ∧ Fld Z h a "com/example/binfold/binfold/PackageParts$Part" "headers" "Lcom/example/binfold/binfold/mime/Headers;" .null
set_option maxRecDepth 65536 in
set_option maxHeartbeats 40000000 in
theorem own_ptInitNN (l : Launch) (Z : State) (a0 : Array Value) (hw : ∀ d ∈ tables_1, d.before a0 Z = true) (ws : List Jvm.Cond) (a : Addr) (h0 : Heap) (n0 : Nat) (Z0 : n0 ≤ h0.size) (E_a : Exa Z h0 a "com/example/binfold/binfold/PackageParts$Part") (F_a_length : Fld Z h0 a "com/example/binfold/binfold/PackageParts$Part" "length" "J" (.long (0 : Int64))) (F_a_contentId : Fld Z h0 a "com/example/binfold/binfold/PackageParts$Part" "contentId" "Ljava/lang/String;" .null) (F_a_headers : Fld Z h0 a "com/example/binfold/binfold/PackageParts$Part" "headers" "Lcom/example/binfold/binfold/mime/Headers;" .null) (g_a : n0 ≤ a) :
    MetFree l (⟨"com/example/binfold/binfold/PackageParts$Part", "<init>", "(Ljava/lang/String;Lcom/example/binfold/binfold/mime/Headers;)V"⟩ : MethodName) (head1 (Jvm.Cond.code (⟨"com/example/binfold/binfold/PackageParts$Part", "<init>", "(Ljava/lang/String;Lcom/example/binfold/binfold/mime/Headers;)V"⟩ : MethodName) prog_24_method_1_code 3 none :: ws) ({ frames := 1, cells := 0, slots := 0, locals := 12 } : Room)) (fun as_ U => as_ = #[(.ref a), .null, .null] ∧ Z.Warmed39 U.vm ∧ U.heap = h0) (fun _ _ _ _ _ => True) (fun _ U o U' => ∃ v L, o = .returned v ∧ Q_own_ptInitNN Z a h0 n0 v U'.heap L ∧ FrameEnd U o U' L ({ frames := 1, cells := 0, slots := 0, locals := 12 } : Room).cells ({ frames := 1, cells := 0, slots := 0, locals := 12 } : Room).slots) := by
  refine MetFree.of_bodySF (plainFor_of_name own_pn13) hisR ?_
  intro p e s m args below meth c s₁ Bd hml0 hP hK
  obtain ⟨rfl, hZ, hh⟩ := hP
  have hx := Bd.exec
  have hby := Bd.bytes
  have hml : c.maxLocals = 3 := hml0
  have hown : s.vm.findClass "com/example/binfold/binfold/PackageParts$Part" = some m.cls := findClass_of_methodNamed Bd.named
  have hnm := (name_of_methodNamed Bd.named Bd.method).1
  have X0 : Stand p l e ({ frames := 1, cells := 0, slots := 0, locals := 12 } : Room) s m #[(.ref a), .null, .null] below meth c s₁ [] 0 0 := Stand.of_body Bd
  have e0 : s₁.heap = h0 := by rw [← hh, Bd.state]; rfl
  have N0 := Fr.nil n0
  have K0 := Keep.refl h0 [a]
  show Go p e below (own_F s below (Q_own_ptInitNN Z a h0 n0) ({ frames := 1, cells := 0, slots := 0, locals := 12 } : Room).cells ({ frames := 1, cells := 0, slots := 0, locals := 12 } : Room).slots) (s₁.setTop (entryFrame m #[(.ref a), .null, .null] 3))
  rw [own_ef_own_ptInitNN m a]
  refine Go.back (t' := (s₁.setTop (mkF m 1 #[.val (.ref a), .val .null, .val .null] [(.ref a)]))) (fun u k => XS.aloadN X0.here hx rfl (hb hby own_d1_0) rfl rfl k) ?_
  obtain ⟨T1, X1, e1, st1⟩ := initO X0 hx hZ hown (hw _ (List.mem_of_getElem? (i := 6) rfl)) (hw _ (List.mem_of_getElem? (i := 7) rfl)) (hw _ (List.mem_of_getElem? (i := 8) rfl)) e0 (g := (mkF m 1 #[.val (.ref a), .val .null, .val .null] [(.ref a)])) rfl (by rw [hml]; rfl) rfl (hb hby own_d1_1) (by decide) (W := 0) (by show 2 * 0 + _ ≤ _; exact Nat.le_of_eq rfl) (by decide)
  refine Go.back (t' := (T1.setTop (mkF m 4 #[.val (.ref a), .val .null, .val .null] []))) st1 ?_
  refine Go.back (t' := (T1.setTop (mkF m 8 #[.val (.ref a), .val .null, .val .null] [(.long (-1 : Int64)), (.ref a)]))) (fun u k => XS.aloadN X1.here hx rfl (hb hby own_d1_4) rfl rfl (X1.ldc2J hx hown (mvT hZ (hw _ (List.mem_of_getElem? (i := 9) rfl))) rfl (hb hby own_d1_5) k)) ?_
  obtain ⟨T2, h2, X2, e2, W2, st2⟩ := putF X1 hx hZ hown (host := "") (Or.inl (hw _ (List.mem_of_getElem? (i := 10) rfl))) Via.refl e1 F_a_length E_a (Or.inl (hw _ (List.mem_of_getElem? (i := 11) rfl))) (hw _ (List.mem_of_getElem? (i := 1) rfl)) (ty := .long) (by decide) rfl rfl (g := (mkF m 8 #[.val (.ref a), .val .null, .val .null] [(.long (-1 : Int64)), (.ref a)])) rfl rfl (hb hby own_d1_8)
  have Z2 : n0 ≤ h2.size := Nat.le_trans Z0 (Keep.of_wr W2).1
  have K2 := K0.wr W2 (Or.inl (List.mem_of_getElem? (i := 0) rfl))
  have N2 := Fr.snoc X2 N0 g_a
  have F2 := F_a_length.same W2
  refine Go.back (t' := (T2.setTop (mkF m 11 #[.val (.ref a), .val .null, .val .null] []))) st2 ?_
  refine Go.back (t' := (T2.setTop (mkF m 13 #[.val (.ref a), .val .null, .val .null] [.null, (.ref a)]))) (fun u k => XS.aloadN X2.here hx rfl (hb hby own_d1_11) rfl rfl (XS.aloadN X2.here hx rfl (hb hby own_d1_12) rfl rfl k)) ?_
  have f4 := (F_a_contentId.other W2 (Or.inr (slot_ne (Or.inr (hw _ (List.mem_of_getElem? (i := 13) rfl))) (Or.inl (hw _ (List.mem_of_getElem? (i := 11) rfl))) (by decide) (t := (.object "java/lang/String")) (t' := .long) (by decide) (by decide))))
  have f5 := (E_a.wr W2)
  obtain ⟨T3, h3, X3, e3, W3, st3⟩ := putF X2 hx hZ hown (host := "") (Or.inl (hw _ (List.mem_of_getElem? (i := 12) rfl))) Via.refl e2 f4 f5 (Or.inr ⟨(hw _ (List.mem_of_getElem? (i := 13) rfl)), rfl, hnm⟩) (hw _ (List.mem_of_getElem? (i := 1) rfl)) (ty := (.object "java/lang/String")) (by decide) rfl rfl (g := (mkF m 13 #[.val (.ref a), .val .null, .val .null] [.null, (.ref a)])) rfl rfl (hb hby own_d1_13)
  have Z3 : n0 ≤ h3.size := Nat.le_trans Z2 (Keep.of_wr W3).1
  have K3 := K2.wr W3 (Or.inl (List.mem_of_getElem? (i := 0) rfl))
  have N3 := Fr.snoc X3 N2 g_a
  have F3 := f4.same W3
  refine Go.back (t' := (T3.setTop (mkF m 16 #[.val (.ref a), .val .null, .val .null] []))) st3 ?_
  refine Go.back (t' := (T3.setTop (mkF m 18 #[.val (.ref a), .val .null, .val .null] [.null, (.ref a)]))) (fun u k => XS.aloadN X3.here hx rfl (hb hby own_d1_16) rfl rfl (XS.aloadN X3.here hx rfl (hb hby own_d1_17) rfl rfl k)) ?_
  have f7 := ((F_a_headers.other W2 (Or.inr (slot_ne (Or.inr (hw _ (List.mem_of_getElem? (i := 15) rfl))) (Or.inl (hw _ (List.mem_of_getElem? (i := 11) rfl))) (by decide) (t := (.object "com/example/binfold/binfold/mime/Headers")) (t' := .long) (by decide) (by decide)))).other W3 (Or.inr (slot_ne (Or.inr (hw _ (List.mem_of_getElem? (i := 15) rfl))) (Or.inr (hw _ (List.mem_of_getElem? (i := 13) rfl))) (by decide) (t := (.object "com/example/binfold/binfold/mime/Headers")) (t' := (.object "java/lang/String")) (by decide) (by decide))))
  have f8 := (f5.wr W3)
  obtain ⟨T6, h6, X6, e6, W6, st6⟩ := putF X3 hx hZ hown (host := "") (Or.inl (hw _ (List.mem_of_getElem? (i := 14) rfl))) Via.refl e3 f7 f8 (Or.inr ⟨(hw _ (List.mem_of_getElem? (i := 15) rfl)), rfl, hnm⟩) (hw _ (List.mem_of_getElem? (i := 1) rfl)) (ty := (.object "com/example/binfold/binfold/mime/Headers")) (by decide) rfl rfl (g := (mkF m 18 #[.val (.ref a), .val .null, .val .null] [.null, (.ref a)])) rfl rfl (hb hby own_d1_18)
  have Z6 : n0 ≤ h6.size := Nat.le_trans Z3 (Keep.of_wr W6).1
  have K6 := K3.wr W6 (Or.inl (List.mem_of_getElem? (i := 0) rfl))
  have N6 := Fr.snoc X6 N3 g_a
  have F6 := f7.same W6
  refine Go.back (t' := (T6.setTop (mkF m 21 #[.val (.ref a), .val .null, .val .null] []))) st6 ?_
  have f9 := (f8.wr W6)
  have f10 := ((F2.other W3 (Or.inr (slot_ne (Or.inl (hw _ (List.mem_of_getElem? (i := 11) rfl))) (Or.inr (hw _ (List.mem_of_getElem? (i := 13) rfl))) (by decide) (t := .long) (t' := (.object "java/lang/String")) (by decide) (by decide)))).other W6 (Or.inr (slot_ne (Or.inl (hw _ (List.mem_of_getElem? (i := 11) rfl))) (Or.inr (hw _ (List.mem_of_getElem? (i := 15) rfl))) (by decide) (t := .long) (t' := (.object "com/example/binfold/binfold/mime/Headers")) (by decide) (by decide))))
  have f11 := (F3.other W6 (Or.inr (slot_ne (Or.inr (hw _ (List.mem_of_getElem? (i := 13) rfl))) (Or.inr (hw _ (List.mem_of_getElem? (i := 15) rfl))) (by decide) (t := (.object "java/lang/String")) (t' := (.object "com/example/binfold/binfold/mime/Headers")) (by decide) (by decide))))
  obtain ⟨fs, hr, hrun, hended, hW, hsame⟩ := X6.leave (v := none) (fun _ => rfl)
  refine ⟨_, _, X6.returnOut hx Bd.returns (hb hby own_d1_21) hr, hrun, hended, _, _, rfl, ?_, ⟨_, rfl⟩, hW, hsame.mono (by decide) (by decide)⟩
  show Q_own_ptInitNN Z a h0 n0 _ T6.heap _
  rw [e6]
  exact ⟨rfl, N6, K6, f9, f10, f11, F6⟩
theorem own_ef_own_ppInitNN (m : MethodId) (x0 : Addr) : entryFrame m #[(.ref x0), .null, .null, (.long (-1 : Int64))] 5 = mkF m 0 #[.val (.ref x0), .val .null, .val .null, .val (.long (-1 : Int64)), .second] [] := by first | (simp [entryFrame, mkF, argsToLocals, Value.category]; done) | rfl
def Q_own_ppInitNN (Z : State) (a : Addr) (h0 : Heap) (n0 : Nat) (v : Option Value) (h : Heap) (L : List Loc) : Prop := v = none ∧ Fr n0 L ∧ Keep h0 h [a] ∧ Exa Z h a "com/example/binfold/binfold/PackagePart" ∧ Fld Z h a "com/example/binfold/binfold/PackagePart" "decodedLength" "J" (.long (-1 : Int64)) ∧ Fld Z h a "com/example/binfold/binfold/PackagePart" "contentId" "Ljava/lang/String;" .null ∧ Fld Z h a "com/example/binfold/binfold/PackagePart" "headers" "Lcom/example/binfold/binfold/mime/Headers;" .null
set_option maxRecDepth 65536 in
set_option maxHeartbeats 40000000 in
theorem own_ppInitNN (l : Launch) (Z : State) (a0 : Array Value) (hw : ∀ d ∈ tables_1, d.before a0 Z = true) (ws : List Jvm.Cond) (a : Addr) (h0 : Heap) (n0 : Nat) (Z0 : n0 ≤ h0.size) (E_a : Exa Z h0 a "com/example/binfold/binfold/PackagePart") (F_a_decodedLength : Fld Z h0 a "com/example/binfold/binfold/PackagePart" "decodedLength" "J" (.long (0 : Int64))) (F_a_contentId : Fld Z h0 a "com/example/binfold/binfold/PackagePart" "contentId" "Ljava/lang/String;" .null) (F_a_headers : Fld Z h0 a "com/example/binfold/binfold/PackagePart" "headers" "Lcom/example/binfold/binfold/mime/Headers;" .null) (g_a : n0 ≤ a) :
    MetFree l (⟨"com/example/binfold/binfold/PackagePart", "<init>", "(Ljava/lang/String;Lcom/example/binfold/binfold/mime/Headers;J)V"⟩ : MethodName) (head1 (Jvm.Cond.code (⟨"com/example/binfold/binfold/PackagePart", "<init>", "(Ljava/lang/String;Lcom/example/binfold/binfold/mime/Headers;J)V"⟩ : MethodName) prog_22_method_1_code 5 none :: ws) ({ frames := 1, cells := 0, slots := 0, locals := 12 } : Room)) (fun as_ U => as_ = #[(.ref a), .null, .null, (.long (-1 : Int64))] ∧ Z.Warmed39 U.vm ∧ U.heap = h0) (fun _ _ _ _ _ => True) (fun _ U o U' => ∃ v L, o = .returned v ∧ Q_own_ppInitNN Z a h0 n0 v U'.heap L ∧ FrameEnd U o U' L ({ frames := 1, cells := 0, slots := 0, locals := 12 } : Room).cells ({ frames := 1, cells := 0, slots := 0, locals := 12 } : Room).slots) := by
  refine MetFree.of_bodySF (plainFor_of_name own_pn14) hisR ?_
  intro p e s m args below meth c s₁ Bd hml0 hP hK
  obtain ⟨rfl, hZ, hh⟩ := hP
  have hx := Bd.exec
  have hby := Bd.bytes
  have hml : c.maxLocals = 5 := hml0
  have hown : s.vm.findClass "com/example/binfold/binfold/PackagePart" = some m.cls := findClass_of_methodNamed Bd.named
  have hnm := (name_of_methodNamed Bd.named Bd.method).1
  have X0 : Stand p l e ({ frames := 1, cells := 0, slots := 0, locals := 12 } : Room) s m #[(.ref a), .null, .null, (.long (-1 : Int64))] below meth c s₁ [] 0 0 := Stand.of_body Bd
  have e0 : s₁.heap = h0 := by rw [← hh, Bd.state]; rfl
  have N0 := Fr.nil n0
  have K0 := Keep.refl h0 [a]
  show Go p e below (own_F s below (Q_own_ppInitNN Z a h0 n0) ({ frames := 1, cells := 0, slots := 0, locals := 12 } : Room).cells ({ frames := 1, cells := 0, slots := 0, locals := 12 } : Room).slots) (s₁.setTop (entryFrame m #[(.ref a), .null, .null, (.long (-1 : Int64))] 5))
  rw [own_ef_own_ppInitNN m a]
  refine Go.back (t' := (s₁.setTop (mkF m 1 #[.val (.ref a), .val .null, .val .null, .val (.long (-1 : Int64)), .second] [(.ref a)]))) (fun u k => XS.aloadN X0.here hx rfl (hb hby own_d4_0) rfl rfl k) ?_
  obtain ⟨T1, X1, e1, st1⟩ := initO X0 hx hZ hown (hw _ (List.mem_of_getElem? (i := 27) rfl)) (hw _ (List.mem_of_getElem? (i := 7) rfl)) (hw _ (List.mem_of_getElem? (i := 8) rfl)) e0 (g := (mkF m 1 #[.val (.ref a), .val .null, .val .null, .val (.long (-1 : Int64)), .second] [(.ref a)])) rfl (by rw [hml]; rfl) rfl (hb hby own_d4_1) (by decide) (W := 0) (by show 2 * 0 + _ ≤ _; exact Nat.le_of_eq rfl) (by decide)
  refine Go.back (t' := (T1.setTop (mkF m 4 #[.val (.ref a), .val .null, .val .null, .val (.long (-1 : Int64)), .second] []))) st1 ?_
  refine Go.back (t' := (T1.setTop (mkF m 6 #[.val (.ref a), .val .null, .val .null, .val (.long (-1 : Int64)), .second] [.null, (.ref a)]))) (fun u k => XS.aloadN X1.here hx rfl (hb hby own_d4_4) rfl rfl (XS.aloadN X1.here hx rfl (hb hby own_d4_5) rfl rfl k)) ?_
  obtain ⟨T2, h2, X2, e2, W2, st2⟩ := putF X1 hx hZ hown (host := "") (Or.inl (hw _ (List.mem_of_getElem? (i := 28) rfl))) Via.refl e1 F_a_contentId E_a (Or.inr ⟨(hw _ (List.mem_of_getElem? (i := 29) rfl)), rfl, hnm⟩) (hw _ (List.mem_of_getElem? (i := 22) rfl)) (ty := (.object "java/lang/String")) (by decide) rfl rfl (g := (mkF m 6 #[.val (.ref a), .val .null, .val .null, .val (.long (-1 : Int64)), .second] [.null, (.ref a)])) rfl rfl (hb hby own_d4_6)
  have Z2 : n0 ≤ h2.size := Nat.le_trans Z0 (Keep.of_wr W2).1
  have K2 := K0.wr W2 (Or.inl (List.mem_of_getElem? (i := 0) rfl))
  have N2 := Fr.snoc X2 N0 g_a
  have F2 := F_a_contentId.same W2
  refine Go.back (t' := (T2.setTop (mkF m 9 #[.val (.ref a), .val .null, .val .null, .val (.long (-1 : Int64)), .second] []))) st2 ?_
  refine Go.back (t' := (T2.setTop (mkF m 11 #[.val (.ref a), .val .null, .val .null, .val (.long (-1 : Int64)), .second] [.null, (.ref a)]))) (fun u k => XS.aloadN X2.here hx rfl (hb hby own_d4_9) rfl rfl (XS.aloadN X2.here hx rfl (hb hby own_d4_10) rfl rfl k)) ?_
  have f4 := (F_a_headers.other W2 (Or.inr (slot_ne (Or.inr (hw _ (List.mem_of_getElem? (i := 31) rfl))) (Or.inr (hw _ (List.mem_of_getElem? (i := 29) rfl))) (by decide) (t := (.object "com/example/binfold/binfold/mime/Headers")) (t' := (.object "java/lang/String")) (by decide) (by decide))))
  have f5 := (E_a.wr W2)
  obtain ⟨T3, h3, X3, e3, W3, st3⟩ := putF X2 hx hZ hown (host := "") (Or.inl (hw _ (List.mem_of_getElem? (i := 30) rfl))) Via.refl e2 f4 f5 (Or.inr ⟨(hw _ (List.mem_of_getElem? (i := 31) rfl)), rfl, hnm⟩) (hw _ (List.mem_of_getElem? (i := 22) rfl)) (ty := (.object "com/example/binfold/binfold/mime/Headers")) (by decide) rfl rfl (g := (mkF m 11 #[.val (.ref a), .val .null, .val .null, .val (.long (-1 : Int64)), .second] [.null, (.ref a)])) rfl rfl (hb hby own_d4_11)
  have Z3 : n0 ≤ h3.size := Nat.le_trans Z2 (Keep.of_wr W3).1
  have K3 := K2.wr W3 (Or.inl (List.mem_of_getElem? (i := 0) rfl))
  have N3 := Fr.snoc X3 N2 g_a
  have F3 := f4.same W3
  refine Go.back (t' := (T3.setTop (mkF m 14 #[.val (.ref a), .val .null, .val .null, .val (.long (-1 : Int64)), .second] []))) st3 ?_
  refine Go.back (t' := (T3.setTop (mkF m 16 #[.val (.ref a), .val .null, .val .null, .val (.long (-1 : Int64)), .second] [(.long (-1 : Int64)), (.ref a)]))) (fun u k => XS.aloadN X3.here hx rfl (hb hby own_d4_14) rfl rfl (XT.lloadN X3.here hx rfl (hb hby own_d4_15) rfl k)) ?_
  have f7 := ((F_a_decodedLength.other W2 (Or.inr (slot_ne (Or.inr (hw _ (List.mem_of_getElem? (i := 33) rfl))) (Or.inr (hw _ (List.mem_of_getElem? (i := 29) rfl))) (by decide) (t := .long) (t' := (.object "java/lang/String")) (by decide) (by decide)))).other W3 (Or.inr (slot_ne (Or.inr (hw _ (List.mem_of_getElem? (i := 33) rfl))) (Or.inr (hw _ (List.mem_of_getElem? (i := 31) rfl))) (by decide) (t := .long) (t' := (.object "com/example/binfold/binfold/mime/Headers")) (by decide) (by decide))))
  have f8 := (f5.wr W3)
  obtain ⟨T6, h6, X6, e6, W6, st6⟩ := putF X3 hx hZ hown (host := "") (Or.inl (hw _ (List.mem_of_getElem? (i := 32) rfl))) Via.refl e3 f7 f8 (Or.inr ⟨(hw _ (List.mem_of_getElem? (i := 33) rfl)), rfl, hnm⟩) (hw _ (List.mem_of_getElem? (i := 22) rfl)) (ty := .long) (by decide) rfl rfl (g := (mkF m 16 #[.val (.ref a), .val .null, .val .null, .val (.long (-1 : Int64)), .second] [(.long (-1 : Int64)), (.ref a)])) rfl rfl (hb hby own_d4_16)
  have Z6 : n0 ≤ h6.size := Nat.le_trans Z3 (Keep.of_wr W6).1
  have K6 := K3.wr W6 (Or.inl (List.mem_of_getElem? (i := 0) rfl))
  have N6 := Fr.snoc X6 N3 g_a
  have F6 := f7.same W6
  refine Go.back (t' := (T6.setTop (mkF m 19 #[.val (.ref a), .val .null, .val .null, .val (.long (-1 : Int64)), .second] []))) st6 ?_
  have f9 := (f8.wr W6)
  have f10 := ((F2.other W3 (Or.inr (slot_ne (Or.inr (hw _ (List.mem_of_getElem? (i := 29) rfl))) (Or.inr (hw _ (List.mem_of_getElem? (i := 31) rfl))) (by decide) (t := (.object "java/lang/String")) (t' := (.object "com/example/binfold/binfold/mime/Headers")) (by decide) (by decide)))).other W6 (Or.inr (slot_ne (Or.inr (hw _ (List.mem_of_getElem? (i := 29) rfl))) (Or.inr (hw _ (List.mem_of_getElem? (i := 33) rfl))) (by decide) (t := (.object "java/lang/String")) (t' := .long) (by decide) (by decide))))
  have f11 := (F3.other W6 (Or.inr (slot_ne (Or.inr (hw _ (List.mem_of_getElem? (i := 31) rfl))) (Or.inr (hw _ (List.mem_of_getElem? (i := 33) rfl))) (by decide) (t := (.object "com/example/binfold/binfold/mime/Headers")) (t' := .long) (by decide) (by decide))))
  obtain ⟨fs, hr, hrun, hended, hW, hsame⟩ := X6.leave (v := none) (fun _ => rfl)
  refine ⟨_, _, X6.returnOut hx Bd.returns (hb hby own_d4_19) hr, hrun, hended, _, _, rfl, ?_, ⟨_, rfl⟩, hW, hsame.mono (by decide) (by decide)⟩
  show Q_own_ppInitNN Z a h0 n0 _ T6.heap _
  rw [e6]
  exact ⟨rfl, N6, K6, f9, F6, f10, f11⟩
theorem own_ef_own_desNN (m : MethodId) (x0 : Addr) : entryFrame m #[(.ref x0)] 1 = mkF m 0 #[.val (.ref x0)] [] := by first | (simp [entryFrame, mkF, argsToLocals, Value.category]; done) | rfl
def Q_own_desNN (Z : State) (a : Addr) (h0 : Heap) (n0 : Nat) (v : Option Value) (h : Heap) (L : List Loc) : Prop := ∃ q : Addr, v = some (.ref q) ∧ Fr n0 L ∧ Keep h0 h [] ∧ n0 ≤ q ∧ h0.size ≤ q ∧ Exa Z h q "com/example/binfold/binfold/PackagePart" ∧ Fld Z h q "com/example/binfold/binfold/PackagePart" "decodedLength" "J" (.long (-1 : Int64)) ∧ Fld Z h q "com/example/binfold/binfold/PackagePart" "contentId" "Ljava/lang/String;" .null ∧ Fld Z h q "com/example/binfold/binfold/PackagePart" "headers" "Lcom/example/binfold/binfold/mime/Headers;" .null
set_option maxRecDepth 65536 in
set_option maxHeartbeats 40000000 in
theorem own_desNN (l : Launch) (Z : State) (a0 : Array Value) (hw : ∀ d ∈ tables_1, d.before a0 Z = true) (ws : List Jvm.Cond) (a : Addr) (h0 : Heap) (n0 : Nat) (Z0 : n0 ≤ h0.size) (E_a : Exa Z h0 a "com/example/binfold/binfold/PackageParts$Part") (F_a_length : Fld Z h0 a "com/example/binfold/binfold/PackageParts$Part" "length" "J" (.long (-1 : Int64))) (F_a_contentId : Fld Z h0 a "com/example/binfold/binfold/PackageParts$Part" "contentId" "Ljava/lang/String;" .null) (F_a_headers : Fld Z h0 a "com/example/binfold/binfold/PackageParts$Part" "headers" "Lcom/example/binfold/binfold/mime/Headers;" .null) :
    MetFree l (⟨"com/example/binfold/binfold/PackageParts$Part", "description", "()Lcom/example/binfold/binfold/PackagePart;"⟩ : MethodName) (head1 (Jvm.Cond.code (⟨"com/example/binfold/binfold/PackageParts$Part", "description", "()Lcom/example/binfold/binfold/PackagePart;"⟩ : MethodName) prog_24_method_5_code 1 (some (.object "com/example/binfold/binfold/PackagePart")) :: ws) ({ frames := 2, cells := 1, slots := 3, locals := 29 } : Room)) (fun as_ U => as_ = #[(.ref a)] ∧ Z.Warmed39 U.vm ∧ U.heap = h0) (fun _ _ _ _ _ => True) (fun _ U o U' => ∃ v L, o = .returned v ∧ Q_own_desNN Z a h0 n0 v U'.heap L ∧ FrameEnd U o U' L ({ frames := 2, cells := 1, slots := 3, locals := 29 } : Room).cells ({ frames := 2, cells := 1, slots := 3, locals := 29 } : Room).slots) := by
  refine MetFree.of_bodySF (plainFor_of_name own_pn13) hisR ?_
  intro p e s m args below meth c s₁ Bd hml0 hP hK
  obtain ⟨rfl, hZ, hh⟩ := hP
  have hx := Bd.exec
  have hby := Bd.bytes
  have hml : c.maxLocals = 1 := hml0
  have hown : s.vm.findClass "com/example/binfold/binfold/PackageParts$Part" = some m.cls := findClass_of_methodNamed Bd.named
  have hnm := (name_of_methodNamed Bd.named Bd.method).1
  have X0 : Stand p l e ({ frames := 2, cells := 1, slots := 3, locals := 29 } : Room) s m #[(.ref a)] below meth c s₁ [] 0 0 := Stand.of_body Bd
  have e0 : s₁.heap = h0 := by rw [← hh, Bd.state]; rfl
  have N0 := Fr.nil n0
  have K0 := Keep.refl h0 []
  show Go p e below (own_F s below (Q_own_desNN Z a h0 n0) ({ frames := 2, cells := 1, slots := 3, locals := 29 } : Room).cells ({ frames := 2, cells := 1, slots := 3, locals := 29 } : Room).slots) (s₁.setTop (entryFrame m #[(.ref a)] 1))
  rw [own_ef_own_desNN m a]
  obtain ⟨T1, h1, X1, e1, E1, A1, D1, -, st1⟩ := newO X0 hx hZ hown (hw _ (List.mem_of_getElem? (i := 21) rfl)) (hw _ (List.mem_of_getElem? (i := 22) rfl)) (hw _ (List.mem_of_getElem? (i := 23) rfl)) e0 (g := (mkF m 0 #[.val (.ref a)] [])) rfl (hb hby own_d3_0) (by decide) (by decide)
  obtain ⟨b1, g1⟩ : ∃ z, z = h0.size := ⟨_, rfl⟩
  rw [← g1] at A1 D1 st1
  have ne_a_b1 : a ≠ b1 := Nat.ne_of_lt (Nat.lt_of_lt_of_le E_a.lt (Nat.le_of_eq g1.symm))
  have gb1 : n0 ≤ b1 := Nat.le_trans Z0 (Nat.le_of_eq g1.symm)
  have sz1 : h0.size ≤ b1 := Nat.le_trans K0.1 (Nat.le_of_eq g1.symm)
  have Z1 : n0 ≤ h1.size := Nat.le_trans Z0 E1.1
  have K1 := K0.ext E1
  refine Go.back (t' := (T1.setTop (mkF m 3 #[.val (.ref a)] [(.ref b1)]))) st1 ?_
  refine Go.back (t' := (T1.setTop (mkF m 5 #[.val (.ref a)] [(.ref a), (.ref b1), (.ref b1)]))) (fun u k => XS.dup X1.here hx rfl (hb hby own_d3_3) rfl rfl (XS.aloadN X1.here hx rfl (hb hby own_d3_4) rfl rfl k)) ?_
  have f2 := (F_a_contentId.ext E1)
  obtain ⟨T3, X3, e3, st3⟩ := getF X1 hx hZ hown (host := "") (Or.inl (hw _ (List.mem_of_getElem? (i := 12) rfl))) Via.refl e1 f2 (g := (mkF m 5 #[.val (.ref a)] [(.ref a), (.ref b1), (.ref b1)])) rfl rfl (hb hby own_d3_5)
  refine Go.back (t' := (T3.setTop (mkF m 8 #[.val (.ref a)] [.null, (.ref b1), (.ref b1)]))) st3 ?_
  refine Go.back (t' := (T3.setTop (mkF m 9 #[.val (.ref a)] [(.ref a), .null, (.ref b1), (.ref b1)]))) (fun u k => XS.aloadN X3.here hx rfl (hb hby own_d3_8) rfl rfl k) ?_
  have f4 := (F_a_headers.ext E1)
  obtain ⟨T5, X5, e5, st5⟩ := getF X3 hx hZ hown (host := "") (Or.inl (hw _ (List.mem_of_getElem? (i := 14) rfl))) Via.refl e3 f4 (g := (mkF m 9 #[.val (.ref a)] [(.ref a), .null, (.ref b1), (.ref b1)])) rfl rfl (hb hby own_d3_9)
  refine Go.back (t' := (T5.setTop (mkF m 12 #[.val (.ref a)] [.null, .null, (.ref b1), (.ref b1)]))) st5 ?_
  refine Go.back (t' := (T5.setTop (mkF m 13 #[.val (.ref a)] [(.ref a), .null, .null, (.ref b1), (.ref b1)]))) (fun u k => XS.aloadN X5.here hx rfl (hb hby own_d3_12) rfl rfl k) ?_
  have f6 := (F_a_length.ext E1)
  obtain ⟨T7, X7, e7, st7⟩ := getF X5 hx hZ hown (host := "") (Or.inl (hw _ (List.mem_of_getElem? (i := 10) rfl))) Via.refl e5 f6 (g := (mkF m 13 #[.val (.ref a)] [(.ref a), .null, .null, (.ref b1), (.ref b1)])) rfl rfl (hb hby own_d3_13)
  refine Go.back (t' := (T7.setTop (mkF m 16 #[.val (.ref a)] [(.long (-1 : Int64)), .null, .null, (.ref b1), (.ref b1)]))) st7 ?_
  obtain ⟨_, _, ⟨T8, L8, k8, n8⟩, -, X8, ⟨Lc8, hQ8, l8, y8, z8⟩, st8⟩ := X7.specialBack hx (y := (⟨"com/example/binfold/binfold/PackagePart", "<init>", "(Ljava/lang/String;Lcom/example/binfold/binfold/mime/Headers;J)V"⟩ : MethodName)) rfl hown (mvT hZ (hw _ (List.mem_of_getElem? (i := 24) rfl))) (mvT hZ (hw _ (List.mem_of_getElem? (i := 25) rfl))) (mvT hZ (hw _ (List.mem_of_getElem? (i := 26) rfl))) (by decide) (backOf (W := 1) (own_ppInitNN l Z a0 hw [] b1 h1 n0 Z1 A1 (D1 (Or.inr (hw _ (List.mem_of_getElem? (i := 33) rfl))) (ty := .long) (by decide)) (D1 (Or.inr (hw _ (List.mem_of_getElem? (i := 29) rfl))) (ty := (.object "java/lang/String")) (by decide)) (D1 (Or.inr (hw _ (List.mem_of_getElem? (i := 31) rfl))) (ty := (.object "com/example/binfold/binfold/mime/Headers")) (by decide)) gb1) hZ (hw _ (List.mem_of_getElem? (i := 26) rfl)) (hw _ (List.mem_of_getElem? (i := 23) rfl)) (by decide) (by decide)) (g := (mkF m 16 #[.val (.ref a)] [(.long (-1 : Int64)), .null, .null, (.ref b1), (.ref b1)])) rfl (by rw [hml]; rfl) (Steps.refl _) (a := b1) (argsL := [.null, .null, (.long (-1 : Int64))]) (rest := [(.ref b1)]) (lenOf own_pd11 rfl) rfl (by show 2 * 0 + _ ≤ _; exact Nat.le_of_eq rfl) (hb hby own_d3_16) (fun _ _ => ⟨rfl, e7, (by decide : 1 + 0 ≤ _), (by decide : 3 + 0 ≤ _)⟩)
  dsimp only [Pt.U, Pt.locs, Pt.cells, Pt.slots] at X8 l8 y8 z8 st8 hQ8
  subst l8 y8 z8
  obtain ⟨rfl, N8, Kc8, P8_0, P8_1, P8_2, P8_3⟩ := hQ8
  have NA8 := Fr.app N0 N8
  have Z8 : n0 ≤ T8.heap.size := Nat.le_trans Z1 Kc8.1
  have K8 := K1.trans Kc8 (allS (Or.inr sz1) all0)
  refine Go.back (t' := (T8.setTop (mkF m 19 #[.val (.ref a)] [(.ref b1)]))) (fun u k => st8.trans k) ?_
  obtain ⟨fs, hr, hrun, hended, hW, hsame⟩ := X8.leave (v := some (.ref b1)) (fun h => by rw [Bd.returns] at h; cases h)
  refine ⟨_, _, retOut X8 hx (t := (.object "com/example/binfold/binfold/PackagePart")) (i := .areturn) Bd.returns rfl (Or.inr (Or.inr (Or.inr (Or.inr ⟨rfl, rfl, rfl⟩)))) (hb hby own_d3_19) hr, hrun, hended, _, _, rfl, ?_, ⟨_, rfl⟩, hW, hsame.mono (by decide) (by decide)⟩
  show Q_own_desNN Z a h0 n0 _ T8.heap _
  exact ⟨b1, rfl, NA8, K8, gb1, sz1, P8_0, P8_1, P8_2, P8_3⟩
theorem own_pn15 : plainName "java/util/Optional" = true := by first | (simp [plainName, overriddenIn]; done) | decide +kernel
theorem own_d29_0 : decode jdk_32_method_2_code 0 = .ok (.aload_n 0, 1) := by decide +kernel
theorem own_d29_1 : decode jdk_32_method_2_code 1 = .ok (.invokespecial 7, 3) := by decide +kernel
theorem own_d29_4 : decode jdk_32_method_2_code 4 = .ok (.aload_n 0, 1) := by decide +kernel
theorem own_d29_5 : decode jdk_32_method_2_code 5 = .ok (.aload_n 1, 1) := by decide +kernel
theorem own_d29_6 : decode jdk_32_method_2_code 6 = .ok (.putfield 13, 3) := by decide +kernel
theorem own_d29_9 : decode jdk_32_method_2_code 9 = .ok (.return_, 1) := by decide +kernel
theorem own_ef_own_opInit (m : MethodId) (x0 : Addr) (x1 : Addr) : entryFrame m #[(.ref x0), (.ref x1)] 2 = mkF m 0 #[.val (.ref x0), .val (.ref x1)] [] := by first | (simp [entryFrame, mkF, argsToLocals, Value.category]; done) | rfl
def Q_own_opInit (Z : State) (a : Addr) (sx : Addr) (h0 : Heap) (n0 : Nat) (v : Option Value) (h : Heap) (L : List Loc) : Prop := v = none ∧ Fr n0 L ∧ Keep h0 h [a] ∧ Exa Z h a "java/util/Optional" ∧ Fld Z h a "java/util/Optional" "value" "Ljava/lang/Object;" (.ref sx)
set_option maxRecDepth 65536 in
set_option maxHeartbeats 40000000 in
theorem own_opInit (l : Launch) (Z : State) (a0 : Array Value) (hw : ∀ d ∈ tables_1, d.before a0 Z = true) (ws : List Jvm.Cond) (a : Addr) (sx : Addr) (h0 : Heap) (n0 : Nat) (Z0 : n0 ≤ h0.size) (E_a : Exa Z h0 a "java/util/Optional") (F_a_value : Fld Z h0 a "java/util/Optional" "value" "Ljava/lang/Object;" .null) (g_a : n0 ≤ a) :
    MetFree l (⟨"java/util/Optional", "<init>", "(Ljava/lang/Object;)V"⟩ : MethodName) (head1 (Jvm.Cond.code (⟨"java/util/Optional", "<init>", "(Ljava/lang/Object;)V"⟩ : MethodName) jdk_32_method_2_code 2 none :: ws) ({ frames := 1, cells := 0, slots := 0, locals := 12 } : Room)) (fun as_ U => as_ = #[(.ref a), (.ref sx)] ∧ Z.Warmed39 U.vm ∧ U.heap = h0) (fun _ _ _ _ _ => True) (fun _ U o U' => ∃ v L, o = .returned v ∧ Q_own_opInit Z a sx h0 n0 v U'.heap L ∧ FrameEnd U o U' L ({ frames := 1, cells := 0, slots := 0, locals := 12 } : Room).cells ({ frames := 1, cells := 0, slots := 0, locals := 12 } : Room).slots) := by
  refine MetFree.of_bodySF (plainFor_of_name own_pn15) hisR ?_
  intro p e s m args below meth c s₁ Bd hml0 hP hK
  obtain ⟨rfl, hZ, hh⟩ := hP
  have hx := Bd.exec
  have hby := Bd.bytes
  have hml : c.maxLocals = 2 := hml0
  have hown : s.vm.findClass "java/util/Optional" = some m.cls := findClass_of_methodNamed Bd.named
  have hnm := (name_of_methodNamed Bd.named Bd.method).1
  have X0 : Stand p l e ({ frames := 1, cells := 0, slots := 0, locals := 12 } : Room) s m #[(.ref a), (.ref sx)] below meth c s₁ [] 0 0 := Stand.of_body Bd
  have e0 : s₁.heap = h0 := by rw [← hh, Bd.state]; rfl
  have N0 := Fr.nil n0
  have K0 := Keep.refl h0 [a]
  show Go p e below (own_F s below (Q_own_opInit Z a sx h0 n0) ({ frames := 1, cells := 0, slots := 0, locals := 12 } : Room).cells ({ frames := 1, cells := 0, slots := 0, locals := 12 } : Room).slots) (s₁.setTop (entryFrame m #[(.ref a), (.ref sx)] 2))
  rw [own_ef_own_opInit m a sx]
  refine Go.back (t' := (s₁.setTop (mkF m 1 #[.val (.ref a), .val (.ref sx)] [(.ref a)]))) (fun u k => XS.aloadN X0.here hx rfl (hb hby own_d29_0) rfl rfl k) ?_
  obtain ⟨T1, X1, e1, st1⟩ := initO X0 hx hZ hown (hw _ (List.mem_of_getElem? (i := 223) rfl)) (hw _ (List.mem_of_getElem? (i := 7) rfl)) (hw _ (List.mem_of_getElem? (i := 8) rfl)) e0 (g := (mkF m 1 #[.val (.ref a), .val (.ref sx)] [(.ref a)])) rfl (by rw [hml]; rfl) rfl (hb hby own_d29_1) (by decide) (W := 0) (by show 2 * 0 + _ ≤ _; exact Nat.le_of_eq rfl) (by decide)
  refine Go.back (t' := (T1.setTop (mkF m 4 #[.val (.ref a), .val (.ref sx)] []))) st1 ?_
  refine Go.back (t' := (T1.setTop (mkF m 6 #[.val (.ref a), .val (.ref sx)] [(.ref sx), (.ref a)]))) (fun u k => XS.aloadN X1.here hx rfl (hb hby own_d29_4) rfl rfl (XS.aloadN X1.here hx rfl (hb hby own_d29_5) rfl rfl k)) ?_
  obtain ⟨T2, h2, X2, e2, W2, st2⟩ := putF X1 hx hZ hown (host := "") (Or.inl (hw _ (List.mem_of_getElem? (i := 49) rfl))) Via.refl e1 F_a_value E_a (Or.inr ⟨(hw _ (List.mem_of_getElem? (i := 50) rfl)), rfl, hnm⟩) (hw _ (List.mem_of_getElem? (i := 218) rfl)) (ty := (.object "java/lang/Object")) (by decide) rfl rfl (g := (mkF m 6 #[.val (.ref a), .val (.ref sx)] [(.ref sx), (.ref a)])) rfl rfl (hb hby own_d29_6)
  have Z2 : n0 ≤ h2.size := Nat.le_trans Z0 (Keep.of_wr W2).1
  have K2 := K0.wr W2 (Or.inl (List.mem_of_getElem? (i := 0) rfl))
  have N2 := Fr.snoc X2 N0 g_a
  have F2 := F_a_value.same W2
  refine Go.back (t' := (T2.setTop (mkF m 9 #[.val (.ref a), .val (.ref sx)] []))) st2 ?_
  have f3 := (E_a.wr W2)
  obtain ⟨fs, hr, hrun, hended, hW, hsame⟩ := X2.leave (v := none) (fun _ => rfl)
  refine ⟨_, _, X2.returnOut hx Bd.returns (hb hby own_d29_9) hr, hrun, hended, _, _, rfl, ?_, ⟨_, rfl⟩, hW, hsame.mono (by decide) (by decide)⟩
  show Q_own_opInit Z a sx h0 n0 _ T2.heap _
  rw [e2]
  exact ⟨rfl, N2, K2, f3, F2⟩
theorem own_d6_0 : decode jdk_32_method_4_code 0 = .ok (.aload_n 0, 1) := by decide +kernel
theorem own_d6_1 : decode jdk_32_method_4_code 1 = .ok (.ifnonnull 9, 3) := by decide +kernel
theorem own_d6_4 : decode jdk_32_method_4_code 4 = .ok (.getstatic 1, 3) := by decide +kernel
theorem own_d6_7 : decode jdk_32_method_4_code 7 = .ok (.goto 11, 3) := by decide +kernel
theorem own_d6_10 : decode jdk_32_method_4_code 10 = .ok (.new 2, 3) := by decide +kernel
theorem own_d6_13 : decode jdk_32_method_4_code 13 = .ok (.dup, 1) := by decide +kernel
theorem own_d6_14 : decode jdk_32_method_4_code 14 = .ok (.aload_n 0, 1) := by decide +kernel
theorem own_d6_15 : decode jdk_32_method_4_code 15 = .ok (.invokespecial 23, 3) := by decide +kernel
theorem own_d6_18 : decode jdk_32_method_4_code 18 = .ok (.areturn, 1) := by decide +kernel
theorem own_ef_own_onN (m : MethodId)  : entryFrame m #[.null] 1 = mkF m 0 #[.val .null] [] := by first | (simp [entryFrame, mkF, argsToLocals, Value.category]; done) | rfl
def Q_own_onN (Z : State) (oE : Addr) (h0 : Heap) (n0 : Nat) (v : Option Value) (h : Heap) (L : List Loc) : Prop := v = some (.ref oE) ∧ Fr n0 L ∧ h = h0
set_option maxRecDepth 65536 in
set_option maxHeartbeats 40000000 in
theorem own_onN (l : Launch) (Z : State) (a0 : Array Value) (hw : ∀ d ∈ tables_1, d.before a0 Z = true) (ws : List Jvm.Cond) (oE : Addr) (h0 : Heap) (n0 : Nat) (Z0 : n0 ≤ h0.size) (Old0 : Old Z n0 h0) (SO : Sta Z Z.heap "java/util/Optional" "EMPTY" "Ljava/util/Optional;" (.ref oE)) :
    MetFree l (⟨"java/util/Optional", "ofNullable", "(Ljava/lang/Object;)Ljava/util/Optional;"⟩ : MethodName) (head1 (Jvm.Cond.code (⟨"java/util/Optional", "ofNullable", "(Ljava/lang/Object;)Ljava/util/Optional;"⟩ : MethodName) jdk_32_method_4_code 1 (some (.object "java/util/Optional")) :: ws) ({ frames := 0, cells := 0, slots := 0, locals := 0 } : Room)) (fun as_ U => as_ = #[.null] ∧ Z.Warmed39 U.vm ∧ U.heap = h0) (fun _ _ _ _ _ => True) (fun _ U o U' => ∃ v L, o = .returned v ∧ Q_own_onN Z oE h0 n0 v U'.heap L ∧ FrameEnd U o U' L ({ frames := 0, cells := 0, slots := 0, locals := 0 } : Room).cells ({ frames := 0, cells := 0, slots := 0, locals := 0 } : Room).slots) := by
  refine MetFree.of_bodySF (plainFor_of_name own_pn15) hisR ?_
  intro p e s m args below meth c s₁ Bd hml0 hP hK
  obtain ⟨rfl, hZ, hh⟩ := hP
  have hx := Bd.exec
  have hby := Bd.bytes
  have hml : c.maxLocals = 1 := hml0
  have hown : s.vm.findClass "java/util/Optional" = some m.cls := findClass_of_methodNamed Bd.named
  have hnm := (name_of_methodNamed Bd.named Bd.method).1
  have X0 : Stand p l e ({ frames := 0, cells := 0, slots := 0, locals := 0 } : Room) s m #[.null] below meth c s₁ [] 0 0 := Stand.of_body Bd
  have e0 : s₁.heap = h0 := by rw [← hh, Bd.state]; rfl
  have N0 := Fr.nil n0
  have K0 := Keep.refl h0 []
  show Go p e below (own_F s below (Q_own_onN Z oE h0 n0) ({ frames := 0, cells := 0, slots := 0, locals := 0 } : Room).cells ({ frames := 0, cells := 0, slots := 0, locals := 0 } : Room).slots) (s₁.setTop (entryFrame m #[.null] 1))
  rw [own_ef_own_onN m ]
  refine Go.back (t' := (s₁.setTop (mkF m 4 #[.val .null] []))) (fun u k => XS.aloadN X0.here hx rfl (hb hby own_d6_0) rfl rfl (XT.ifnonnullNo X0.here hx rfl (hb hby own_d6_1) rfl k)) ?_
  obtain ⟨T1, X1, e1, st1⟩ := getS2 X0 hx hZ hown (host := "") (Or.inl (hw _ (List.mem_of_getElem? (i := 43) rfl))) Via.refl e0 (SO.ext Old0.2) (g := (mkF m 4 #[.val .null] [])) rfl (hb hby own_d6_4)
  refine Go.back (t' := (T1.setTop (mkF m 7 #[.val .null] [(.ref oE)]))) st1 ?_
  refine Go.back (t' := (T1.setTop (mkF m 18 #[.val .null] [(.ref oE)]))) (fun u k => XS.goto X1.here hx rfl (pc0 := 7) (pc' := 18) rfl (hb hby own_d6_7) (by decide) (by decide) k) ?_
  obtain ⟨fs, hr, hrun, hended, hW, hsame⟩ := X1.leave (v := some (.ref oE)) (fun h => by rw [Bd.returns] at h; cases h)
  refine ⟨_, _, retOut X1 hx (t := (.object "java/util/Optional")) (i := .areturn) Bd.returns rfl (Or.inr (Or.inr (Or.inr (Or.inr ⟨rfl, rfl, rfl⟩)))) (hb hby own_d6_18) hr, hrun, hended, _, _, rfl, ?_, ⟨_, rfl⟩, hW, hsame.mono (by decide) (by decide)⟩
  show Q_own_onN Z oE h0 n0 _ T1.heap _
  rw [e1]
  exact ⟨rfl, N0, rfl⟩
theorem own_pd12 : parseMethodDescriptor "(Ljava/lang/Object;)V" = some ⟨[(.object "java/lang/Object")], none⟩ := by decide +kernel
theorem own_ef_own_onR (m : MethodId) (x0 : Addr) : entryFrame m #[(.ref x0)] 1 = mkF m 0 #[.val (.ref x0)] [] := by first | (simp [entryFrame, mkF, argsToLocals, Value.category]; done) | rfl
def Q_own_onR (Z : State) (sx : Addr) (h0 : Heap) (n0 : Nat) (v : Option Value) (h : Heap) (L : List Loc) : Prop := ∃ q : Addr, v = some (.ref q) ∧ Fr n0 L ∧ Keep h0 h [] ∧ n0 ≤ q ∧ h0.size ≤ q ∧ Exa Z h q "java/util/Optional" ∧ Fld Z h q "java/util/Optional" "value" "Ljava/lang/Object;" (.ref sx)
set_option maxRecDepth 65536 in
set_option maxHeartbeats 40000000 in
theorem own_onR (l : Launch) (Z : State) (a0 : Array Value) (hw : ∀ d ∈ tables_1, d.before a0 Z = true) (ws : List Jvm.Cond) (sx : Addr) (h0 : Heap) (n0 : Nat) (Z0 : n0 ≤ h0.size) :
    MetFree l (⟨"java/util/Optional", "ofNullable", "(Ljava/lang/Object;)Ljava/util/Optional;"⟩ : MethodName) (head1 (Jvm.Cond.code (⟨"java/util/Optional", "ofNullable", "(Ljava/lang/Object;)Ljava/util/Optional;"⟩ : MethodName) jdk_32_method_4_code 1 (some (.object "java/util/Optional")) :: ws) ({ frames := 2, cells := 1, slots := 1, locals := 26 } : Room)) (fun as_ U => as_ = #[(.ref sx)] ∧ Z.Warmed39 U.vm ∧ U.heap = h0) (fun _ _ _ _ _ => True) (fun _ U o U' => ∃ v L, o = .returned v ∧ Q_own_onR Z sx h0 n0 v U'.heap L ∧ FrameEnd U o U' L ({ frames := 2, cells := 1, slots := 1, locals := 26 } : Room).cells ({ frames := 2, cells := 1, slots := 1, locals := 26 } : Room).slots) := by
  refine MetFree.of_bodySF (plainFor_of_name own_pn15) hisR ?_
  intro p e s m args below meth c s₁ Bd hml0 hP hK
  obtain ⟨rfl, hZ, hh⟩ := hP
  have hx := Bd.exec
  have hby := Bd.bytes
  have hml : c.maxLocals = 1 := hml0
  have hown : s.vm.findClass "java/util/Optional" = some m.cls := findClass_of_methodNamed Bd.named
  have hnm := (name_of_methodNamed Bd.named Bd.method).1
  have X0 : Stand p l e ({ frames := 2, cells := 1, slots := 1, locals := 26 } : Room) s m #[(.ref sx)] below meth c s₁ [] 0 0 := Stand.of_body Bd
  have e0 : s₁.heap = h0 := by rw [← hh, Bd.state]; rfl
  have N0 := Fr.nil n0
  have K0 := Keep.refl h0 []
  show Go p e below (own_F s below (Q_own_onR Z sx h0 n0) ({ frames := 2, cells := 1, slots := 1, locals := 26 } : Room).cells ({ frames := 2, cells := 1, slots := 1, locals := 26 } : Room).slots) (s₁.setTop (entryFrame m #[(.ref sx)] 1))
  rw [own_ef_own_onR m sx]
  refine Go.back (t' := (s₁.setTop (mkF m 10 #[.val (.ref sx)] []))) (fun u k => XS.aloadN X0.here hx rfl (hb hby own_d6_0) rfl rfl (XT.ifnonnullYes X0.here hx rfl (pc0 := 1) (pc' := 10) rfl (hb hby own_d6_1) rfl (by decide) (by decide) k)) ?_
  obtain ⟨T1, h1, X1, e1, E1, A1, D1, -, st1⟩ := newO X0 hx hZ hown (hw _ (List.mem_of_getElem? (i := 217) rfl)) (hw _ (List.mem_of_getElem? (i := 218) rfl)) (hw _ (List.mem_of_getElem? (i := 41) rfl)) e0 (g := (mkF m 10 #[.val (.ref sx)] [])) rfl (hb hby own_d6_10) (by decide) (by decide)
  obtain ⟨b1, g1⟩ : ∃ z, z = h0.size := ⟨_, rfl⟩
  rw [← g1] at A1 D1 st1
  have gb1 : n0 ≤ b1 := Nat.le_trans Z0 (Nat.le_of_eq g1.symm)
  have sz1 : h0.size ≤ b1 := Nat.le_trans K0.1 (Nat.le_of_eq g1.symm)
  have Z1 : n0 ≤ h1.size := Nat.le_trans Z0 E1.1
  have K1 := K0.ext E1
  refine Go.back (t' := (T1.setTop (mkF m 13 #[.val (.ref sx)] [(.ref b1)]))) st1 ?_
  refine Go.back (t' := (T1.setTop (mkF m 15 #[.val (.ref sx)] [(.ref sx), (.ref b1), (.ref b1)]))) (fun u k => XS.dup X1.here hx rfl (hb hby own_d6_13) rfl rfl (XS.aloadN X1.here hx rfl (hb hby own_d6_14) rfl rfl k)) ?_
  obtain ⟨_, _, ⟨T2, L2, k2, n2⟩, -, X2, ⟨Lc2, hQ2, l2, y2, z2⟩, st2⟩ := X1.specialBack hx (y := (⟨"java/util/Optional", "<init>", "(Ljava/lang/Object;)V"⟩ : MethodName)) rfl hown (mvT hZ (hw _ (List.mem_of_getElem? (i := 219) rfl))) (mvT hZ (hw _ (List.mem_of_getElem? (i := 220) rfl))) (mvT hZ (hw _ (List.mem_of_getElem? (i := 222) rfl))) (by decide) (backOf (W := 1) (own_opInit l Z a0 hw [] b1 sx h1 n0 Z1 A1 (D1 (Or.inr (hw _ (List.mem_of_getElem? (i := 50) rfl))) (ty := (.object "java/lang/Object")) (by decide)) gb1) hZ (hw _ (List.mem_of_getElem? (i := 222) rfl)) (hw _ (List.mem_of_getElem? (i := 41) rfl)) (by decide) (by decide)) (g := (mkF m 15 #[.val (.ref sx)] [(.ref sx), (.ref b1), (.ref b1)])) rfl (by rw [hml]; rfl) (Steps.refl _) (a := b1) (argsL := [(.ref sx)]) (rest := [(.ref b1)]) (lenOf own_pd12 rfl) rfl (by show 2 * 0 + _ ≤ _; exact Nat.le_of_eq rfl) (hb hby own_d6_15) (fun _ _ => ⟨rfl, e1, (by decide : 1 + 0 ≤ _), (by decide : 1 + 0 ≤ _)⟩)
  dsimp only [Pt.U, Pt.locs, Pt.cells, Pt.slots] at X2 l2 y2 z2 st2 hQ2
  subst l2 y2 z2
  obtain ⟨rfl, N2, Kc2, P2_0, P2_1⟩ := hQ2
  have NA2 := Fr.app N0 N2
  have Z2 : n0 ≤ T2.heap.size := Nat.le_trans Z1 Kc2.1
  have K2 := K1.trans Kc2 (allS (Or.inr sz1) all0)
  refine Go.back (t' := (T2.setTop (mkF m 18 #[.val (.ref sx)] [(.ref b1)]))) (fun u k => st2.trans k) ?_
  obtain ⟨fs, hr, hrun, hended, hW, hsame⟩ := X2.leave (v := some (.ref b1)) (fun h => by rw [Bd.returns] at h; cases h)
  refine ⟨_, _, retOut X2 hx (t := (.object "java/util/Optional")) (i := .areturn) Bd.returns rfl (Or.inr (Or.inr (Or.inr (Or.inr ⟨rfl, rfl, rfl⟩)))) (hb hby own_d6_18) hr, hrun, hended, _, _, rfl, ?_, ⟨_, rfl⟩, hW, hsame.mono (by decide) (by decide)⟩
  show Q_own_onR Z sx h0 n0 _ T2.heap _
  exact ⟨b1, rfl, NA2, K2, gb1, sz1, P2_0, P2_1⟩
theorem own_pd13 : parseMethodDescriptor "(Ljava/lang/Object;)Ljava/util/Optional;" = some ⟨[(.object "java/lang/Object")], some (.object "java/util/Optional")⟩ := by decide +kernel
theorem own_d5_0 : decode prog_22_method_2_code 0 = .ok (.aload_n 0, 1) := by decide +kernel
theorem own_d5_1 : decode prog_22_method_2_code 1 = .ok (.getfield 7, 3) := by decide +kernel
theorem own_d5_4 : decode prog_22_method_2_code 4 = .ok (.invokestatic 21, 3) := by decide +kernel
theorem own_d5_7 : decode prog_22_method_2_code 7 = .ok (.areturn, 1) := by decide +kernel
theorem own_ef_own_ciN (m : MethodId) (x0 : Addr) : entryFrame m #[(.ref x0)] 1 = mkF m 0 #[.val (.ref x0)] [] := by first | (simp [entryFrame, mkF, argsToLocals, Value.category]; done) | rfl
def Q_own_ciN (Z : State) (a : Addr) (oE : Addr) (h0 : Heap) (n0 : Nat) (v : Option Value) (h : Heap) (L : List Loc) : Prop := v = some (.ref oE) ∧ Fr n0 L ∧ h = h0
set_option maxRecDepth 65536 in
set_option maxHeartbeats 40000000 in
theorem own_ciN (l : Launch) (Z : State) (a0 : Array Value) (hw : ∀ d ∈ tables_1, d.before a0 Z = true) (ws : List Jvm.Cond) (a : Addr) (oE : Addr) (h0 : Heap) (n0 : Nat) (Z0 : n0 ≤ h0.size) (F_a_contentId : Fld Z h0 a "com/example/binfold/binfold/PackagePart" "contentId" "Ljava/lang/String;" .null) (Old0 : Old Z n0 h0) (SO : Sta Z Z.heap "java/util/Optional" "EMPTY" "Ljava/util/Optional;" (.ref oE)) :
    MetFree l (⟨"com/example/binfold/binfold/PackagePart", "contentId", "()Ljava/util/Optional;"⟩ : MethodName) (head1 (Jvm.Cond.code (⟨"com/example/binfold/binfold/PackagePart", "contentId", "()Ljava/util/Optional;"⟩ : MethodName) prog_22_method_2_code 1 (some (.object "java/util/Optional")) :: ws) ({ frames := 1, cells := 0, slots := 0, locals := 12 } : Room)) (fun as_ U => as_ = #[(.ref a)] ∧ Z.Warmed39 U.vm ∧ U.heap = h0) (fun _ _ _ _ _ => True) (fun _ U o U' => ∃ v L, o = .returned v ∧ Q_own_ciN Z a oE h0 n0 v U'.heap L ∧ FrameEnd U o U' L ({ frames := 1, cells := 0, slots := 0, locals := 12 } : Room).cells ({ frames := 1, cells := 0, slots := 0, locals := 12 } : Room).slots) := by
  refine MetFree.of_bodySF (plainFor_of_name own_pn14) hisR ?_
  intro p e s m args below meth c s₁ Bd hml0 hP hK
  obtain ⟨rfl, hZ, hh⟩ := hP
  have hx := Bd.exec
  have hby := Bd.bytes
  have hml : c.maxLocals = 1 := hml0
  have hown : s.vm.findClass "com/example/binfold/binfold/PackagePart" = some m.cls := findClass_of_methodNamed Bd.named
  have hnm := (name_of_methodNamed Bd.named Bd.method).1
  have X0 : Stand p l e ({ frames := 1, cells := 0, slots := 0, locals := 12 } : Room) s m #[(.ref a)] below meth c s₁ [] 0 0 := Stand.of_body Bd
  have e0 : s₁.heap = h0 := by rw [← hh, Bd.state]; rfl
  have N0 := Fr.nil n0
  have K0 := Keep.refl h0 []
  show Go p e below (own_F s below (Q_own_ciN Z a oE h0 n0) ({ frames := 1, cells := 0, slots := 0, locals := 12 } : Room).cells ({ frames := 1, cells := 0, slots := 0, locals := 12 } : Room).slots) (s₁.setTop (entryFrame m #[(.ref a)] 1))
  rw [own_ef_own_ciN m a]
  refine Go.back (t' := (s₁.setTop (mkF m 1 #[.val (.ref a)] [(.ref a)]))) (fun u k => XS.aloadN X0.here hx rfl (hb hby own_d5_0) rfl rfl k) ?_
  obtain ⟨T1, X1, e1, st1⟩ := getF X0 hx hZ hown (host := "") (Or.inl (hw _ (List.mem_of_getElem? (i := 28) rfl))) Via.refl e0 F_a_contentId (g := (mkF m 1 #[.val (.ref a)] [(.ref a)])) rfl rfl (hb hby own_d5_1)
  refine Go.back (t' := (T1.setTop (mkF m 4 #[.val (.ref a)] [.null]))) st1 ?_
  obtain ⟨_, _, ⟨T2, L2, k2, n2⟩, -, X2, ⟨Lc2, hQ2, l2, y2, z2⟩, st2⟩ := Jvm.LawKit.callS X1 hx (y := (⟨"java/util/Optional", "ofNullable", "(Ljava/lang/Object;)Ljava/util/Optional;"⟩ : MethodName)) hown (mvT hZ (hw _ (List.mem_of_getElem? (i := 39) rfl))) (mvT hZ (hw _ (List.mem_of_getElem? (i := 40) rfl))) (mvT hZ (hw _ (List.mem_of_getElem? (i := 41) rfl))) (mvT hZ (hw _ (List.mem_of_getElem? (i := 42) rfl))) (by decide) (backOf (W := 0) (own_onN l Z a0 hw [] oE h0 n0 Z0 Old0 SO) hZ (hw _ (List.mem_of_getElem? (i := 42) rfl)) (hw _ (List.mem_of_getElem? (i := 41) rfl)) (by decide) (by decide)) (g := (mkF m 4 #[.val (.ref a)] [.null])) rfl (by rw [hml]; rfl) (argsL := [.null]) (rest := []) (lenOf own_pd13 rfl) rfl (by show 2 * 0 + _ ≤ _; exact Nat.le_of_eq rfl) (hb hby own_d5_4) (fun _ _ => ⟨rfl, e1, (by decide : 0 + 0 ≤ _), (by decide : 0 + 0 ≤ _)⟩)
  dsimp only [Pt.U, Pt.locs, Pt.cells, Pt.slots] at X2 l2 y2 z2 st2 hQ2
  subst l2 y2 z2
  obtain ⟨rfl, N2, e2⟩ := hQ2
  have NA2 := Fr.app N0 N2
  refine Go.back (t' := (T2.setTop (mkF m 7 #[.val (.ref a)] [(.ref oE)]))) st2 ?_
  obtain ⟨fs, hr, hrun, hended, hW, hsame⟩ := X2.leave (v := some (.ref oE)) (fun h => by rw [Bd.returns] at h; cases h)
  refine ⟨_, _, retOut X2 hx (t := (.object "java/util/Optional")) (i := .areturn) Bd.returns rfl (Or.inr (Or.inr (Or.inr (Or.inr ⟨rfl, rfl, rfl⟩)))) (hb hby own_d5_7) hr, hrun, hended, _, _, rfl, ?_, ⟨_, rfl⟩, hW, hsame.mono (by decide) (by decide)⟩
  show Q_own_ciN Z a oE h0 n0 _ T2.heap _
  rw [e2]
  exact ⟨rfl, NA2, rfl⟩
theorem own_ef_own_ciR (m : MethodId) (x0 : Addr) : entryFrame m #[(.ref x0)] 1 = mkF m 0 #[.val (.ref x0)] [] := by first | (simp [entryFrame, mkF, argsToLocals, Value.category]; done) | rfl
def Q_own_ciR (Z : State) (a : Addr) (sx : Addr) (h0 : Heap) (n0 : Nat) (v : Option Value) (h : Heap) (L : List Loc) : Prop := ∃ q : Addr, v = some (.ref q) ∧ Fr n0 L ∧ Keep h0 h [] ∧ n0 ≤ q ∧ h0.size ≤ q ∧ Exa Z h q "java/util/Optional" ∧ Fld Z h q "java/util/Optional" "value" "Ljava/lang/Object;" (.ref sx)
set_option maxRecDepth 65536 in
set_option maxHeartbeats 40000000 in
theorem own_ciR (l : Launch) (Z : State) (a0 : Array Value) (hw : ∀ d ∈ tables_1, d.before a0 Z = true) (ws : List Jvm.Cond) (a : Addr) (sx : Addr) (h0 : Heap) (n0 : Nat) (Z0 : n0 ≤ h0.size) (F_a_contentId : Fld Z h0 a "com/example/binfold/binfold/PackagePart" "contentId" "Ljava/lang/String;" (.ref sx)) :
    MetFree l (⟨"com/example/binfold/binfold/PackagePart", "contentId", "()Ljava/util/Optional;"⟩ : MethodName) (head1 (Jvm.Cond.code (⟨"com/example/binfold/binfold/PackagePart", "contentId", "()Ljava/util/Optional;"⟩ : MethodName) prog_22_method_2_code 1 (some (.object "java/util/Optional")) :: ws) ({ frames := 3, cells := 1, slots := 1, locals := 38 } : Room)) (fun as_ U => as_ = #[(.ref a)] ∧ Z.Warmed39 U.vm ∧ U.heap = h0) (fun _ _ _ _ _ => True) (fun _ U o U' => ∃ v L, o = .returned v ∧ Q_own_ciR Z a sx h0 n0 v U'.heap L ∧ FrameEnd U o U' L ({ frames := 3, cells := 1, slots := 1, locals := 38 } : Room).cells ({ frames := 3, cells := 1, slots := 1, locals := 38 } : Room).slots) := by
  refine MetFree.of_bodySF (plainFor_of_name own_pn14) hisR ?_
  intro p e s m args below meth c s₁ Bd hml0 hP hK
  obtain ⟨rfl, hZ, hh⟩ := hP
  have hx := Bd.exec
  have hby := Bd.bytes
  have hml : c.maxLocals = 1 := hml0
  have hown : s.vm.findClass "com/example/binfold/binfold/PackagePart" = some m.cls := findClass_of_methodNamed Bd.named
  have hnm := (name_of_methodNamed Bd.named Bd.method).1
  have X0 : Stand p l e ({ frames := 3, cells := 1, slots := 1, locals := 38 } : Room) s m #[(.ref a)] below meth c s₁ [] 0 0 := Stand.of_body Bd
  have e0 : s₁.heap = h0 := by rw [← hh, Bd.state]; rfl
  have N0 := Fr.nil n0
  have K0 := Keep.refl h0 []
  show Go p e below (own_F s below (Q_own_ciR Z a sx h0 n0) ({ frames := 3, cells := 1, slots := 1, locals := 38 } : Room).cells ({ frames := 3, cells := 1, slots := 1, locals := 38 } : Room).slots) (s₁.setTop (entryFrame m #[(.ref a)] 1))
  rw [own_ef_own_ciR m a]
  refine Go.back (t' := (s₁.setTop (mkF m 1 #[.val (.ref a)] [(.ref a)]))) (fun u k => XS.aloadN X0.here hx rfl (hb hby own_d5_0) rfl rfl k) ?_
  obtain ⟨T1, X1, e1, st1⟩ := getF X0 hx hZ hown (host := "") (Or.inl (hw _ (List.mem_of_getElem? (i := 28) rfl))) Via.refl e0 F_a_contentId (g := (mkF m 1 #[.val (.ref a)] [(.ref a)])) rfl rfl (hb hby own_d5_1)
  refine Go.back (t' := (T1.setTop (mkF m 4 #[.val (.ref a)] [(.ref sx)]))) st1 ?_
  obtain ⟨_, _, ⟨T2, L2, k2, n2⟩, -, X2, ⟨Lc2, hQ2, l2, y2, z2⟩, st2⟩ := Jvm.LawKit.callS X1 hx (y := (⟨"java/util/Optional", "ofNullable", "(Ljava/lang/Object;)Ljava/util/Optional;"⟩ : MethodName)) hown (mvT hZ (hw _ (List.mem_of_getElem? (i := 39) rfl))) (mvT hZ (hw _ (List.mem_of_getElem? (i := 40) rfl))) (mvT hZ (hw _ (List.mem_of_getElem? (i := 41) rfl))) (mvT hZ (hw _ (List.mem_of_getElem? (i := 42) rfl))) (by decide) (backOf (W := 0) (own_onR l Z a0 hw [] sx h0 n0 Z0 ) hZ (hw _ (List.mem_of_getElem? (i := 42) rfl)) (hw _ (List.mem_of_getElem? (i := 41) rfl)) (by decide) (by decide)) (g := (mkF m 4 #[.val (.ref a)] [(.ref sx)])) rfl (by rw [hml]; rfl) (argsL := [(.ref sx)]) (rest := []) (lenOf own_pd13 rfl) rfl (by show 2 * 0 + _ ≤ _; exact Nat.le_of_eq rfl) (hb hby own_d5_4) (fun _ _ => ⟨rfl, e1, (by decide : 0 + 1 ≤ _), (by decide : 0 + 1 ≤ _)⟩)
  dsimp only [Pt.U, Pt.locs, Pt.cells, Pt.slots] at X2 l2 y2 z2 st2 hQ2
  subst l2 y2 z2
  obtain ⟨q2, rfl, N2, Kc2, gb_q2, szc_q2, P2_0, P2_1⟩ := hQ2
  have NA2 := Fr.app N0 N2
  have Z2 : n0 ≤ T2.heap.size := Nat.le_trans Z0 Kc2.1
  have K2 := K0.trans Kc2 all0
  have sz_q2 : h0.size ≤ q2 := Nat.le_trans K0.1 szc_q2
  have ne_a_q2 : a ≠ q2 := Nat.ne_of_lt (Nat.lt_of_lt_of_le F_a_contentId.lt szc_q2)
  refine Go.back (t' := (T2.setTop (mkF m 7 #[.val (.ref a)] [(.ref q2)]))) st2 ?_
  obtain ⟨fs, hr, hrun, hended, hW, hsame⟩ := X2.leave (v := some (.ref q2)) (fun h => by rw [Bd.returns] at h; cases h)
  refine ⟨_, _, retOut X2 hx (t := (.object "java/util/Optional")) (i := .areturn) Bd.returns rfl (Or.inr (Or.inr (Or.inr (Or.inr ⟨rfl, rfl, rfl⟩)))) (hb hby own_d5_7) hr, hrun, hended, _, _, rfl, ?_, ⟨_, rfl⟩, hW, hsame.mono (by decide) (by decide)⟩
  show Q_own_ciR Z a sx h0 n0 _ T2.heap _
  exact ⟨q2, rfl, NA2, K2, gb_q2, sz_q2, P2_0, P2_1⟩
theorem own_d7_0 : decode jdk_32_method_6_code 0 = .ok (.aload_n 0, 1) := by decide +kernel
theorem own_d7_1 : decode jdk_32_method_6_code 1 = .ok (.getfield 13, 3) := by decide +kernel
theorem own_d7_4 : decode jdk_32_method_6_code 4 = .ok (.ifnull 7, 3) := by decide +kernel
theorem own_d7_7 : decode jdk_32_method_6_code 7 = .ok (.iconst 1, 1) := by decide +kernel
theorem own_d7_8 : decode jdk_32_method_6_code 8 = .ok (.goto 4, 3) := by decide +kernel
theorem own_d7_11 : decode jdk_32_method_6_code 11 = .ok (.iconst 0, 1) := by decide +kernel
theorem own_d7_12 : decode jdk_32_method_6_code 12 = .ok (.ireturn, 1) := by decide +kernel
theorem own_ef_own_ipR (m : MethodId) (x0 : Addr) : entryFrame m #[(.ref x0)] 1 = mkF m 0 #[.val (.ref x0)] [] := by first | (simp [entryFrame, mkF, argsToLocals, Value.category]; done) | rfl
def Q_own_ipR (Z : State) (a : Addr) (sx : Addr) (h0 : Heap) (n0 : Nat) (v : Option Value) (h : Heap) (L : List Loc) : Prop := v = some (.int (1 : Int32)) ∧ Fr n0 L ∧ h = h0
set_option maxRecDepth 65536 in
set_option maxHeartbeats 40000000 in
theorem own_ipR (l : Launch) (Z : State) (a0 : Array Value) (hw : ∀ d ∈ tables_1, d.before a0 Z = true) (ws : List Jvm.Cond) (a : Addr) (sx : Addr) (h0 : Heap) (n0 : Nat) (Z0 : n0 ≤ h0.size) (F_a_value : Fld Z h0 a "java/util/Optional" "value" "Ljava/lang/Object;" (.ref sx)) :
    MetFree l (⟨"java/util/Optional", "isPresent", "()Z"⟩ : MethodName) (head1 (Jvm.Cond.code (⟨"java/util/Optional", "isPresent", "()Z"⟩ : MethodName) jdk_32_method_6_code 1 (some .boolean) :: ws) ({ frames := 0, cells := 0, slots := 0, locals := 0 } : Room)) (fun as_ U => as_ = #[(.ref a)] ∧ Z.Warmed39 U.vm ∧ U.heap = h0) (fun _ _ _ _ _ => True) (fun _ U o U' => ∃ v L, o = .returned v ∧ Q_own_ipR Z a sx h0 n0 v U'.heap L ∧ FrameEnd U o U' L ({ frames := 0, cells := 0, slots := 0, locals := 0 } : Room).cells ({ frames := 0, cells := 0, slots := 0, locals := 0 } : Room).slots) := by
  refine MetFree.of_bodySF (plainFor_of_name own_pn15) hisR ?_
  intro p e s m args below meth c s₁ Bd hml0 hP hK
  obtain ⟨rfl, hZ, hh⟩ := hP
  have hx := Bd.exec
  have hby := Bd.bytes
  have hml : c.maxLocals = 1 := hml0
  have hown : s.vm.findClass "java/util/Optional" = some m.cls := findClass_of_methodNamed Bd.named
  have hnm := (name_of_methodNamed Bd.named Bd.method).1
  have X0 : Stand p l e ({ frames := 0, cells := 0, slots := 0, locals := 0 } : Room) s m #[(.ref a)] below meth c s₁ [] 0 0 := Stand.of_body Bd
  have e0 : s₁.heap = h0 := by rw [← hh, Bd.state]; rfl
  have N0 := Fr.nil n0
  have K0 := Keep.refl h0 []
  show Go p e below (own_F s below (Q_own_ipR Z a sx h0 n0) ({ frames := 0, cells := 0, slots := 0, locals := 0 } : Room).cells ({ frames := 0, cells := 0, slots := 0, locals := 0 } : Room).slots) (s₁.setTop (entryFrame m #[(.ref a)] 1))
  rw [own_ef_own_ipR m a]
  refine Go.back (t' := (s₁.setTop (mkF m 1 #[.val (.ref a)] [(.ref a)]))) (fun u k => XS.aloadN X0.here hx rfl (hb hby own_d7_0) rfl rfl k) ?_
  obtain ⟨T1, X1, e1, st1⟩ := getF X0 hx hZ hown (host := "") (Or.inl (hw _ (List.mem_of_getElem? (i := 49) rfl))) Via.refl e0 F_a_value (g := (mkF m 1 #[.val (.ref a)] [(.ref a)])) rfl rfl (hb hby own_d7_1)
  refine Go.back (t' := (T1.setTop (mkF m 4 #[.val (.ref a)] [(.ref sx)]))) st1 ?_
  refine Go.back (t' := (T1.setTop (mkF m 12 #[.val (.ref a)] [(.int (1 : Int32))]))) (fun u k => XS.ifnullNo X1.here hx rfl (hb hby own_d7_4) rfl (XT.iconstV X1.here hx rfl (1 : Int32) (hb hby own_d7_7) (by decide) (XS.goto X1.here hx rfl (pc0 := 8) (pc' := 12) rfl (hb hby own_d7_8) (by decide) (by decide) k))) ?_
  obtain ⟨fs, hr, hrun, hended, hW, hsame⟩ := X1.leave (v := some (.int (1 : Int32))) (fun h => by rw [Bd.returns] at h; cases h)
  refine ⟨_, _, retN X1 hx (t := .boolean) Bd.returns (by simp) (hb hby own_d7_12) hr, hrun, hended, _, _, rfl, ?_, ⟨_, rfl⟩, hW, hsame.mono (by decide) (by decide)⟩
  show Q_own_ipR Z a sx h0 n0 _ T1.heap _
  rw [e1]
  exact ⟨rfl, N0, rfl⟩
theorem own_d8_0 : decode prog_22_method_3_code 0 = .ok (.aload_n 0, 1) := by decide +kernel
theorem own_d8_1 : decode prog_22_method_3_code 1 = .ok (.getfield 13, 3) := by decide +kernel
theorem own_d8_4 : decode prog_22_method_3_code 4 = .ok (.areturn, 1) := by decide +kernel
theorem own_ef_own_hdR (m : MethodId) (x0 : Addr) : entryFrame m #[(.ref x0)] 1 = mkF m 0 #[.val (.ref x0)] [] := by first | (simp [entryFrame, mkF, argsToLocals, Value.category]; done) | rfl
def Q_own_hdR (Z : State) (a : Addr) (sx : Addr) (h0 : Heap) (n0 : Nat) (v : Option Value) (h : Heap) (L : List Loc) : Prop := v = some (.ref sx) ∧ Fr n0 L ∧ h = h0
set_option maxRecDepth 65536 in
set_option maxHeartbeats 40000000 in
theorem own_hdR (l : Launch) (Z : State) (a0 : Array Value) (hw : ∀ d ∈ tables_1, d.before a0 Z = true) (ws : List Jvm.Cond) (a : Addr) (sx : Addr) (h0 : Heap) (n0 : Nat) (Z0 : n0 ≤ h0.size) (F_a_headers : Fld Z h0 a "com/example/binfold/binfold/PackagePart" "headers" "Lcom/example/binfold/binfold/mime/Headers;" (.ref sx)) :
    MetFree l (⟨"com/example/binfold/binfold/PackagePart", "headers", "()Lcom/example/binfold/binfold/mime/Headers;"⟩ : MethodName) (head1 (Jvm.Cond.code (⟨"com/example/binfold/binfold/PackagePart", "headers", "()Lcom/example/binfold/binfold/mime/Headers;"⟩ : MethodName) prog_22_method_3_code 1 (some (.object "com/example/binfold/binfold/mime/Headers")) :: ws) ({ frames := 0, cells := 0, slots := 0, locals := 0 } : Room)) (fun as_ U => as_ = #[(.ref a)] ∧ Z.Warmed39 U.vm ∧ U.heap = h0) (fun _ _ _ _ _ => True) (fun _ U o U' => ∃ v L, o = .returned v ∧ Q_own_hdR Z a sx h0 n0 v U'.heap L ∧ FrameEnd U o U' L ({ frames := 0, cells := 0, slots := 0, locals := 0 } : Room).cells ({ frames := 0, cells := 0, slots := 0, locals := 0 } : Room).slots) := by
  refine MetFree.of_bodySF (plainFor_of_name own_pn14) hisR ?_
  intro p e s m args below meth c s₁ Bd hml0 hP hK
  obtain ⟨rfl, hZ, hh⟩ := hP
  have hx := Bd.exec
  have hby := Bd.bytes
  have hml : c.maxLocals = 1 := hml0
  have hown : s.vm.findClass "com/example/binfold/binfold/PackagePart" = some m.cls := findClass_of_methodNamed Bd.named
  have hnm := (name_of_methodNamed Bd.named Bd.method).1
  have X0 : Stand p l e ({ frames := 0, cells := 0, slots := 0, locals := 0 } : Room) s m #[(.ref a)] below meth c s₁ [] 0 0 := Stand.of_body Bd
  have e0 : s₁.heap = h0 := by rw [← hh, Bd.state]; rfl
  have N0 := Fr.nil n0
  have K0 := Keep.refl h0 []
  show Go p e below (own_F s below (Q_own_hdR Z a sx h0 n0) ({ frames := 0, cells := 0, slots := 0, locals := 0 } : Room).cells ({ frames := 0, cells := 0, slots := 0, locals := 0 } : Room).slots) (s₁.setTop (entryFrame m #[(.ref a)] 1))
  rw [own_ef_own_hdR m a]
  refine Go.back (t' := (s₁.setTop (mkF m 1 #[.val (.ref a)] [(.ref a)]))) (fun u k => XS.aloadN X0.here hx rfl (hb hby own_d8_0) rfl rfl k) ?_
  obtain ⟨T1, X1, e1, st1⟩ := getF X0 hx hZ hown (host := "") (Or.inl (hw _ (List.mem_of_getElem? (i := 30) rfl))) Via.refl e0 F_a_headers (g := (mkF m 1 #[.val (.ref a)] [(.ref a)])) rfl rfl (hb hby own_d8_1)
  refine Go.back (t' := (T1.setTop (mkF m 4 #[.val (.ref a)] [(.ref sx)]))) st1 ?_
  obtain ⟨fs, hr, hrun, hended, hW, hsame⟩ := X1.leave (v := some (.ref sx)) (fun h => by rw [Bd.returns] at h; cases h)
  refine ⟨_, _, retOut X1 hx (t := (.object "com/example/binfold/binfold/mime/Headers")) (i := .areturn) Bd.returns rfl (Or.inr (Or.inr (Or.inr (Or.inr ⟨rfl, rfl, rfl⟩)))) (hb hby own_d8_4) hr, hrun, hended, _, _, rfl, ?_, ⟨_, rfl⟩, hW, hsame.mono (by decide) (by decide)⟩
  show Q_own_hdR Z a sx h0 n0 _ T1.heap _
  rw [e1]
  exact ⟨rfl, N0, rfl⟩
theorem own_ef_own_ipN (m : MethodId) (x0 : Addr) : entryFrame m #[(.ref x0)] 1 = mkF m 0 #[.val (.ref x0)] [] := by first | (simp [entryFrame, mkF, argsToLocals, Value.category]; done) | rfl
def Q_own_ipN (Z : State) (a : Addr) (h0 : Heap) (n0 : Nat) (v : Option Value) (h : Heap) (L : List Loc) : Prop := v = some (.int (0 : Int32)) ∧ Fr n0 L ∧ h = h0
set_option maxRecDepth 65536 in
set_option maxHeartbeats 40000000 in
theorem own_ipN (l : Launch) (Z : State) (a0 : Array Value) (hw : ∀ d ∈ tables_1, d.before a0 Z = true) (ws : List Jvm.Cond) (a : Addr) (h0 : Heap) (n0 : Nat) (Z0 : n0 ≤ h0.size) (F_a_value : Fld Z h0 a "java/util/Optional" "value" "Ljava/lang/Object;" .null) :
    MetFree l (⟨"java/util/Optional", "isPresent", "()Z"⟩ : MethodName) (head1 (Jvm.Cond.code (⟨"java/util/Optional", "isPresent", "()Z"⟩ : MethodName) jdk_32_method_6_code 1 (some .boolean) :: ws) ({ frames := 0, cells := 0, slots := 0, locals := 0 } : Room)) (fun as_ U => as_ = #[(.ref a)] ∧ Z.Warmed39 U.vm ∧ U.heap = h0) (fun _ _ _ _ _ => True) (fun _ U o U' => ∃ v L, o = .returned v ∧ Q_own_ipN Z a h0 n0 v U'.heap L ∧ FrameEnd U o U' L ({ frames := 0, cells := 0, slots := 0, locals := 0 } : Room).cells ({ frames := 0, cells := 0, slots := 0, locals := 0 } : Room).slots) := by
  refine MetFree.of_bodySF (plainFor_of_name own_pn15) hisR ?_
  intro p e s m args below meth c s₁ Bd hml0 hP hK
  obtain ⟨rfl, hZ, hh⟩ := hP
  have hx := Bd.exec
  have hby := Bd.bytes
  have hml : c.maxLocals = 1 := hml0
  have hown : s.vm.findClass "java/util/Optional" = some m.cls := findClass_of_methodNamed Bd.named
  have hnm := (name_of_methodNamed Bd.named Bd.method).1
  have X0 : Stand p l e ({ frames := 0, cells := 0, slots := 0, locals := 0 } : Room) s m #[(.ref a)] below meth c s₁ [] 0 0 := Stand.of_body Bd
  have e0 : s₁.heap = h0 := by rw [← hh, Bd.state]; rfl
  have N0 := Fr.nil n0
  have K0 := Keep.refl h0 []
  show Go p e below (own_F s below (Q_own_ipN Z a h0 n0) ({ frames := 0, cells := 0, slots := 0, locals := 0 } : Room).cells ({ frames := 0, cells := 0, slots := 0, locals := 0 } : Room).slots) (s₁.setTop (entryFrame m #[(.ref a)] 1))
  rw [own_ef_own_ipN m a]
  refine Go.back (t' := (s₁.setTop (mkF m 1 #[.val (.ref a)] [(.ref a)]))) (fun u k => XS.aloadN X0.here hx rfl (hb hby own_d7_0) rfl rfl k) ?_
  obtain ⟨T1, X1, e1, st1⟩ := getF X0 hx hZ hown (host := "") (Or.inl (hw _ (List.mem_of_getElem? (i := 49) rfl))) Via.refl e0 F_a_value (g := (mkF m 1 #[.val (.ref a)] [(.ref a)])) rfl rfl (hb hby own_d7_1)
  refine Go.back (t' := (T1.setTop (mkF m 4 #[.val (.ref a)] [.null]))) st1 ?_
  refine Go.back (t' := (T1.setTop (mkF m 12 #[.val (.ref a)] [(.int (0 : Int32))]))) (fun u k => XS.ifnullYes X1.here hx rfl (pc0 := 4) (pc' := 11) rfl (hb hby own_d7_4) rfl (by decide) (by decide) (XT.iconstV X1.here hx rfl (0 : Int32) (hb hby own_d7_11) (by decide) k)) ?_
  obtain ⟨fs, hr, hrun, hended, hW, hsame⟩ := X1.leave (v := some (.int (0 : Int32))) (fun h => by rw [Bd.returns] at h; cases h)
  refine ⟨_, _, retN X1 hx (t := .boolean) Bd.returns (by simp) (hb hby own_d7_12) hr, hrun, hended, _, _, rfl, ?_, ⟨_, rfl⟩, hW, hsame.mono (by decide) (by decide)⟩
  show Q_own_ipN Z a h0 n0 _ T1.heap _
  rw [e1]
  exact ⟨rfl, N0, rfl⟩
theorem own_ef_own_hdN (m : MethodId) (x0 : Addr) : entryFrame m #[(.ref x0)] 1 = mkF m 0 #[.val (.ref x0)] [] := by first | (simp [entryFrame, mkF, argsToLocals, Value.category]; done) | rfl
def Q_own_hdN (Z : State) (a : Addr) (h0 : Heap) (n0 : Nat) (v : Option Value) (h : Heap) (L : List Loc) : Prop := v = some .null ∧ Fr n0 L ∧ h = h0
set_option maxRecDepth 65536 in
set_option maxHeartbeats 40000000 in
theorem own_hdN (l : Launch) (Z : State) (a0 : Array Value) (hw : ∀ d ∈ tables_1, d.before a0 Z = true) (ws : List Jvm.Cond) (a : Addr) (h0 : Heap) (n0 : Nat) (Z0 : n0 ≤ h0.size) (F_a_headers : Fld Z h0 a "com/example/binfold/binfold/PackagePart" "headers" "Lcom/example/binfold/binfold/mime/Headers;" .null) :
    MetFree l (⟨"com/example/binfold/binfold/PackagePart", "headers", "()Lcom/example/binfold/binfold/mime/Headers;"⟩ : MethodName) (head1 (Jvm.Cond.code (⟨"com/example/binfold/binfold/PackagePart", "headers", "()Lcom/example/binfold/binfold/mime/Headers;"⟩ : MethodName) prog_22_method_3_code 1 (some (.object "com/example/binfold/binfold/mime/Headers")) :: ws) ({ frames := 0, cells := 0, slots := 0, locals := 0 } : Room)) (fun as_ U => as_ = #[(.ref a)] ∧ Z.Warmed39 U.vm ∧ U.heap = h0) (fun _ _ _ _ _ => True) (fun _ U o U' => ∃ v L, o = .returned v ∧ Q_own_hdN Z a h0 n0 v U'.heap L ∧ FrameEnd U o U' L ({ frames := 0, cells := 0, slots := 0, locals := 0 } : Room).cells ({ frames := 0, cells := 0, slots := 0, locals := 0 } : Room).slots) := by
  refine MetFree.of_bodySF (plainFor_of_name own_pn14) hisR ?_
  intro p e s m args below meth c s₁ Bd hml0 hP hK
  obtain ⟨rfl, hZ, hh⟩ := hP
  have hx := Bd.exec
  have hby := Bd.bytes
  have hml : c.maxLocals = 1 := hml0
  have hown : s.vm.findClass "com/example/binfold/binfold/PackagePart" = some m.cls := findClass_of_methodNamed Bd.named
  have hnm := (name_of_methodNamed Bd.named Bd.method).1
  have X0 : Stand p l e ({ frames := 0, cells := 0, slots := 0, locals := 0 } : Room) s m #[(.ref a)] below meth c s₁ [] 0 0 := Stand.of_body Bd
  have e0 : s₁.heap = h0 := by rw [← hh, Bd.state]; rfl
  have N0 := Fr.nil n0
  have K0 := Keep.refl h0 []
  show Go p e below (own_F s below (Q_own_hdN Z a h0 n0) ({ frames := 0, cells := 0, slots := 0, locals := 0 } : Room).cells ({ frames := 0, cells := 0, slots := 0, locals := 0 } : Room).slots) (s₁.setTop (entryFrame m #[(.ref a)] 1))
  rw [own_ef_own_hdN m a]
  refine Go.back (t' := (s₁.setTop (mkF m 1 #[.val (.ref a)] [(.ref a)]))) (fun u k => XS.aloadN X0.here hx rfl (hb hby own_d8_0) rfl rfl k) ?_
  obtain ⟨T1, X1, e1, st1⟩ := getF X0 hx hZ hown (host := "") (Or.inl (hw _ (List.mem_of_getElem? (i := 30) rfl))) Via.refl e0 F_a_headers (g := (mkF m 1 #[.val (.ref a)] [(.ref a)])) rfl rfl (hb hby own_d8_1)
  refine Go.back (t' := (T1.setTop (mkF m 4 #[.val (.ref a)] [.null]))) st1 ?_
  obtain ⟨fs, hr, hrun, hended, hW, hsame⟩ := X1.leave (v := some .null) (fun h => by rw [Bd.returns] at h; cases h)
  refine ⟨_, _, retOut X1 hx (t := (.object "com/example/binfold/binfold/mime/Headers")) (i := .areturn) Bd.returns rfl (Or.inr (Or.inr (Or.inr (Or.inr ⟨rfl, rfl, rfl⟩)))) (hb hby own_d8_4) hr, hrun, hended, _, _, rfl, ?_, ⟨_, rfl⟩, hW, hsame.mono (by decide) (by decide)⟩
  show Q_own_hdN Z a h0 n0 _ T1.heap _
  rw [e1]
  exact ⟨rfl, N0, rfl⟩
theorem own_d30_0 : decode jdk_32_method_5_code 0 = .ok (.aload_n 0, 1) := by decide +kernel
theorem own_d30_1 : decode jdk_32_method_5_code 1 = .ok (.getfield 13, 3) := by decide +kernel
theorem own_d30_4 : decode jdk_32_method_5_code 4 = .ok (.ifnonnull 13, 3) := by decide +kernel
theorem own_d30_7 : decode jdk_32_method_5_code 7 = .ok (.new 26, 3) := by decide +kernel
theorem own_d30_10 : decode jdk_32_method_5_code 10 = .ok (.dup, 1) := by decide +kernel
theorem own_d30_11 : decode jdk_32_method_5_code 11 = .ok (.ldc 28, 2) := by decide +kernel
theorem own_d30_13 : decode jdk_32_method_5_code 13 = .ok (.invokespecial 30, 3) := by decide +kernel
theorem own_d30_16 : decode jdk_32_method_5_code 16 = .ok (.athrow, 1) := by decide +kernel
theorem own_d30_17 : decode jdk_32_method_5_code 17 = .ok (.aload_n 0, 1) := by decide +kernel
theorem own_d30_18 : decode jdk_32_method_5_code 18 = .ok (.getfield 13, 3) := by decide +kernel
theorem own_d30_21 : decode jdk_32_method_5_code 21 = .ok (.areturn, 1) := by decide +kernel
theorem own_ef_own_get (m : MethodId) (x0 : Addr) : entryFrame m #[(.ref x0)] 1 = mkF m 0 #[.val (.ref x0)] [] := by first | (simp [entryFrame, mkF, argsToLocals, Value.category]; done) | rfl
def Q_own_get (Z : State) (a : Addr) (sx : Addr) (h0 : Heap) (n0 : Nat) (v : Option Value) (h : Heap) (L : List Loc) : Prop := v = some (.ref sx) ∧ Fr n0 L ∧ h = h0
set_option maxRecDepth 65536 in
set_option maxHeartbeats 40000000 in
theorem own_get (l : Launch) (Z : State) (a0 : Array Value) (hw : ∀ d ∈ tables_1, d.before a0 Z = true) (ws : List Jvm.Cond) (a : Addr) (sx : Addr) (h0 : Heap) (n0 : Nat) (Z0 : n0 ≤ h0.size) (F_a_value : Fld Z h0 a "java/util/Optional" "value" "Ljava/lang/Object;" (.ref sx)) :
    MetFree l (⟨"java/util/Optional", "get", "()Ljava/lang/Object;"⟩ : MethodName) (head1 (Jvm.Cond.code (⟨"java/util/Optional", "get", "()Ljava/lang/Object;"⟩ : MethodName) jdk_32_method_5_code 1 (some (.object "java/lang/Object")) :: ws) ({ frames := 0, cells := 0, slots := 0, locals := 0 } : Room)) (fun as_ U => as_ = #[(.ref a)] ∧ Z.Warmed39 U.vm ∧ U.heap = h0) (fun _ _ _ _ _ => True) (fun _ U o U' => ∃ v L, o = .returned v ∧ Q_own_get Z a sx h0 n0 v U'.heap L ∧ FrameEnd U o U' L ({ frames := 0, cells := 0, slots := 0, locals := 0 } : Room).cells ({ frames := 0, cells := 0, slots := 0, locals := 0 } : Room).slots) := by
  refine MetFree.of_bodySF (plainFor_of_name own_pn15) hisR ?_
  intro p e s m args below meth c s₁ Bd hml0 hP hK
  obtain ⟨rfl, hZ, hh⟩ := hP
  have hx := Bd.exec
  have hby := Bd.bytes
  have hml : c.maxLocals = 1 := hml0
  have hown : s.vm.findClass "java/util/Optional" = some m.cls := findClass_of_methodNamed Bd.named
  have hnm := (name_of_methodNamed Bd.named Bd.method).1
  have X0 : Stand p l e ({ frames := 0, cells := 0, slots := 0, locals := 0 } : Room) s m #[(.ref a)] below meth c s₁ [] 0 0 := Stand.of_body Bd
  have e0 : s₁.heap = h0 := by rw [← hh, Bd.state]; rfl
  have N0 := Fr.nil n0
  have K0 := Keep.refl h0 []
  show Go p e below (own_F s below (Q_own_get Z a sx h0 n0) ({ frames := 0, cells := 0, slots := 0, locals := 0 } : Room).cells ({ frames := 0, cells := 0, slots := 0, locals := 0 } : Room).slots) (s₁.setTop (entryFrame m #[(.ref a)] 1))
  rw [own_ef_own_get m a]
  refine Go.back (t' := (s₁.setTop (mkF m 1 #[.val (.ref a)] [(.ref a)]))) (fun u k => XS.aloadN X0.here hx rfl (hb hby own_d30_0) rfl rfl k) ?_
  obtain ⟨T1, X1, e1, st1⟩ := getF X0 hx hZ hown (host := "") (Or.inl (hw _ (List.mem_of_getElem? (i := 49) rfl))) Via.refl e0 F_a_value (g := (mkF m 1 #[.val (.ref a)] [(.ref a)])) rfl rfl (hb hby own_d30_1)
  refine Go.back (t' := (T1.setTop (mkF m 4 #[.val (.ref a)] [(.ref sx)]))) st1 ?_
  refine Go.back (t' := (T1.setTop (mkF m 18 #[.val (.ref a)] [(.ref a)]))) (fun u k => XT.ifnonnullYes X1.here hx rfl (pc0 := 4) (pc' := 17) rfl (hb hby own_d30_4) rfl (by decide) (by decide) (XS.aloadN X1.here hx rfl (hb hby own_d30_17) rfl rfl k)) ?_
  obtain ⟨T2, X2, e2, st2⟩ := getF X1 hx hZ hown (host := "") (Or.inl (hw _ (List.mem_of_getElem? (i := 49) rfl))) Via.refl e1 F_a_value (g := (mkF m 18 #[.val (.ref a)] [(.ref a)])) rfl rfl (hb hby own_d30_18)
  refine Go.back (t' := (T2.setTop (mkF m 21 #[.val (.ref a)] [(.ref sx)]))) st2 ?_
  obtain ⟨fs, hr, hrun, hended, hW, hsame⟩ := X2.leave (v := some (.ref sx)) (fun h => by rw [Bd.returns] at h; cases h)
  refine ⟨_, _, retOut X2 hx (t := (.object "java/lang/Object")) (i := .areturn) Bd.returns rfl (Or.inr (Or.inr (Or.inr (Or.inr ⟨rfl, rfl, rfl⟩)))) (hb hby own_d30_21) hr, hrun, hended, _, _, rfl, ?_, ⟨_, rfl⟩, hW, hsame.mono (by decide) (by decide)⟩
  show Q_own_get Z a sx h0 n0 _ T2.heap _
  rw [e2]
  exact ⟨rfl, N0, rfl⟩
theorem own_pn16 : plainName "java/util/OptionalLong" = true := by first | (simp [plainName, overriddenIn]; done) | decide +kernel
theorem own_d10_0 : decode jdk_2650_method_2_code 0 = .ok (.getstatic 17, 3) := by decide +kernel
theorem own_d10_3 : decode jdk_2650_method_2_code 3 = .ok (.areturn, 1) := by decide +kernel
theorem own_ef_own_le (m : MethodId)  : entryFrame m #[] 0 = mkF m 0 #[] [] := by first | (simp [entryFrame, mkF, argsToLocals, Value.category]; done) | rfl
def Q_own_le (Z : State) (oL : Addr) (h0 : Heap) (n0 : Nat) (v : Option Value) (h : Heap) (L : List Loc) : Prop := v = some (.ref oL) ∧ Fr n0 L ∧ h = h0
set_option maxRecDepth 65536 in
set_option maxHeartbeats 40000000 in
theorem own_le (l : Launch) (Z : State) (a0 : Array Value) (hw : ∀ d ∈ tables_1, d.before a0 Z = true) (ws : List Jvm.Cond) (oL : Addr) (h0 : Heap) (n0 : Nat) (Z0 : n0 ≤ h0.size) (Old0 : Old Z n0 h0) (SL : Sta Z Z.heap "java/util/OptionalLong" "EMPTY" "Ljava/util/OptionalLong;" (.ref oL)) :
    MetFree l (⟨"java/util/OptionalLong", "empty", "()Ljava/util/OptionalLong;"⟩ : MethodName) (head1 (Jvm.Cond.code (⟨"java/util/OptionalLong", "empty", "()Ljava/util/OptionalLong;"⟩ : MethodName) jdk_2650_method_2_code 0 (some (.object "java/util/OptionalLong")) :: ws) ({ frames := 0, cells := 0, slots := 0, locals := 0 } : Room)) (fun as_ U => as_ = #[] ∧ Z.Warmed39 U.vm ∧ U.heap = h0) (fun _ _ _ _ _ => True) (fun _ U o U' => ∃ v L, o = .returned v ∧ Q_own_le Z oL h0 n0 v U'.heap L ∧ FrameEnd U o U' L ({ frames := 0, cells := 0, slots := 0, locals := 0 } : Room).cells ({ frames := 0, cells := 0, slots := 0, locals := 0 } : Room).slots) := by
  refine MetFree.of_bodySF (plainFor_of_name own_pn16) hisR ?_
  intro p e s m args below meth c s₁ Bd hml0 hP hK
  obtain ⟨rfl, hZ, hh⟩ := hP
  have hx := Bd.exec
  have hby := Bd.bytes
  have hml : c.maxLocals = 0 := hml0
  have hown : s.vm.findClass "java/util/OptionalLong" = some m.cls := findClass_of_methodNamed Bd.named
  have hnm := (name_of_methodNamed Bd.named Bd.method).1
  have X0 : Stand p l e ({ frames := 0, cells := 0, slots := 0, locals := 0 } : Room) s m #[] below meth c s₁ [] 0 0 := Stand.of_body Bd
  have e0 : s₁.heap = h0 := by rw [← hh, Bd.state]; rfl
  have N0 := Fr.nil n0
  have K0 := Keep.refl h0 []
  show Go p e below (own_F s below (Q_own_le Z oL h0 n0) ({ frames := 0, cells := 0, slots := 0, locals := 0 } : Room).cells ({ frames := 0, cells := 0, slots := 0, locals := 0 } : Room).slots) (s₁.setTop (entryFrame m #[] 0))
  rw [own_ef_own_le m ]
  obtain ⟨T1, X1, e1, st1⟩ := getS2 X0 hx hZ hown (host := "") (Or.inl (hw _ (List.mem_of_getElem? (i := 65) rfl))) Via.refl e0 (SL.ext Old0.2) (g := (mkF m 0 #[] [])) rfl (hb hby own_d10_0)
  refine Go.back (t' := (T1.setTop (mkF m 3 #[] [(.ref oL)]))) st1 ?_
  obtain ⟨fs, hr, hrun, hended, hW, hsame⟩ := X1.leave (v := some (.ref oL)) (fun h => by rw [Bd.returns] at h; cases h)
  refine ⟨_, _, retOut X1 hx (t := (.object "java/util/OptionalLong")) (i := .areturn) Bd.returns rfl (Or.inr (Or.inr (Or.inr (Or.inr ⟨rfl, rfl, rfl⟩)))) (hb hby own_d10_3) hr, hrun, hended, _, _, rfl, ?_, ⟨_, rfl⟩, hW, hsame.mono (by decide) (by decide)⟩
  show Q_own_le Z oL h0 n0 _ T1.heap _
  rw [e1]
  exact ⟨rfl, N0, rfl⟩
theorem own_pd14 : parseMethodDescriptor "()Ljava/util/OptionalLong;" = some ⟨[], some (.object "java/util/OptionalLong")⟩ := by decide +kernel
theorem own_d9_0 : decode prog_22_method_7_code 0 = .ok (.aload_n 0, 1) := by decide +kernel
theorem own_d9_1 : decode prog_22_method_7_code 1 = .ok (.getfield 17, 3) := by decide +kernel
theorem own_d9_4 : decode prog_22_method_7_code 4 = .ok (.lconst 0, 1) := by decide +kernel
theorem own_d9_5 : decode prog_22_method_7_code 5 = .ok (.lcmp, 1) := by decide +kernel
theorem own_d9_6 : decode prog_22_method_7_code 6 = .ok (.ifCond .ge 9, 3) := by decide +kernel
theorem own_d9_9 : decode prog_22_method_7_code 9 = .ok (.invokestatic 54, 3) := by decide +kernel
theorem own_d9_12 : decode prog_22_method_7_code 12 = .ok (.goto 10, 3) := by decide +kernel
theorem own_d9_15 : decode prog_22_method_7_code 15 = .ok (.aload_n 0, 1) := by decide +kernel
theorem own_d9_16 : decode prog_22_method_7_code 16 = .ok (.getfield 17, 3) := by decide +kernel
theorem own_d9_19 : decode prog_22_method_7_code 19 = .ok (.invokestatic 59, 3) := by decide +kernel
theorem own_d9_22 : decode prog_22_method_7_code 22 = .ok (.areturn, 1) := by decide +kernel
theorem own_ef_own_dl (m : MethodId) (x0 : Addr) : entryFrame m #[(.ref x0)] 1 = mkF m 0 #[.val (.ref x0)] [] := by first | (simp [entryFrame, mkF, argsToLocals, Value.category]; done) | rfl
def Q_own_dl (Z : State) (a : Addr) (oL : Addr) (h0 : Heap) (n0 : Nat) (v : Option Value) (h : Heap) (L : List Loc) : Prop := v = some (.ref oL) ∧ Fr n0 L ∧ h = h0
set_option maxRecDepth 65536 in
set_option maxHeartbeats 40000000 in
theorem own_dl (l : Launch) (Z : State) (a0 : Array Value) (hw : ∀ d ∈ tables_1, d.before a0 Z = true) (ws : List Jvm.Cond) (a : Addr) (oL : Addr) (h0 : Heap) (n0 : Nat) (Z0 : n0 ≤ h0.size) (F_a_decodedLength : Fld Z h0 a "com/example/binfold/binfold/PackagePart" "decodedLength" "J" (.long (-1 : Int64))) (Old0 : Old Z n0 h0) (SL : Sta Z Z.heap "java/util/OptionalLong" "EMPTY" "Ljava/util/OptionalLong;" (.ref oL)) :
    MetFree l (⟨"com/example/binfold/binfold/PackagePart", "decodedLength", "()Ljava/util/OptionalLong;"⟩ : MethodName) (head1 (Jvm.Cond.code (⟨"com/example/binfold/binfold/PackagePart", "decodedLength", "()Ljava/util/OptionalLong;"⟩ : MethodName) prog_22_method_7_code 1 (some (.object "java/util/OptionalLong")) :: ws) ({ frames := 1, cells := 0, slots := 0, locals := 11 } : Room)) (fun as_ U => as_ = #[(.ref a)] ∧ Z.Warmed39 U.vm ∧ U.heap = h0) (fun _ _ _ _ _ => True) (fun _ U o U' => ∃ v L, o = .returned v ∧ Q_own_dl Z a oL h0 n0 v U'.heap L ∧ FrameEnd U o U' L ({ frames := 1, cells := 0, slots := 0, locals := 11 } : Room).cells ({ frames := 1, cells := 0, slots := 0, locals := 11 } : Room).slots) := by
  refine MetFree.of_bodySF (plainFor_of_name own_pn14) hisR ?_
  intro p e s m args below meth c s₁ Bd hml0 hP hK
  obtain ⟨rfl, hZ, hh⟩ := hP
  have hx := Bd.exec
  have hby := Bd.bytes
  have hml : c.maxLocals = 1 := hml0
  have hown : s.vm.findClass "com/example/binfold/binfold/PackagePart" = some m.cls := findClass_of_methodNamed Bd.named
  have hnm := (name_of_methodNamed Bd.named Bd.method).1
  have X0 : Stand p l e ({ frames := 1, cells := 0, slots := 0, locals := 11 } : Room) s m #[(.ref a)] below meth c s₁ [] 0 0 := Stand.of_body Bd
  have e0 : s₁.heap = h0 := by rw [← hh, Bd.state]; rfl
  have N0 := Fr.nil n0
  have K0 := Keep.refl h0 []
  show Go p e below (own_F s below (Q_own_dl Z a oL h0 n0) ({ frames := 1, cells := 0, slots := 0, locals := 11 } : Room).cells ({ frames := 1, cells := 0, slots := 0, locals := 11 } : Room).slots) (s₁.setTop (entryFrame m #[(.ref a)] 1))
  rw [own_ef_own_dl m a]
  refine Go.back (t' := (s₁.setTop (mkF m 1 #[.val (.ref a)] [(.ref a)]))) (fun u k => XS.aloadN X0.here hx rfl (hb hby own_d9_0) rfl rfl k) ?_
  obtain ⟨T1, X1, e1, st1⟩ := getF X0 hx hZ hown (host := "") (Or.inl (hw _ (List.mem_of_getElem? (i := 32) rfl))) Via.refl e0 F_a_decodedLength (g := (mkF m 1 #[.val (.ref a)] [(.ref a)])) rfl rfl (hb hby own_d9_1)
  refine Go.back (t' := (T1.setTop (mkF m 4 #[.val (.ref a)] [(.long (-1 : Int64))]))) st1 ?_
  refine Go.back (t' := (T1.setTop (mkF m 9 #[.val (.ref a)] []))) (fun u k => XT.lconstV X1.here hx rfl (0 : Int64) (hb hby own_d9_4) (by decide) (XT.lcmp X1.here hx rfl (hb hby own_d9_5) rfl (XS.ifNo X1.here hx rfl (hb hby own_d9_6) rfl (XT.ll_ge_f (by decide)) k))) ?_
  obtain ⟨_, _, ⟨T2, L2, k2, n2⟩, -, X2, ⟨Lc2, hQ2, l2, y2, z2⟩, st2⟩ := Jvm.LawKit.callS X1 hx (y := (⟨"java/util/OptionalLong", "empty", "()Ljava/util/OptionalLong;"⟩ : MethodName)) hown (mvT hZ (hw _ (List.mem_of_getElem? (i := 61) rfl))) (mvT hZ (hw _ (List.mem_of_getElem? (i := 62) rfl))) (mvT hZ (hw _ (List.mem_of_getElem? (i := 63) rfl))) (mvT hZ (hw _ (List.mem_of_getElem? (i := 64) rfl))) (by decide) (backOf (W := 0) (own_le l Z a0 hw [] oL h0 n0 Z0 Old0 SL) hZ (hw _ (List.mem_of_getElem? (i := 64) rfl)) (hw _ (List.mem_of_getElem? (i := 63) rfl)) (by decide) (by decide)) (g := (mkF m 9 #[.val (.ref a)] [])) rfl (by rw [hml]; rfl) (argsL := []) (rest := []) (lenOf own_pd14 rfl) rfl (by show 2 * 0 + _ ≤ _; exact Nat.le_of_eq rfl) (hb hby own_d9_9) (fun _ _ => ⟨rfl, e1, (by decide : 0 + 0 ≤ _), (by decide : 0 + 0 ≤ _)⟩)
  dsimp only [Pt.U, Pt.locs, Pt.cells, Pt.slots] at X2 l2 y2 z2 st2 hQ2
  subst l2 y2 z2
  obtain ⟨rfl, N2, e2⟩ := hQ2
  have NA2 := Fr.app N0 N2
  refine Go.back (t' := (T2.setTop (mkF m 12 #[.val (.ref a)] [(.ref oL)]))) st2 ?_
  refine Go.back (t' := (T2.setTop (mkF m 22 #[.val (.ref a)] [(.ref oL)]))) (fun u k => XS.goto X2.here hx rfl (pc0 := 12) (pc' := 22) rfl (hb hby own_d9_12) (by decide) (by decide) k) ?_
  obtain ⟨fs, hr, hrun, hended, hW, hsame⟩ := X2.leave (v := some (.ref oL)) (fun h => by rw [Bd.returns] at h; cases h)
  refine ⟨_, _, retOut X2 hx (t := (.object "java/util/OptionalLong")) (i := .areturn) Bd.returns rfl (Or.inr (Or.inr (Or.inr (Or.inr ⟨rfl, rfl, rfl⟩)))) (hb hby own_d9_22) hr, hrun, hended, _, _, rfl, ?_, ⟨_, rfl⟩, hW, hsame.mono (by decide) (by decide)⟩
  show Q_own_dl Z a oL h0 n0 _ T2.heap _
  rw [e2]
  exact ⟨rfl, NA2, rfl⟩
theorem own_d11_0 : decode jdk_2650_method_6_code 0 = .ok (.aload_n 0, 1) := by decide +kernel
theorem own_d11_1 : decode jdk_2650_method_6_code 1 = .ok (.getfield 7, 3) := by decide +kernel
theorem own_d11_4 : decode jdk_2650_method_6_code 4 = .ok (.ireturn, 1) := by decide +kernel
theorem own_ef_own_lp (m : MethodId) (x0 : Addr) : entryFrame m #[(.ref x0)] 1 = mkF m 0 #[.val (.ref x0)] [] := by first | (simp [entryFrame, mkF, argsToLocals, Value.category]; done) | rfl
def Q_own_lp (Z : State) (a : Addr) (h0 : Heap) (n0 : Nat) (v : Option Value) (h : Heap) (L : List Loc) : Prop := v = some (.int (0 : Int32)) ∧ Fr n0 L ∧ h = h0
set_option maxRecDepth 65536 in
set_option maxHeartbeats 40000000 in
theorem own_lp (l : Launch) (Z : State) (a0 : Array Value) (hw : ∀ d ∈ tables_1, d.before a0 Z = true) (ws : List Jvm.Cond) (a : Addr) (h0 : Heap) (n0 : Nat) (Z0 : n0 ≤ h0.size) (F_a_isPresent : Fld Z h0 a "java/util/OptionalLong" "isPresent" "Z" (.int (0 : Int32))) :
    MetFree l (⟨"java/util/OptionalLong", "isPresent", "()Z"⟩ : MethodName) (head1 (Jvm.Cond.code (⟨"java/util/OptionalLong", "isPresent", "()Z"⟩ : MethodName) jdk_2650_method_6_code 1 (some .boolean) :: ws) ({ frames := 0, cells := 0, slots := 0, locals := 0 } : Room)) (fun as_ U => as_ = #[(.ref a)] ∧ Z.Warmed39 U.vm ∧ U.heap = h0) (fun _ _ _ _ _ => True) (fun _ U o U' => ∃ v L, o = .returned v ∧ Q_own_lp Z a h0 n0 v U'.heap L ∧ FrameEnd U o U' L ({ frames := 0, cells := 0, slots := 0, locals := 0 } : Room).cells ({ frames := 0, cells := 0, slots := 0, locals := 0 } : Room).slots) := by
  refine MetFree.of_bodySF (plainFor_of_name own_pn16) hisR ?_
  intro p e s m args below meth c s₁ Bd hml0 hP hK
  obtain ⟨rfl, hZ, hh⟩ := hP
  have hx := Bd.exec
  have hby := Bd.bytes
  have hml : c.maxLocals = 1 := hml0
  have hown : s.vm.findClass "java/util/OptionalLong" = some m.cls := findClass_of_methodNamed Bd.named
  have hnm := (name_of_methodNamed Bd.named Bd.method).1
  have X0 : Stand p l e ({ frames := 0, cells := 0, slots := 0, locals := 0 } : Room) s m #[(.ref a)] below meth c s₁ [] 0 0 := Stand.of_body Bd
  have e0 : s₁.heap = h0 := by rw [← hh, Bd.state]; rfl
  have N0 := Fr.nil n0
  have K0 := Keep.refl h0 []
  show Go p e below (own_F s below (Q_own_lp Z a h0 n0) ({ frames := 0, cells := 0, slots := 0, locals := 0 } : Room).cells ({ frames := 0, cells := 0, slots := 0, locals := 0 } : Room).slots) (s₁.setTop (entryFrame m #[(.ref a)] 1))
  rw [own_ef_own_lp m a]
  refine Go.back (t' := (s₁.setTop (mkF m 1 #[.val (.ref a)] [(.ref a)]))) (fun u k => XS.aloadN X0.here hx rfl (hb hby own_d11_0) rfl rfl k) ?_
  obtain ⟨T1, X1, e1, st1⟩ := getF X0 hx hZ hown (host := "") (Or.inl (hw _ (List.mem_of_getElem? (i := 71) rfl))) Via.refl e0 F_a_isPresent (g := (mkF m 1 #[.val (.ref a)] [(.ref a)])) rfl rfl (hb hby own_d11_1)
  refine Go.back (t' := (T1.setTop (mkF m 4 #[.val (.ref a)] [(.int (0 : Int32))]))) st1 ?_
  obtain ⟨fs, hr, hrun, hended, hW, hsame⟩ := X1.leave (v := some (.int (0 : Int32))) (fun h => by rw [Bd.returns] at h; cases h)
  refine ⟨_, _, retN X1 hx (t := .boolean) Bd.returns (by simp) (hb hby own_d11_4) hr, hrun, hended, _, _, rfl, ?_, ⟨_, rfl⟩, hW, hsame.mono (by decide) (by decide)⟩
  show Q_own_lp Z a h0 n0 _ T1.heap _
  rw [e1]
  exact ⟨rfl, N0, rfl⟩
theorem own_d31_0 : decode jdk_42_method_66_code 0 = .ok (.aload_n 0, 1) := by decide +kernel
theorem own_d31_1 : decode jdk_42_method_66_code 1 = .ok (.aload_n 1, 1) := by decide +kernel
theorem own_d31_2 : decode jdk_42_method_66_code 2 = .ok (.if_acmp .ne 5, 3) := by decide +kernel
theorem own_d31_5 : decode jdk_42_method_66_code 5 = .ok (.iconst 1, 1) := by decide +kernel
theorem own_d31_6 : decode jdk_42_method_66_code 6 = .ok (.ireturn, 1) := by decide +kernel
theorem own_d31_7 : decode jdk_42_method_66_code 7 = .ok (.aload_n 1, 1) := by decide +kernel
theorem own_d31_8 : decode jdk_42_method_66_code 8 = .ok (.instanceof 10, 3) := by decide +kernel
theorem own_d31_11 : decode jdk_42_method_66_code 11 = .ok (.ifCond .eq 43, 3) := by decide +kernel
theorem own_d31_14 : decode jdk_42_method_66_code 14 = .ok (.aload_n 1, 1) := by decide +kernel
theorem own_d31_15 : decode jdk_42_method_66_code 15 = .ok (.checkcast 10, 3) := by decide +kernel
theorem own_d31_18 : decode jdk_42_method_66_code 18 = .ok (.astore_n 2, 1) := by decide +kernel
theorem own_d31_19 : decode jdk_42_method_66_code 19 = .ok (.getstatic 38, 3) := by decide +kernel
theorem own_d31_22 : decode jdk_42_method_66_code 22 = .ok (.ifCond .eq 14, 3) := by decide +kernel
theorem own_d31_25 : decode jdk_42_method_66_code 25 = .ok (.aload_n 0, 1) := by decide +kernel
theorem own_d31_26 : decode jdk_42_method_66_code 26 = .ok (.getfield 15, 3) := by decide +kernel
theorem own_d31_29 : decode jdk_42_method_66_code 29 = .ok (.aload_n 2, 1) := by decide +kernel
theorem own_d31_30 : decode jdk_42_method_66_code 30 = .ok (.getfield 15, 3) := by decide +kernel
theorem own_d31_33 : decode jdk_42_method_66_code 33 = .ok (.if_icmp .ne 21, 3) := by decide +kernel
theorem own_d31_36 : decode jdk_42_method_66_code 36 = .ok (.aload_n 0, 1) := by decide +kernel
theorem own_d31_37 : decode jdk_42_method_66_code 37 = .ok (.getfield 9, 3) := by decide +kernel
theorem own_d31_40 : decode jdk_42_method_66_code 40 = .ok (.aload_n 2, 1) := by decide +kernel
theorem own_d31_41 : decode jdk_42_method_66_code 41 = .ok (.getfield 9, 3) := by decide +kernel
theorem own_d31_44 : decode jdk_42_method_66_code 44 = .ok (.invokestatic 541, 3) := by decide +kernel
theorem own_d31_47 : decode jdk_42_method_66_code 47 = .ok (.ifCond .eq 7, 3) := by decide +kernel
theorem own_d31_50 : decode jdk_42_method_66_code 50 = .ok (.iconst 1, 1) := by decide +kernel
theorem own_d31_51 : decode jdk_42_method_66_code 51 = .ok (.goto 4, 3) := by decide +kernel
theorem own_d31_54 : decode jdk_42_method_66_code 54 = .ok (.iconst 0, 1) := by decide +kernel
theorem own_d31_55 : decode jdk_42_method_66_code 55 = .ok (.ireturn, 1) := by decide +kernel
theorem own_ef_own_eq (m : MethodId) (x0 : Addr) (x1 : Addr) : entryFrame m #[(.ref x0), (.ref x1)] 3 = mkF m 0 #[.val (.ref x0), .val (.ref x1), .unset] [] := by first | (simp [entryFrame, mkF, argsToLocals, Value.category]; done) | rfl
def Q_own_eq (Z : State) (a : Addr) (h0 : Heap) (n0 : Nat) (v : Option Value) (h : Heap) (L : List Loc) : Prop := v = some (.int (1 : Int32)) ∧ Fr n0 L ∧ h = h0
set_option maxRecDepth 65536 in
set_option maxHeartbeats 40000000 in
theorem own_eq (l : Launch) (Z : State) (a0 : Array Value) (hw : ∀ d ∈ tables_1, d.before a0 Z = true) (ws : List Jvm.Cond) (a : Addr) (h0 : Heap) (n0 : Nat) (Z0 : n0 ≤ h0.size) :
    MetFree l (⟨"java/lang/String", "equals", "(Ljava/lang/Object;)Z"⟩ : MethodName) (head1 (Jvm.Cond.code (⟨"java/lang/String", "equals", "(Ljava/lang/Object;)Z"⟩ : MethodName) jdk_42_method_66_code 3 (some .boolean) :: ws) ({ frames := 0, cells := 0, slots := 0, locals := 0 } : Room)) (fun as_ U => as_ = #[(.ref a), (.ref a)] ∧ Z.Warmed39 U.vm ∧ U.heap = h0) (fun _ _ _ _ _ => True) (fun _ U o U' => ∃ v L, o = .returned v ∧ Q_own_eq Z a h0 n0 v U'.heap L ∧ FrameEnd U o U' L ({ frames := 0, cells := 0, slots := 0, locals := 0 } : Room).cells ({ frames := 0, cells := 0, slots := 0, locals := 0 } : Room).slots) := by
  refine MetFree.of_bodySF (plainFor_of_name own_pn0) hisR ?_
  intro p e s m args below meth c s₁ Bd hml0 hP hK
  obtain ⟨rfl, hZ, hh⟩ := hP
  have hx := Bd.exec
  have hby := Bd.bytes
  have hml : c.maxLocals = 3 := hml0
  have hown : s.vm.findClass "java/lang/String" = some m.cls := findClass_of_methodNamed Bd.named
  have hnm := (name_of_methodNamed Bd.named Bd.method).1
  have X0 : Stand p l e ({ frames := 0, cells := 0, slots := 0, locals := 0 } : Room) s m #[(.ref a), (.ref a)] below meth c s₁ [] 0 0 := Stand.of_body Bd
  have e0 : s₁.heap = h0 := by rw [← hh, Bd.state]; rfl
  have N0 := Fr.nil n0
  have K0 := Keep.refl h0 []
  show Go p e below (own_F s below (Q_own_eq Z a h0 n0) ({ frames := 0, cells := 0, slots := 0, locals := 0 } : Room).cells ({ frames := 0, cells := 0, slots := 0, locals := 0 } : Room).slots) (s₁.setTop (entryFrame m #[(.ref a), (.ref a)] 3))
  rw [own_ef_own_eq m a a]
  refine Go.back (t' := (s₁.setTop (mkF m 6 #[.val (.ref a), .val (.ref a), .unset] [(.int (1 : Int32))]))) (fun u k => XS.aloadN X0.here hx rfl (hb hby own_d31_0) rfl rfl (XS.aloadN X0.here hx rfl (hb hby own_d31_1) rfl rfl (XT.acmpNo X0.here hx rfl (hb hby own_d31_2) rfl rfl rfl (XT.aa_ne_f rfl) (XT.iconstV X0.here hx rfl (1 : Int32) (hb hby own_d31_5) (by decide) k)))) ?_
  obtain ⟨fs, hr, hrun, hended, hW, hsame⟩ := X0.leave (v := some (.int (1 : Int32))) (fun h => by rw [Bd.returns] at h; cases h)
  refine ⟨_, _, retN X0 hx (t := .boolean) Bd.returns (by simp) (hb hby own_d31_6) hr, hrun, hended, _, _, rfl, ?_, ⟨_, rfl⟩, hW, hsame.mono (by decide) (by decide)⟩
  show Q_own_eq Z a h0 n0 _ s₁.heap _
  rw [e0]
  exact ⟨rfl, N0, rfl⟩
theorem own_pd15 : parseMethodDescriptor "(Ljava/lang/String;Lcom/example/binfold/binfold/mime/Headers;)V" = some ⟨[(.object "java/lang/String"), (.object "com/example/binfold/binfold/mime/Headers")], none⟩ := by decide +kernel
theorem own_pd16 : parseMethodDescriptor "()Lcom/example/binfold/binfold/PackagePart;" = some ⟨[], some (.object "com/example/binfold/binfold/PackagePart")⟩ := by decide +kernel
theorem own_pd17 : parseMethodDescriptor "()Ljava/util/Optional;" = some ⟨[], some (.object "java/util/Optional")⟩ := by decide +kernel
theorem own_pd18 : parseMethodDescriptor "()Z" = some ⟨[], some .boolean⟩ := by decide +kernel
theorem own_pd19 : parseMethodDescriptor "()Lcom/example/binfold/binfold/mime/Headers;" = some ⟨[], some (.object "com/example/binfold/binfold/mime/Headers")⟩ := by decide +kernel
theorem own_pd20 : parseMethodDescriptor "(IIII)Ljava/lang/String;" = some ⟨[.int, .int, .int, .int], some (.object "java/lang/String")⟩ := by decide +kernel
theorem own_pd21 : parseMethodDescriptor "()Ljava/lang/Object;" = some ⟨[], some (.object "java/lang/Object")⟩ := by decide +kernel
theorem own_pd22 : parseMethodDescriptor "(Ljava/lang/Object;)Z" = some ⟨[(.object "java/lang/Object")], some .boolean⟩ := by decide +kernel
theorem own_ef_own_law0 (m : MethodId) (x0 : Int32) (x1 : Int32) (x2 : Int32) (x3 : Int32) (x4 : Int32) : entryFrame m #[(.int x0), (.int x1), (.int x2), (.int x3), (.int x4)] maxLocals = mkF m 0 #[.val (.int x0), .val (.int x1), .val (.int x2), .val (.int x3), .val (.int x4), .unset, .unset, .unset, .unset, .unset, .unset, .unset, .unset, .unset] [] := by first | (simp [entryFrame, mkF, argsToLocals, Value.category, maxLocals]; done) | rfl
def Q_own_law0 (Z : State) (p0 : Int32) (p1 : Int32) (p2 : Int32) (p3 : Int32) (p4 : Int32) (gC : Int32) (oE : Addr) (oL : Addr) (eL : Addr) (eA : Addr) (ka : ClassId) (wD : Addr) (mO : Addr) (mA : Addr) (mL : Addr) (mR : Addr) (h0 : Heap) (n0 : Nat) (v : Option Value) (h : Heap) (L : List Loc) : Prop := v = some (.int 1) ∧ Fr n0 L ∧ Keep h0 h []
set_option maxRecDepth 65536 in
set_option maxHeartbeats 40000000 in
theorem own_law0 (l : Launch) (Z : State) (a0 : Array Value) (hw : ∀ d ∈ tables_1, d.before a0 Z = true) (ws : List Jvm.Cond) (p0 : Int32) (p1 : Int32) (p2 : Int32) (p3 : Int32) (p4 : Int32) (gC : Int32) (oE : Addr) (oL : Addr) (eL : Addr) (eA : Addr) (ka : ClassId) (wD : Addr) (mO : Addr) (mA : Addr) (mL : Addr) (mR : Addr) (h0 : Heap) (n0 : Nat) (Z0 : n0 ≤ h0.size) (Old0 : Old Z n0 h0) (SCS : Sta Z Z.heap "java/lang/String" "COMPACT_STRINGS" "Z" (.int gC)) (P5 : ¬ gC = 0) (SEL : Sta Z Z.heap "java/util/ImmutableCollections" "EMPTY_LIST" "Ljava/util/ImmutableCollections$ListN;" (.ref eL)) (E_eL : Exa Z h0 eL "java/util/ImmutableCollections$ListN") (F_eL_elements : Fld Z h0 eL "java/util/ImmutableCollections$ListN" "elements" "[Ljava/lang/Object;" (.ref eA)) (E_eA : Exa Z h0 eA "[Ljava/lang/Object;") (V_eA : Arv Z h0 eA ka (.object "java/lang/Object") (0 : Int32) [] .null) (M_mO : Mir Z "[Ljava/lang/Object;" mO) (M_mA : Mir Z "java/util/ArrayList" mA) (M_mL : Mir Z "java/util/Collections$UnmodifiableList" mL) (M_mR : Mir Z "java/util/Collections$UnmodifiableRandomAccessList" mR) (SED : Sta Z Z.heap "java/util/ArrayList" "EMPTY_ELEMENTDATA" "[Ljava/lang/Object;" (.ref wD)) (SO : Sta Z Z.heap "java/util/Optional" "EMPTY" "Ljava/util/Optional;" (.ref oE)) (E_oE : Exa Z h0 oE "java/util/Optional") (F_oE_value : Fld Z h0 oE "java/util/Optional" "value" "Ljava/lang/Object;" .null) (SL : Sta Z Z.heap "java/util/OptionalLong" "EMPTY" "Ljava/util/OptionalLong;" (.ref oL)) (E_oL : Exa Z h0 oL "java/util/OptionalLong") (F_oL_isPresent : Fld Z h0 oL "java/util/OptionalLong" "isPresent" "Z" (.int (0 : Int32))) :
    MetFree l x (head1 (Jvm.Cond.code x code maxLocals ret :: ws) room_1) (fun as_ U => as_ = #[(.int p0), (.int p1), (.int p2), (.int p3), (.int p4)] ∧ Z.Warmed39 U.vm ∧ U.heap = h0 ∧ CHv Z own_EL U.vm h0) (fun _ _ _ _ _ => True) (fun _ U o U' => ∃ v L, o = .returned v ∧ Q_own_law0 Z p0 p1 p2 p3 p4 gC oE oL eL eA ka wD mO mA mL mR h0 n0 v U'.heap L ∧ ReturnedEndW U o U' L 32 1152) := by
  refine MetFree.of_bodySF (plainFor_of_name own_pn1) hisR ?_
  intro p e s m args below meth c s₁ Bd hml0 hP hK
  obtain ⟨rfl, hZ, hh, hCH⟩ := hP
  have R0 := CHr.refl hCH
  have hEL : EW Z a0 own_EL := own_hEL hw
  have hx := Bd.exec
  have hby := Bd.bytes
  have hml : c.maxLocals = 14 := hml0
  have hown : s.vm.findClass "com/example/binfold/binfold/PartDescriptionPinLaw" = some m.cls := findClass_of_methodNamed Bd.named
  have hnm := (name_of_methodNamed Bd.named Bd.method).1
  have X0 : Stand p l e room_1 s m #[(.int p0), (.int p1), (.int p2), (.int p3), (.int p4)] below meth c s₁ [] 0 0 := Stand.of_body Bd
  have e0 : s₁.heap = h0 := by rw [← hh, Bd.state]; rfl
  have N0 := Fr.nil n0
  have K0 := Keep.refl h0 []
  have hS0 : s.Since s.vm s.heap.size := (State.WarmedH.refl s).since _
  have hk0 : s.heap.size ≤ h0.size := by rw [hh]; exact Nat.le_refl _
  show Go p e below (own_FW s below (Q_own_law0 Z p0 p1 p2 p3 p4 gC oE oL eL eA ka wD mO mA mL mR h0 n0) 32 1152) (s₁.setTop (entryFrame m #[(.int p0), (.int p1), (.int p2), (.int p3), (.int p4)] maxLocals))
  rw [own_ef_own_law0 m p0 p1 p2 p3 p4]
  have sg1 : ∀ u, Steps p.tables e below (s₁.setTop (mkF m 11 #[.val (.int p0), .val (.int p1), .val (.int p2), .val (.int p3), .val (.int p4), .unset, .unset, .unset, .unset, .unset, .unset, .unset, .unset, .unset] [(.int (if (p0 &&& (1 : Int32)) = (0 : Int32) then (0 : Int32) else (1 : Int32)))])) u → Steps p.tables e below (s₁.setTop (mkF m 0 #[.val (.int p0), .val (.int p1), .val (.int p2), .val (.int p3), .val (.int p4), .unset, .unset, .unset, .unset, .unset, .unset, .unset, .unset, .unset] [])) u := by
    intro u k
    refine XS.iloadN X0.here hx rfl (hb hby at_0) rfl ?_
    show Steps p.tables e below (s₁.setTop (mkF m 1 #[.val (.int p0), .val (.int p1), .val (.int p2), .val (.int p3), .val (.int p4), .unset, .unset, .unset, .unset, .unset, .unset, .unset, .unset, .unset] [(.int p0)])) u
    refine XT.iconstV X0.here hx rfl (1 : Int32) (hb hby at_1) (by decide) ?_
    show Steps p.tables e below (s₁.setTop (mkF m 2 #[.val (.int p0), .val (.int p1), .val (.int p2), .val (.int p3), .val (.int p4), .unset, .unset, .unset, .unset, .unset, .unset, .unset, .unset, .unset] [(.int (1 : Int32)), (.int p0)])) u
    refine XS.iand X0.here hx rfl (hb hby at_2) rfl ?_
    show Steps p.tables e below (s₁.setTop (mkF m 3 #[.val (.int p0), .val (.int p1), .val (.int p2), .val (.int p3), .val (.int p4), .unset, .unset, .unset, .unset, .unset, .unset, .unset, .unset, .unset] [(.int (p0 &&& (1 : Int32)))])) u
    by_cases hc2 : (p0 &&& (1 : Int32)) = (0 : Int32)
    · skip
      refine XS.ifYes X0.here hx rfl (pc0 := 3) (pc' := 10) rfl (hb hby at_3) rfl (XT.i0_eq_t hc2) (by decide) (by decide) ?_
      show Steps p.tables e below (s₁.setTop (mkF m 10 #[.val (.int p0), .val (.int p1), .val (.int p2), .val (.int p3), .val (.int p4), .unset, .unset, .unset, .unset, .unset, .unset, .unset, .unset, .unset] [])) u
      refine XT.iconstV X0.here hx rfl (0 : Int32) (hb hby at_10) (by decide) ?_
      show Steps p.tables e below (s₁.setTop (mkF m 11 #[.val (.int p0), .val (.int p1), .val (.int p2), .val (.int p3), .val (.int p4), .unset, .unset, .unset, .unset, .unset, .unset, .unset, .unset, .unset] [(.int (0 : Int32))])) u
      try simp only [if_pos hc2] at k
      exact k
    · skip
      refine XS.ifNo X0.here hx rfl (hb hby at_3) rfl (XT.i0_eq_f hc2) ?_
      show Steps p.tables e below (s₁.setTop (mkF m 6 #[.val (.int p0), .val (.int p1), .val (.int p2), .val (.int p3), .val (.int p4), .unset, .unset, .unset, .unset, .unset, .unset, .unset, .unset, .unset] [])) u
      refine XT.iconstV X0.here hx rfl (1 : Int32) (hb hby at_6) (by decide) ?_
      show Steps p.tables e below (s₁.setTop (mkF m 7 #[.val (.int p0), .val (.int p1), .val (.int p2), .val (.int p3), .val (.int p4), .unset, .unset, .unset, .unset, .unset, .unset, .unset, .unset, .unset] [(.int (1 : Int32))])) u
      refine XS.goto X0.here hx rfl (pc0 := 7) (pc' := 11) rfl (hb hby at_7) (by decide) (by decide) ?_
      show Steps p.tables e below (s₁.setTop (mkF m 11 #[.val (.int p0), .val (.int p1), .val (.int p2), .val (.int p3), .val (.int p4), .unset, .unset, .unset, .unset, .unset, .unset, .unset, .unset, .unset] [(.int (1 : Int32))])) u
      try simp only [if_neg hc2] at k
      exact k
  refine Go.back (t' := (s₁.setTop (mkF m 11 #[.val (.int p0), .val (.int p1), .val (.int p2), .val (.int p3), .val (.int p4), .unset, .unset, .unset, .unset, .unset, .unset, .unset, .unset, .unset] [(.int (if (p0 &&& (1 : Int32)) = (0 : Int32) then (0 : Int32) else (1 : Int32)))]))) sg1 ?_
  obtain ⟨zI, h_zI⟩ : ∃ z : Int32, z = (if (p0 &&& (1 : Int32)) = (0 : Int32) then (0 : Int32) else (1 : Int32)) := ⟨_, rfl⟩
  rw [← h_zI]
  have bit_zI : zI = 0 ∨ zI = 1 := by rw [h_zI]; repeat (split <;> try simp)
  refine Go.back (t' := (s₁.setTop (mkF m 13 #[.val (.int p0), .val (.int p1), .val (.int p2), .val (.int p3), .val (.int p4), .val (.int zI), .unset, .unset, .unset, .unset, .unset, .unset, .unset, .unset] []))) (fun u k => XS.istore X0.here hx rfl (hb hby at_11) rfl (l' := #[.val (.int p0), .val (.int p1), .val (.int p2), .val (.int p3), .val (.int p4), .val (.int zI), .unset, .unset, .unset, .unset, .unset, .unset, .unset, .unset]) rfl k) ?_
  have sg3 : ∀ u, Steps p.tables e below (s₁.setTop (mkF m 24 #[.val (.int p0), .val (.int p1), .val (.int p2), .val (.int p3), .val (.int p4), .val (.int zI), .unset, .unset, .unset, .unset, .unset, .unset, .unset, .unset] [(.int (if (p0 &&& (2 : Int32)) = (0 : Int32) then (0 : Int32) else (1 : Int32)))])) u → Steps p.tables e below (s₁.setTop (mkF m 13 #[.val (.int p0), .val (.int p1), .val (.int p2), .val (.int p3), .val (.int p4), .val (.int zI), .unset, .unset, .unset, .unset, .unset, .unset, .unset, .unset] [])) u := by
    intro u k
    refine XS.iloadN X0.here hx rfl (hb hby at_13) rfl ?_
    show Steps p.tables e below (s₁.setTop (mkF m 14 #[.val (.int p0), .val (.int p1), .val (.int p2), .val (.int p3), .val (.int p4), .val (.int zI), .unset, .unset, .unset, .unset, .unset, .unset, .unset, .unset] [(.int p0)])) u
    refine XT.iconstV X0.here hx rfl (2 : Int32) (hb hby at_14) (by decide) ?_
    show Steps p.tables e below (s₁.setTop (mkF m 15 #[.val (.int p0), .val (.int p1), .val (.int p2), .val (.int p3), .val (.int p4), .val (.int zI), .unset, .unset, .unset, .unset, .unset, .unset, .unset, .unset] [(.int (2 : Int32)), (.int p0)])) u
    refine XS.iand X0.here hx rfl (hb hby at_15) rfl ?_
    show Steps p.tables e below (s₁.setTop (mkF m 16 #[.val (.int p0), .val (.int p1), .val (.int p2), .val (.int p3), .val (.int p4), .val (.int zI), .unset, .unset, .unset, .unset, .unset, .unset, .unset, .unset] [(.int (p0 &&& (2 : Int32)))])) u
    by_cases hc4 : (p0 &&& (2 : Int32)) = (0 : Int32)
    · skip
      refine XS.ifYes X0.here hx rfl (pc0 := 16) (pc' := 23) rfl (hb hby at_16) rfl (XT.i0_eq_t hc4) (by decide) (by decide) ?_
      show Steps p.tables e below (s₁.setTop (mkF m 23 #[.val (.int p0), .val (.int p1), .val (.int p2), .val (.int p3), .val (.int p4), .val (.int zI), .unset, .unset, .unset, .unset, .unset, .unset, .unset, .unset] [])) u
      refine XT.iconstV X0.here hx rfl (0 : Int32) (hb hby at_23) (by decide) ?_
      show Steps p.tables e below (s₁.setTop (mkF m 24 #[.val (.int p0), .val (.int p1), .val (.int p2), .val (.int p3), .val (.int p4), .val (.int zI), .unset, .unset, .unset, .unset, .unset, .unset, .unset, .unset] [(.int (0 : Int32))])) u
      try simp only [if_pos hc4] at k
      exact k
    · skip
      refine XS.ifNo X0.here hx rfl (hb hby at_16) rfl (XT.i0_eq_f hc4) ?_
      show Steps p.tables e below (s₁.setTop (mkF m 19 #[.val (.int p0), .val (.int p1), .val (.int p2), .val (.int p3), .val (.int p4), .val (.int zI), .unset, .unset, .unset, .unset, .unset, .unset, .unset, .unset] [])) u
      refine XT.iconstV X0.here hx rfl (1 : Int32) (hb hby at_19) (by decide) ?_
      show Steps p.tables e below (s₁.setTop (mkF m 20 #[.val (.int p0), .val (.int p1), .val (.int p2), .val (.int p3), .val (.int p4), .val (.int zI), .unset, .unset, .unset, .unset, .unset, .unset, .unset, .unset] [(.int (1 : Int32))])) u
      refine XS.goto X0.here hx rfl (pc0 := 20) (pc' := 24) rfl (hb hby at_20) (by decide) (by decide) ?_
      show Steps p.tables e below (s₁.setTop (mkF m 24 #[.val (.int p0), .val (.int p1), .val (.int p2), .val (.int p3), .val (.int p4), .val (.int zI), .unset, .unset, .unset, .unset, .unset, .unset, .unset, .unset] [(.int (1 : Int32))])) u
      try simp only [if_neg hc4] at k
      exact k
  refine Go.back (t' := (s₁.setTop (mkF m 24 #[.val (.int p0), .val (.int p1), .val (.int p2), .val (.int p3), .val (.int p4), .val (.int zI), .unset, .unset, .unset, .unset, .unset, .unset, .unset, .unset] [(.int (if (p0 &&& (2 : Int32)) = (0 : Int32) then (0 : Int32) else (1 : Int32)))]))) sg3 ?_
  obtain ⟨zH, h_zH⟩ : ∃ z : Int32, z = (if (p0 &&& (2 : Int32)) = (0 : Int32) then (0 : Int32) else (1 : Int32)) := ⟨_, rfl⟩
  rw [← h_zH]
  have bit_zH : zH = 0 ∨ zH = 1 := by rw [h_zH]; repeat (split <;> try simp)
  refine Go.back (t' := (s₁.setTop (mkF m 28 #[.val (.int p0), .val (.int p1), .val (.int p2), .val (.int p3), .val (.int p4), .val (.int zI), .val (.int zH), .unset, .unset, .unset, .unset, .unset, .unset, .unset] [(.int zI)]))) (fun u k => XS.istore X0.here hx rfl (hb hby at_24) rfl (l' := #[.val (.int p0), .val (.int p1), .val (.int p2), .val (.int p3), .val (.int p4), .val (.int zI), .val (.int zH), .unset, .unset, .unset, .unset, .unset, .unset, .unset]) rfl (XS.iload X0.here hx rfl (hb hby at_26) rfl k)) ?_
  by_cases hc5 : zI = (0 : Int32)
  · skip
    refine Go.back (t' := (s₁.setTop (mkF m 49 #[.val (.int p0), .val (.int p1), .val (.int p2), .val (.int p3), .val (.int p4), .val (.int zI), .val (.int zH), .val .null, .unset, .unset, .unset, .unset, .unset, .unset] [(.int zH)]))) (fun u k => XS.ifYes X0.here hx rfl (pc0 := 28) (pc' := 44) rfl (hb hby at_28) rfl (XT.i0_eq_t hc5) (by decide) (by decide) (XS.aconstNull X0.here hx rfl (hb hby at_44) (XS.astore X0.here hx rfl (hb hby at_45) rfl rfl (l' := #[.val (.int p0), .val (.int p1), .val (.int p2), .val (.int p3), .val (.int p4), .val (.int zI), .val (.int zH), .val .null, .unset, .unset, .unset, .unset, .unset, .unset]) rfl (XS.iload X0.here hx rfl (hb hby at_47) rfl k)))) ?_
    by_cases hc6 : zH = (0 : Int32)
    · skip
      refine Go.back (t' := (s₁.setTop (mkF m 65 #[.val (.int p0), .val (.int p1), .val (.int p2), .val (.int p3), .val (.int p4), .val (.int zI), .val (.int zH), .val .null, .val .null, .unset, .unset, .unset, .unset, .unset] []))) (fun u k => XS.ifYes X0.here hx rfl (pc0 := 49) (pc' := 62) rfl (hb hby at_49) rfl (XT.i0_eq_t hc6) (by decide) (by decide) (XS.aconstNull X0.here hx rfl (hb hby at_62) (XS.astore X0.here hx rfl (hb hby at_63) rfl rfl (l' := #[.val (.int p0), .val (.int p1), .val (.int p2), .val (.int p3), .val (.int p4), .val (.int zI), .val (.int zH), .val .null, .val .null, .unset, .unset, .unset, .unset, .unset]) rfl k))) ?_
      obtain ⟨T7, h7, X7, e7, E7, A7, D7, -, st7⟩ := newO X0 hx hZ hown (hw _ (List.mem_of_getElem? (i := 0) rfl)) (hw _ (List.mem_of_getElem? (i := 1) rfl)) (hw _ (List.mem_of_getElem? (i := 2) rfl)) e0 (g := (mkF m 65 #[.val (.int p0), .val (.int p1), .val (.int p2), .val (.int p3), .val (.int p4), .val (.int zI), .val (.int zH), .val .null, .val .null, .unset, .unset, .unset, .unset, .unset] [])) rfl (hb hby at_65) (by decide) (by decide)
      obtain ⟨b7, g7⟩ : ∃ z, z = h0.size := ⟨_, rfl⟩
      rw [← g7] at A7 D7 st7
      have ne_eL_b7 : eL ≠ b7 := Nat.ne_of_lt (Nat.lt_of_lt_of_le E_eL.lt (Nat.le_of_eq g7.symm))
      have ne_eA_b7 : eA ≠ b7 := Nat.ne_of_lt (Nat.lt_of_lt_of_le E_eA.lt (Nat.le_of_eq g7.symm))
      have ne_oE_b7 : oE ≠ b7 := Nat.ne_of_lt (Nat.lt_of_lt_of_le E_oE.lt (Nat.le_of_eq g7.symm))
      have ne_oL_b7 : oL ≠ b7 := Nat.ne_of_lt (Nat.lt_of_lt_of_le E_oL.lt (Nat.le_of_eq g7.symm))
      have gb7 : n0 ≤ b7 := Nat.le_trans Z0 (Nat.le_of_eq g7.symm)
      have sz7 : h0.size ≤ b7 := Nat.le_trans K0.1 (Nat.le_of_eq g7.symm)
      have Z7 : n0 ≤ h7.size := Nat.le_trans Z0 E7.1
      have K7 := K0.ext E7
      have O7 := Old0.ext E7
      have hk7 := Nat.le_trans hk0 E7.1
      have Sf7_b7 := Safe.ext E7 R0.1 (Safe.new (Nat.le_of_eq g7.symm))
      have R7 := R0.trans (CHr.ext E7 R0.1)
      refine Go.back (t' := (T7.setTop (mkF m 68 #[.val (.int p0), .val (.int p1), .val (.int p2), .val (.int p3), .val (.int p4), .val (.int zI), .val (.int zH), .val .null, .val .null, .unset, .unset, .unset, .unset, .unset] [(.ref b7)]))) st7 ?_
      refine Go.back (t' := (T7.setTop (mkF m 73 #[.val (.int p0), .val (.int p1), .val (.int p2), .val (.int p3), .val (.int p4), .val (.int zI), .val (.int zH), .val .null, .val .null, .unset, .unset, .unset, .unset, .unset] [.null, .null, (.ref b7), (.ref b7)]))) (fun u k => XS.dup X7.here hx rfl (hb hby at_68) rfl rfl (XS.aload X7.here hx rfl (hb hby at_69) rfl rfl (XS.aload X7.here hx rfl (hb hby at_71) rfl rfl k))) ?_
      obtain ⟨_, _, ⟨T8, L8, k8, n8⟩, -, X8, ⟨Lc8, hQ8, l8, y8, z8⟩, st8⟩ := X7.specialBack hx (y := (⟨"com/example/binfold/binfold/PackageParts$Part", "<init>", "(Ljava/lang/String;Lcom/example/binfold/binfold/mime/Headers;)V"⟩ : MethodName)) rfl hown (mvT hZ (hw _ (List.mem_of_getElem? (i := 3) rfl))) (mvT hZ (hw _ (List.mem_of_getElem? (i := 4) rfl))) (mvT hZ (hw _ (List.mem_of_getElem? (i := 5) rfl))) (by decide) (backOf (W := 1) (own_ptInitNN l Z a0 hw [] b7 h7 n0 Z7 A7 (D7 (Or.inl (hw _ (List.mem_of_getElem? (i := 11) rfl))) (ty := .long) (by decide)) (D7 (Or.inr (hw _ (List.mem_of_getElem? (i := 13) rfl))) (ty := (.object "java/lang/String")) (by decide)) (D7 (Or.inr (hw _ (List.mem_of_getElem? (i := 15) rfl))) (ty := (.object "com/example/binfold/binfold/mime/Headers")) (by decide)) gb7) hZ (hw _ (List.mem_of_getElem? (i := 5) rfl)) (hw _ (List.mem_of_getElem? (i := 2) rfl)) (by decide) (by decide)) (g := (mkF m 73 #[.val (.int p0), .val (.int p1), .val (.int p2), .val (.int p3), .val (.int p4), .val (.int zI), .val (.int zH), .val .null, .val .null, .unset, .unset, .unset, .unset, .unset] [.null, .null, (.ref b7), (.ref b7)])) rfl (by rw [hml]; rfl) (Steps.refl _) (a := b7) (argsL := [.null, .null]) (rest := [(.ref b7)]) (lenOf own_pd15 rfl) rfl (by show 2 * 0 + _ ≤ _; exact Nat.le_of_eq rfl) (hb hby at_73) (fun _ _ => ⟨rfl, e7, (by decide : 1 + 0 ≤ _), (by decide : 6 + 0 ≤ _)⟩)
      dsimp only [Pt.U, Pt.locs, Pt.cells, Pt.slots] at X8 l8 y8 z8 st8 hQ8
      subst l8 y8 z8
      obtain ⟨rfl, N8, Kc8, P8_0, P8_1, P8_2, P8_3⟩ := hQ8
      have NA8 := Fr.app N0 N8
      have Z8 : n0 ≤ T8.heap.size := Nat.le_trans Z7 Kc8.1
      have hk8 := Nat.le_trans hk7 Kc8.1
      have Sf8_b7 := Safe.keep Kc8 (sfS Sf7_b7 sf0) R7.1 Sf7_b7
      have R8 := R7.trans (CHr.keep Kc8 (sfS Sf7_b7 sf0) R7.1)
      have K8 := K7.trans Kc8 (allS (Or.inr sz7) all0)
      have O8 := O7.keep Kc8 (allS gb7 all0)
      refine Go.back (t' := (T8.setTop (mkF m 76 #[.val (.int p0), .val (.int p1), .val (.int p2), .val (.int p3), .val (.int p4), .val (.int zI), .val (.int zH), .val .null, .val .null, .unset, .unset, .unset, .unset, .unset] [(.ref b7)]))) (fun u k => st8.trans k) ?_
      refine Go.back (t' := (T8.setTop (mkF m 80 #[.val (.int p0), .val (.int p1), .val (.int p2), .val (.int p3), .val (.int p4), .val (.int zI), .val (.int zH), .val .null, .val .null, .val (.ref b7), .unset, .unset, .unset, .unset] [(.ref b7)]))) (fun u k => XS.astore X8.here hx rfl (hb hby at_76) rfl rfl (l' := #[.val (.int p0), .val (.int p1), .val (.int p2), .val (.int p3), .val (.int p4), .val (.int zI), .val (.int zH), .val .null, .val .null, .val (.ref b7), .unset, .unset, .unset, .unset]) rfl (XS.aload X8.here hx rfl (hb hby at_78) rfl rfl k)) ?_
      obtain ⟨cq10, kq10, qa10, qb10, qc10⟩ := isOf hZ rfl P8_0
      obtain ⟨_, _, ⟨T9, L9, k9, n9⟩, -, X9, ⟨Lc9, hQ9, l9, y9, z9⟩, st9⟩ := X8.virtualBack hx (y := (⟨"com/example/binfold/binfold/PackageParts$Part", "description", "()Lcom/example/binfold/binfold/PackagePart;"⟩ : MethodName)) (z := (⟨"com/example/binfold/binfold/PackageParts$Part", "description", "()Lcom/example/binfold/binfold/PackagePart;"⟩ : MethodName)) hown (mvT hZ (hw _ (List.mem_of_getElem? (i := 16) rfl))) (mvT hZ (hw _ (List.mem_of_getElem? (i := 17) rfl))) (notFace_of_selects (args := #[]) (mvT hZ (hw _ (List.mem_of_getElem? (i := 19) rfl)))) (mvT hZ (hw _ (List.mem_of_getElem? (i := 19) rfl))) (mvT hZ (hw _ (List.mem_of_getElem? (i := 18) rfl))) (by decide) (backOf (W := 0) (own_desNN l Z a0 hw [] b7 T8.heap n0 Z8 P8_0 P8_1 P8_2 P8_3) hZ (hw _ (List.mem_of_getElem? (i := 20) rfl)) (hw _ (List.mem_of_getElem? (i := 2) rfl)) (by decide) (by decide)) qa10 qc10 (g := (mkF m 80 #[.val (.int p0), .val (.int p1), .val (.int p2), .val (.int p3), .val (.int p4), .val (.int zI), .val (.int zH), .val .null, .val .null, .val (.ref b7), .unset, .unset, .unset, .unset] [(.ref b7)])) rfl (by rw [hml]; rfl) (Steps.refl _) (argsL := []) (rest := []) (lenOf own_pd16 rfl) rfl (by show 2 * 0 + _ ≤ _; exact Nat.le_of_eq rfl) (hb hby at_80) (fun _ _ => ⟨rfl, rfl, (by decide : 1 + 1 ≤ _), (by decide : 6 + 3 ≤ _)⟩)
      dsimp only [Pt.U, Pt.locs, Pt.cells, Pt.slots] at X9 l9 y9 z9 st9 hQ9
      subst l9 y9 z9
      obtain ⟨q9, rfl, N9, Kc9, gb_q9, szc_q9, P9_0, P9_1, P9_2, P9_3⟩ := hQ9
      have NA9 := Fr.app NA8 N9
      have Z9 : n0 ≤ T9.heap.size := Nat.le_trans Z8 Kc9.1
      have hk9 := Nat.le_trans hk8 Kc9.1
      have Sf9_b7 := Safe.keep Kc9 sf0 R8.1 Sf8_b7
      have R9 := R8.trans (CHr.keep Kc9 sf0 R8.1)
      have K9 := K8.trans Kc9 all0
      have O9 := O8.keep Kc9 all0
      have sz_q9 : h0.size ≤ q9 := Nat.le_trans K8.1 szc_q9
      have f11 := ((E_eL.ext E7).keep Kc8)
      have ne_eL_q9 : eL ≠ q9 := Nat.ne_of_lt (Nat.lt_of_lt_of_le f11.lt szc_q9)
      have f12 := ((E_eA.ext E7).keep Kc8)
      have ne_eA_q9 : eA ≠ q9 := Nat.ne_of_lt (Nat.lt_of_lt_of_le f12.lt szc_q9)
      have f13 := ((E_oE.ext E7).keep Kc8)
      have ne_oE_q9 : oE ≠ q9 := Nat.ne_of_lt (Nat.lt_of_lt_of_le f13.lt szc_q9)
      have f14 := ((E_oL.ext E7).keep Kc8)
      have ne_oL_q9 : oL ≠ q9 := Nat.ne_of_lt (Nat.lt_of_lt_of_le f14.lt szc_q9)
      have ne_b7_q9 : b7 ≠ q9 := Nat.ne_of_lt (Nat.lt_of_lt_of_le P8_0.lt szc_q9)
      refine Go.back (t' := (T9.setTop (mkF m 83 #[.val (.int p0), .val (.int p1), .val (.int p2), .val (.int p3), .val (.int p4), .val (.int zI), .val (.int zH), .val .null, .val .null, .val (.ref b7), .unset, .unset, .unset, .unset] [(.ref q9)]))) (fun u k => st9.trans k) ?_
      refine Go.back (t' := (T9.setTop (mkF m 92 #[.val (.int p0), .val (.int p1), .val (.int p2), .val (.int p3), .val (.int p4), .val (.int zI), .val (.int zH), .val .null, .val .null, .val (.ref b7), .val (.ref q9), .unset, .unset, .unset] [(.ref q9)]))) (fun u k => XS.astore X9.here hx rfl (hb hby at_83) rfl rfl (l' := #[.val (.int p0), .val (.int p1), .val (.int p2), .val (.int p3), .val (.int p4), .val (.int zI), .val (.int zH), .val .null, .val .null, .val (.ref b7), .val (.ref q9), .unset, .unset, .unset]) rfl (XS.aload X9.here hx rfl (hb hby at_85) rfl rfl (XT.ifnonnullNo X9.here hx rfl (hb hby at_87) rfl (XS.aload X9.here hx rfl (hb hby at_90) rfl rfl k)))) ?_
      obtain ⟨cq16, kq16, qa16, qb16, qc16⟩ := isOf hZ rfl P9_0
      obtain ⟨_, _, ⟨T15, L15, k15, n15⟩, -, X15, ⟨Lc15, hQ15, l15, y15, z15⟩, st15⟩ := X9.virtualBack hx (y := (⟨"com/example/binfold/binfold/PackagePart", "contentId", "()Ljava/util/Optional;"⟩ : MethodName)) (z := (⟨"com/example/binfold/binfold/PackagePart", "contentId", "()Ljava/util/Optional;"⟩ : MethodName)) hown (mvT hZ (hw _ (List.mem_of_getElem? (i := 34) rfl))) (mvT hZ (hw _ (List.mem_of_getElem? (i := 35) rfl))) (notFace_of_selects (args := #[]) (mvT hZ (hw _ (List.mem_of_getElem? (i := 37) rfl)))) (mvT hZ (hw _ (List.mem_of_getElem? (i := 37) rfl))) (mvT hZ (hw _ (List.mem_of_getElem? (i := 36) rfl))) (by decide) (backOf (W := 0) (own_ciN l Z a0 hw [] q9 oE T9.heap n0 Z9 P9_2 O9 SO) hZ (hw _ (List.mem_of_getElem? (i := 38) rfl)) (hw _ (List.mem_of_getElem? (i := 23) rfl)) (by decide) (by decide)) qa16 qc16 (g := (mkF m 92 #[.val (.int p0), .val (.int p1), .val (.int p2), .val (.int p3), .val (.int p4), .val (.int zI), .val (.int zH), .val .null, .val .null, .val (.ref b7), .val (.ref q9), .unset, .unset, .unset] [(.ref q9)])) rfl (by rw [hml]; rfl) (Steps.refl _) (argsL := []) (rest := []) (lenOf own_pd17 rfl) rfl (by show 2 * 0 + _ ≤ _; exact Nat.le_of_eq rfl) (hb hby at_92) (fun _ _ => ⟨rfl, rfl, (by decide : 2 + 0 ≤ _), (by decide : 9 + 0 ≤ _)⟩)
      dsimp only [Pt.U, Pt.locs, Pt.cells, Pt.slots] at X15 l15 y15 z15 st15 hQ15
      subst l15 y15 z15
      obtain ⟨rfl, N15, e15⟩ := hQ15
      have NA15 := Fr.app NA9 N15
      refine Go.back (t' := (T15.setTop (mkF m 95 #[.val (.int p0), .val (.int p1), .val (.int p2), .val (.int p3), .val (.int p4), .val (.int zI), .val (.int zH), .val .null, .val .null, .val (.ref b7), .val (.ref q9), .unset, .unset, .unset] [(.ref oE)]))) (fun u k => st15.trans k) ?_
      have f17 := (((F_oE_value.ext E7).keep Kc8 (ninS ne_oE_b7 nin0)).keep Kc9 nin0)
      have f20 := (f13.keep Kc9)
      obtain ⟨cq19, kq19, qa19, qb19, qc19⟩ := isOf hZ e15 f20
      obtain ⟨_, _, ⟨T18, L18, k18, n18⟩, -, X18, ⟨Lc18, hQ18, l18, y18, z18⟩, st18⟩ := X15.virtualBack hx (y := (⟨"java/util/Optional", "isPresent", "()Z"⟩ : MethodName)) (z := (⟨"java/util/Optional", "isPresent", "()Z"⟩ : MethodName)) hown (mvT hZ (hw _ (List.mem_of_getElem? (i := 44) rfl))) (mvT hZ (hw _ (List.mem_of_getElem? (i := 45) rfl))) (notFace_of_selects (args := #[]) (mvT hZ (hw _ (List.mem_of_getElem? (i := 47) rfl)))) (mvT hZ (hw _ (List.mem_of_getElem? (i := 47) rfl))) (mvT hZ (hw _ (List.mem_of_getElem? (i := 46) rfl))) (by decide) (backOf (W := 0) (own_ipN l Z a0 hw [] oE T9.heap n0 Z9 f17) hZ (hw _ (List.mem_of_getElem? (i := 48) rfl)) (hw _ (List.mem_of_getElem? (i := 41) rfl)) (by decide) (by decide)) qa19 qc19 (g := (mkF m 95 #[.val (.int p0), .val (.int p1), .val (.int p2), .val (.int p3), .val (.int p4), .val (.int zI), .val (.int zH), .val .null, .val .null, .val (.ref b7), .val (.ref q9), .unset, .unset, .unset] [(.ref oE)])) rfl (by rw [hml]; rfl) (Steps.refl _) (argsL := []) (rest := []) (lenOf own_pd18 rfl) rfl (by show 2 * 0 + _ ≤ _; exact Nat.le_of_eq rfl) (hb hby at_95) (fun _ _ => ⟨rfl, e15, (by decide : 2 + 0 ≤ _), (by decide : 9 + 0 ≤ _)⟩)
      dsimp only [Pt.U, Pt.locs, Pt.cells, Pt.slots] at X18 l18 y18 z18 st18 hQ18
      subst l18 y18 z18
      obtain ⟨rfl, N18, e18⟩ := hQ18
      have NA18 := Fr.app NA15 N18
      refine Go.back (t' := (T18.setTop (mkF m 98 #[.val (.int p0), .val (.int p1), .val (.int p2), .val (.int p3), .val (.int p4), .val (.int zI), .val (.int zH), .val .null, .val .null, .val (.ref b7), .val (.ref q9), .unset, .unset, .unset] [(.int (0 : Int32))]))) (fun u k => st18.trans k) ?_
      refine Go.back (t' := (T18.setTop (mkF m 150 #[.val (.int p0), .val (.int p1), .val (.int p2), .val (.int p3), .val (.int p4), .val (.int zI), .val (.int zH), .val .null, .val .null, .val (.ref b7), .val (.ref q9), .val (.int (1 : Int32)), .unset, .unset] [(.ref q9)]))) (fun u k => XS.ifNo X18.here hx rfl (hb hby at_98) rfl (XT.i0_ne_f (by decide)) (XT.iconstV X18.here hx rfl (1 : Int32) (hb hby at_101) (by decide) (XS.goto X18.here hx rfl (pc0 := 102) (pc' := 106) rfl (hb hby at_102) (by decide) (by decide) (XS.istore X18.here hx rfl (hb hby at_106) rfl (l' := #[.val (.int p0), .val (.int p1), .val (.int p2), .val (.int p3), .val (.int p4), .val (.int zI), .val (.int zH), .val .null, .val .null, .val (.ref b7), .val (.ref q9), .val (.int (1 : Int32)), .unset, .unset]) rfl (XS.goto X18.here hx rfl (pc0 := 108) (pc' := 148) rfl (hb hby at_108) (by decide) (by decide) (XS.aload X18.here hx rfl (hb hby at_148) rfl rfl k)))))) ?_
      obtain ⟨cq22, kq22, qa22, qb22, qc22⟩ := isOf hZ e18 P9_0
      obtain ⟨_, _, ⟨T21, L21, k21, n21⟩, -, X21, ⟨Lc21, hQ21, l21, y21, z21⟩, st21⟩ := X18.virtualBack hx (y := (⟨"com/example/binfold/binfold/PackagePart", "headers", "()Lcom/example/binfold/binfold/mime/Headers;"⟩ : MethodName)) (z := (⟨"com/example/binfold/binfold/PackagePart", "headers", "()Lcom/example/binfold/binfold/mime/Headers;"⟩ : MethodName)) hown (mvT hZ (hw _ (List.mem_of_getElem? (i := 51) rfl))) (mvT hZ (hw _ (List.mem_of_getElem? (i := 52) rfl))) (notFace_of_selects (args := #[]) (mvT hZ (hw _ (List.mem_of_getElem? (i := 54) rfl)))) (mvT hZ (hw _ (List.mem_of_getElem? (i := 54) rfl))) (mvT hZ (hw _ (List.mem_of_getElem? (i := 53) rfl))) (by decide) (backOf (W := 0) (own_hdN l Z a0 hw [] q9 T9.heap n0 Z9 P9_3) hZ (hw _ (List.mem_of_getElem? (i := 55) rfl)) (hw _ (List.mem_of_getElem? (i := 23) rfl)) (by decide) (by decide)) qa22 qc22 (g := (mkF m 150 #[.val (.int p0), .val (.int p1), .val (.int p2), .val (.int p3), .val (.int p4), .val (.int zI), .val (.int zH), .val .null, .val .null, .val (.ref b7), .val (.ref q9), .val (.int (1 : Int32)), .unset, .unset] [(.ref q9)])) rfl (by rw [hml]; rfl) (Steps.refl _) (argsL := []) (rest := []) (lenOf own_pd19 rfl) rfl (by show 2 * 0 + _ ≤ _; exact Nat.le_of_eq rfl) (hb hby at_150) (fun _ _ => ⟨rfl, e18, (by decide : 2 + 0 ≤ _), (by decide : 9 + 0 ≤ _)⟩)
      dsimp only [Pt.U, Pt.locs, Pt.cells, Pt.slots] at X21 l21 y21 z21 st21 hQ21
      subst l21 y21 z21
      obtain ⟨rfl, N21, e21⟩ := hQ21
      have NA21 := Fr.app NA18 N21
      refine Go.back (t' := (T21.setTop (mkF m 153 #[.val (.int p0), .val (.int p1), .val (.int p2), .val (.int p3), .val (.int p4), .val (.int zI), .val (.int zH), .val .null, .val .null, .val (.ref b7), .val (.ref q9), .val (.int (1 : Int32)), .unset, .unset] [.null]))) (fun u k => st21.trans k) ?_
      refine Go.back (t' := (T21.setTop (mkF m 167 #[.val (.int p0), .val (.int p1), .val (.int p2), .val (.int p3), .val (.int p4), .val (.int zI), .val (.int zH), .val .null, .val .null, .val (.ref b7), .val (.ref q9), .val (.int (1 : Int32)), .val (.int (1 : Int32)), .unset] [(.ref q9)]))) (fun u k => XS.aload X21.here hx rfl (hb hby at_153) rfl rfl (XT.acmpNo X21.here hx rfl (hb hby at_155) rfl rfl rfl (XT.aa_ne_f rfl) (XT.iconstV X21.here hx rfl (1 : Int32) (hb hby at_158) (by decide) (XS.goto X21.here hx rfl (pc0 := 159) (pc' := 163) rfl (hb hby at_159) (by decide) (by decide) (XS.istore X21.here hx rfl (hb hby at_163) rfl (l' := #[.val (.int p0), .val (.int p1), .val (.int p2), .val (.int p3), .val (.int p4), .val (.int zI), .val (.int zH), .val .null, .val .null, .val (.ref b7), .val (.ref q9), .val (.int (1 : Int32)), .val (.int (1 : Int32)), .unset]) rfl (XS.aload X21.here hx rfl (hb hby at_165) rfl rfl k)))))) ?_
      obtain ⟨cq24, kq24, qa24, qb24, qc24⟩ := isOf hZ e21 P9_0
      obtain ⟨_, _, ⟨T23, L23, k23, n23⟩, -, X23, ⟨Lc23, hQ23, l23, y23, z23⟩, st23⟩ := X21.virtualBack hx (y := (⟨"com/example/binfold/binfold/PackagePart", "decodedLength", "()Ljava/util/OptionalLong;"⟩ : MethodName)) (z := (⟨"com/example/binfold/binfold/PackagePart", "decodedLength", "()Ljava/util/OptionalLong;"⟩ : MethodName)) hown (mvT hZ (hw _ (List.mem_of_getElem? (i := 56) rfl))) (mvT hZ (hw _ (List.mem_of_getElem? (i := 57) rfl))) (notFace_of_selects (args := #[]) (mvT hZ (hw _ (List.mem_of_getElem? (i := 59) rfl)))) (mvT hZ (hw _ (List.mem_of_getElem? (i := 59) rfl))) (mvT hZ (hw _ (List.mem_of_getElem? (i := 58) rfl))) (by decide) (backOf (W := 0) (own_dl l Z a0 hw [] q9 oL T9.heap n0 Z9 P9_1 O9 SL) hZ (hw _ (List.mem_of_getElem? (i := 60) rfl)) (hw _ (List.mem_of_getElem? (i := 23) rfl)) (by decide) (by decide)) qa24 qc24 (g := (mkF m 167 #[.val (.int p0), .val (.int p1), .val (.int p2), .val (.int p3), .val (.int p4), .val (.int zI), .val (.int zH), .val .null, .val .null, .val (.ref b7), .val (.ref q9), .val (.int (1 : Int32)), .val (.int (1 : Int32)), .unset] [(.ref q9)])) rfl (by rw [hml]; rfl) (Steps.refl _) (argsL := []) (rest := []) (lenOf own_pd14 rfl) rfl (by show 2 * 0 + _ ≤ _; exact Nat.le_of_eq rfl) (hb hby at_167) (fun _ _ => ⟨rfl, e21, (by decide : 2 + 0 ≤ _), (by decide : 9 + 0 ≤ _)⟩)
      dsimp only [Pt.U, Pt.locs, Pt.cells, Pt.slots] at X23 l23 y23 z23 st23 hQ23
      subst l23 y23 z23
      obtain ⟨rfl, N23, e23⟩ := hQ23
      have NA23 := Fr.app NA21 N23
      refine Go.back (t' := (T23.setTop (mkF m 170 #[.val (.int p0), .val (.int p1), .val (.int p2), .val (.int p3), .val (.int p4), .val (.int zI), .val (.int zH), .val .null, .val .null, .val (.ref b7), .val (.ref q9), .val (.int (1 : Int32)), .val (.int (1 : Int32)), .unset] [(.ref oL)]))) (fun u k => st23.trans k) ?_
      have f25 := (((F_oL_isPresent.ext E7).keep Kc8 (ninS ne_oL_b7 nin0)).keep Kc9 nin0)
      have f28 := (f14.keep Kc9)
      obtain ⟨cq27, kq27, qa27, qb27, qc27⟩ := isOf hZ e23 f28
      obtain ⟨_, _, ⟨T26, L26, k26, n26⟩, -, X26, ⟨Lc26, hQ26, l26, y26, z26⟩, st26⟩ := X23.virtualBack hx (y := (⟨"java/util/OptionalLong", "isPresent", "()Z"⟩ : MethodName)) (z := (⟨"java/util/OptionalLong", "isPresent", "()Z"⟩ : MethodName)) hown (mvT hZ (hw _ (List.mem_of_getElem? (i := 66) rfl))) (mvT hZ (hw _ (List.mem_of_getElem? (i := 67) rfl))) (notFace_of_selects (args := #[]) (mvT hZ (hw _ (List.mem_of_getElem? (i := 69) rfl)))) (mvT hZ (hw _ (List.mem_of_getElem? (i := 69) rfl))) (mvT hZ (hw _ (List.mem_of_getElem? (i := 68) rfl))) (by decide) (backOf (W := 0) (own_lp l Z a0 hw [] oL T9.heap n0 Z9 f25) hZ (hw _ (List.mem_of_getElem? (i := 70) rfl)) (hw _ (List.mem_of_getElem? (i := 63) rfl)) (by decide) (by decide)) qa27 qc27 (g := (mkF m 170 #[.val (.int p0), .val (.int p1), .val (.int p2), .val (.int p3), .val (.int p4), .val (.int zI), .val (.int zH), .val .null, .val .null, .val (.ref b7), .val (.ref q9), .val (.int (1 : Int32)), .val (.int (1 : Int32)), .unset] [(.ref oL)])) rfl (by rw [hml]; rfl) (Steps.refl _) (argsL := []) (rest := []) (lenOf own_pd18 rfl) rfl (by show 2 * 0 + _ ≤ _; exact Nat.le_of_eq rfl) (hb hby at_170) (fun _ _ => ⟨rfl, e23, (by decide : 2 + 0 ≤ _), (by decide : 9 + 0 ≤ _)⟩)
      dsimp only [Pt.U, Pt.locs, Pt.cells, Pt.slots] at X26 l26 y26 z26 st26 hQ26
      subst l26 y26 z26
      obtain ⟨rfl, N26, e26⟩ := hQ26
      have NA26 := Fr.app NA23 N26
      refine Go.back (t' := (T26.setTop (mkF m 173 #[.val (.int p0), .val (.int p1), .val (.int p2), .val (.int p3), .val (.int p4), .val (.int zI), .val (.int zH), .val .null, .val .null, .val (.ref b7), .val (.ref q9), .val (.int (1 : Int32)), .val (.int (1 : Int32)), .unset] [(.int (0 : Int32))]))) (fun u k => st26.trans k) ?_
      refine Go.back (t' := (T26.setTop (mkF m 188 #[.val (.int p0), .val (.int p1), .val (.int p2), .val (.int p3), .val (.int p4), .val (.int zI), .val (.int zH), .val .null, .val .null, .val (.ref b7), .val (.ref q9), .val (.int (1 : Int32)), .val (.int (1 : Int32)), .val (.int (1 : Int32))] []))) (fun u k => XS.ifNo X26.here hx rfl (hb hby at_173) rfl (XT.i0_ne_f (by decide)) (XT.iconstV X26.here hx rfl (1 : Int32) (hb hby at_176) (by decide) (XS.goto X26.here hx rfl (pc0 := 177) (pc' := 181) rfl (hb hby at_177) (by decide) (by decide) (XS.istore X26.here hx rfl (hb hby at_181) rfl (l' := #[.val (.int p0), .val (.int p1), .val (.int p2), .val (.int p3), .val (.int p4), .val (.int zI), .val (.int zH), .val .null, .val .null, .val (.ref b7), .val (.ref q9), .val (.int (1 : Int32)), .val (.int (1 : Int32)), .val (.int (1 : Int32))]) rfl (XS.iload X26.here hx rfl (hb hby at_183) rfl (XS.ifNo X26.here hx rfl (hb hby at_185) rfl (XT.i0_eq_f (by decide)) k)))))) ?_
      refine Go.back (t' := (T26.setTop (mkF m 203 #[.val (.int p0), .val (.int p1), .val (.int p2), .val (.int p3), .val (.int p4), .val (.int zI), .val (.int zH), .val .null, .val .null, .val (.ref b7), .val (.ref q9), .val (.int (1 : Int32)), .val (.int (1 : Int32)), .val (.int (1 : Int32))] [(.int (1 : Int32))]))) (fun u k => XS.iload X26.here hx rfl (hb hby at_188) rfl (XS.ifNo X26.here hx rfl (hb hby at_190) rfl (XT.i0_eq_f (by decide)) (XS.iload X26.here hx rfl (hb hby at_193) rfl (XS.ifNo X26.here hx rfl (hb hby at_195) rfl (XT.i0_eq_f (by decide)) (XT.iconstV X26.here hx rfl (1 : Int32) (hb hby at_198) (by decide) (XS.goto X26.here hx rfl (pc0 := 199) (pc' := 203) rfl (hb hby at_199) (by decide) (by decide) k)))))) ?_
      obtain ⟨fs, hr, hrun, hended, hFW⟩ := Jvm.Stand.leaveW (s := s) (vm₁ := s.vm) X26 hS0 (by rw [e26]; exact hk9) (v := some (.int (1 : Int32))) (fun h => by rw [Bd.returns] at h; cases h)
      refine ⟨_, _, retN X26 hx (t := .boolean) Bd.returns (by simp) (hb hby at_203) hr, hrun, hended, _, _, rfl, ?_, hFW.1, hFW.2.1, hFW.2.2.1, hFW.2.2.2.mono (by decide) (by decide)⟩
      show Q_own_law0 Z p0 p1 p2 p3 p4 gC oE oL eL eA ka wD mO mA mL mR h0 n0 _ T26.heap _
      rw [e26]
      exact ⟨rfl, NA26, K9⟩
    · skip
      refine Go.back (t' := (s₁.setTop (mkF m 52 #[.val (.int p0), .val (.int p1), .val (.int p2), .val (.int p3), .val (.int p4), .val (.int zI), .val (.int zH), .val .null, .unset, .unset, .unset, .unset, .unset, .unset] []))) (fun u k => XS.ifNo X0.here hx rfl (hb hby at_49) rfl (XT.i0_eq_f hc6) k) ?_
      obtain ⟨T29, h29, X29, e29, E29, A29, D29, -, st29⟩ := newO X0 hx hZ hown (hw _ (List.mem_of_getElem? (i := 97) rfl)) (hw _ (List.mem_of_getElem? (i := 98) rfl)) (hw _ (List.mem_of_getElem? (i := 99) rfl)) e0 (g := (mkF m 52 #[.val (.int p0), .val (.int p1), .val (.int p2), .val (.int p3), .val (.int p4), .val (.int zI), .val (.int zH), .val .null, .unset, .unset, .unset, .unset, .unset, .unset] [])) rfl (hb hby at_52) (by decide) (by decide)
      obtain ⟨b29, g29⟩ : ∃ z, z = h0.size := ⟨_, rfl⟩
      rw [← g29] at A29 D29 st29
      have ne_eL_b29 : eL ≠ b29 := Nat.ne_of_lt (Nat.lt_of_lt_of_le E_eL.lt (Nat.le_of_eq g29.symm))
      have ne_eA_b29 : eA ≠ b29 := Nat.ne_of_lt (Nat.lt_of_lt_of_le E_eA.lt (Nat.le_of_eq g29.symm))
      have ne_oE_b29 : oE ≠ b29 := Nat.ne_of_lt (Nat.lt_of_lt_of_le E_oE.lt (Nat.le_of_eq g29.symm))
      have ne_oL_b29 : oL ≠ b29 := Nat.ne_of_lt (Nat.lt_of_lt_of_le E_oL.lt (Nat.le_of_eq g29.symm))
      have gb29 : n0 ≤ b29 := Nat.le_trans Z0 (Nat.le_of_eq g29.symm)
      have sz29 : h0.size ≤ b29 := Nat.le_trans K0.1 (Nat.le_of_eq g29.symm)
      have Z29 : n0 ≤ h29.size := Nat.le_trans Z0 E29.1
      have K29 := K0.ext E29
      have O29 := Old0.ext E29
      have hk29 := Nat.le_trans hk0 E29.1
      have Sf29_b29 := Safe.ext E29 R0.1 (Safe.new (Nat.le_of_eq g29.symm))
      have R29 := R0.trans (CHr.ext E29 R0.1)
      refine Go.back (t' := (T29.setTop (mkF m 55 #[.val (.int p0), .val (.int p1), .val (.int p2), .val (.int p3), .val (.int p4), .val (.int zI), .val (.int zH), .val .null, .unset, .unset, .unset, .unset, .unset, .unset] [(.ref b29)]))) st29 ?_
      refine Go.back (t' := (T29.setTop (mkF m 56 #[.val (.int p0), .val (.int p1), .val (.int p2), .val (.int p3), .val (.int p4), .val (.int zI), .val (.int zH), .val .null, .unset, .unset, .unset, .unset, .unset, .unset] [(.ref b29), (.ref b29)]))) (fun u k => XS.dup X29.here hx rfl (hb hby at_55) rfl rfl k) ?_
      have f30 := (E_eL.ext E29)
      have f31 := (F_eL_elements.ext E29)
      have f32 := (E_eA.ext E29)
      have f33 := (V_eA.ext E29)
      obtain ⟨_, _, ⟨T34, L34, k34, n34⟩, -, X34, ⟨Lc34, hQ34, l34, y34, z34⟩, st34⟩ := X29.specialBack hx (y := (⟨"com/example/binfold/binfold/mime/Headers", "<init>", "()V"⟩ : MethodName)) rfl hown (mvT hZ (hw _ (List.mem_of_getElem? (i := 100) rfl))) (mvT hZ (hw _ (List.mem_of_getElem? (i := 101) rfl))) (mvT hZ (hw _ (List.mem_of_getElem? (i := 102) rfl))) (by decide) (backOf (W := 1) (own_hd0 l Z a0 hw [] b29 eL eA ka wD mO mA mL mR h29 n0 Z29 A29 (D29 (Or.inr (hw _ (List.mem_of_getElem? (i := 216) rfl))) (ty := (.object "java/util/List")) (by decide)) gb29 O29 SEL f30 f31 f32 f33 M_mO M_mA M_mL M_mR SED (Ne.symm ne_eL_b29) (Ne.symm ne_eA_b29)) hZ (hw _ (List.mem_of_getElem? (i := 102) rfl)) (hw _ (List.mem_of_getElem? (i := 99) rfl)) (by decide) (by decide)) (g := (mkF m 56 #[.val (.int p0), .val (.int p1), .val (.int p2), .val (.int p3), .val (.int p4), .val (.int zI), .val (.int zH), .val .null, .unset, .unset, .unset, .unset, .unset, .unset] [(.ref b29), (.ref b29)])) rfl (by rw [hml]; rfl) (Steps.refl _) (a := b29) (argsL := []) (rest := [(.ref b29)]) (lenOf own_pd5 rfl) rfl (by show 2 * 0 + _ ≤ _; exact Nat.le_of_eq rfl) (hb hby at_56) (fun _ _ => ⟨rfl, e29, (by decide : 1 + 3 ≤ _), (by decide : 1 + 5 ≤ _)⟩)
      dsimp only [Pt.U, Pt.locs, Pt.cells, Pt.slots] at X34 l34 y34 z34 st34 hQ34
      subst l34 y34 z34
      obtain ⟨rfl, N34, Kc34, P34_0⟩ := hQ34
      have NA34 := Fr.app N0 N34
      have Z34 : n0 ≤ T34.heap.size := Nat.le_trans Z29 Kc34.1
      have hk34 := Nat.le_trans hk29 Kc34.1
      have Sf34_b29 := Safe.keep Kc34 (sfS Sf29_b29 sf0) R29.1 Sf29_b29
      have R34 := R29.trans (CHr.keep Kc34 (sfS Sf29_b29 sf0) R29.1)
      have K34 := K29.trans Kc34 (allS (Or.inr sz29) all0)
      have O34 := O29.keep Kc34 (allS gb29 all0)
      refine Go.back (t' := (T34.setTop (mkF m 59 #[.val (.int p0), .val (.int p1), .val (.int p2), .val (.int p3), .val (.int p4), .val (.int zI), .val (.int zH), .val .null, .unset, .unset, .unset, .unset, .unset, .unset] [(.ref b29)]))) (fun u k => st34.trans k) ?_
      refine Go.back (t' := (T34.setTop (mkF m 65 #[.val (.int p0), .val (.int p1), .val (.int p2), .val (.int p3), .val (.int p4), .val (.int zI), .val (.int zH), .val .null, .val (.ref b29), .unset, .unset, .unset, .unset, .unset] []))) (fun u k => XS.goto X34.here hx rfl (pc0 := 59) (pc' := 63) rfl (hb hby at_59) (by decide) (by decide) (XS.astore X34.here hx rfl (hb hby at_63) rfl rfl (l' := #[.val (.int p0), .val (.int p1), .val (.int p2), .val (.int p3), .val (.int p4), .val (.int zI), .val (.int zH), .val .null, .val (.ref b29), .unset, .unset, .unset, .unset, .unset]) rfl k)) ?_
      obtain ⟨T35, h35, X35, e35, E35, A35, D35, -, st35⟩ := newO X34 hx hZ hown (hw _ (List.mem_of_getElem? (i := 0) rfl)) (hw _ (List.mem_of_getElem? (i := 1) rfl)) (hw _ (List.mem_of_getElem? (i := 2) rfl)) rfl (g := (mkF m 65 #[.val (.int p0), .val (.int p1), .val (.int p2), .val (.int p3), .val (.int p4), .val (.int zI), .val (.int zH), .val .null, .val (.ref b29), .unset, .unset, .unset, .unset, .unset] [])) rfl (hb hby at_65) (by decide) (by decide)
      obtain ⟨b35, g35⟩ : ∃ z, z = T34.heap.size := ⟨_, rfl⟩
      rw [← g35] at A35 D35 st35
      have f36 := (f30.keep Kc34)
      have ne_eL_b35 : eL ≠ b35 := Nat.ne_of_lt (Nat.lt_of_lt_of_le f36.lt (Nat.le_of_eq g35.symm))
      have f37 := (f32.keep Kc34)
      have ne_eA_b35 : eA ≠ b35 := Nat.ne_of_lt (Nat.lt_of_lt_of_le f37.lt (Nat.le_of_eq g35.symm))
      have f38 := ((E_oE.ext E29).keep Kc34)
      have ne_oE_b35 : oE ≠ b35 := Nat.ne_of_lt (Nat.lt_of_lt_of_le f38.lt (Nat.le_of_eq g35.symm))
      have f39 := ((E_oL.ext E29).keep Kc34)
      have ne_oL_b35 : oL ≠ b35 := Nat.ne_of_lt (Nat.lt_of_lt_of_le f39.lt (Nat.le_of_eq g35.symm))
      have ne_b29_b35 : b29 ≠ b35 := Nat.ne_of_lt (Nat.lt_of_lt_of_le P34_0.lt (Nat.le_of_eq g35.symm))
      have gb35 : n0 ≤ b35 := Nat.le_trans Z34 (Nat.le_of_eq g35.symm)
      have sz35 : h0.size ≤ b35 := Nat.le_trans K34.1 (Nat.le_of_eq g35.symm)
      have Z35 : n0 ≤ h35.size := Nat.le_trans Z34 E35.1
      have K35 := K34.ext E35
      have O35 := O34.ext E35
      have hk35 := Nat.le_trans hk34 E35.1
      have Sf35_b29 := Safe.ext E35 R34.1 Sf34_b29
      have Sf35_b35 := Safe.ext E35 R34.1 (Safe.new (Nat.le_of_eq g35.symm))
      have R35 := R34.trans (CHr.ext E35 R34.1)
      refine Go.back (t' := (T35.setTop (mkF m 68 #[.val (.int p0), .val (.int p1), .val (.int p2), .val (.int p3), .val (.int p4), .val (.int zI), .val (.int zH), .val .null, .val (.ref b29), .unset, .unset, .unset, .unset, .unset] [(.ref b35)]))) st35 ?_
      refine Go.back (t' := (T35.setTop (mkF m 73 #[.val (.int p0), .val (.int p1), .val (.int p2), .val (.int p3), .val (.int p4), .val (.int zI), .val (.int zH), .val .null, .val (.ref b29), .unset, .unset, .unset, .unset, .unset] [(.ref b29), .null, (.ref b35), (.ref b35)]))) (fun u k => XS.dup X35.here hx rfl (hb hby at_68) rfl rfl (XS.aload X35.here hx rfl (hb hby at_69) rfl rfl (XS.aload X35.here hx rfl (hb hby at_71) rfl rfl k))) ?_
      obtain ⟨_, _, ⟨T40, L40, k40, n40⟩, -, X40, ⟨Lc40, hQ40, l40, y40, z40⟩, st40⟩ := X35.specialBack hx (y := (⟨"com/example/binfold/binfold/PackageParts$Part", "<init>", "(Ljava/lang/String;Lcom/example/binfold/binfold/mime/Headers;)V"⟩ : MethodName)) rfl hown (mvT hZ (hw _ (List.mem_of_getElem? (i := 3) rfl))) (mvT hZ (hw _ (List.mem_of_getElem? (i := 4) rfl))) (mvT hZ (hw _ (List.mem_of_getElem? (i := 5) rfl))) (by decide) (backOf (W := 1) (own_ptInitNR l Z a0 hw [] b35 b29 h35 n0 Z35 A35 (D35 (Or.inl (hw _ (List.mem_of_getElem? (i := 11) rfl))) (ty := .long) (by decide)) (D35 (Or.inr (hw _ (List.mem_of_getElem? (i := 13) rfl))) (ty := (.object "java/lang/String")) (by decide)) (D35 (Or.inr (hw _ (List.mem_of_getElem? (i := 15) rfl))) (ty := (.object "com/example/binfold/binfold/mime/Headers")) (by decide)) gb35) hZ (hw _ (List.mem_of_getElem? (i := 5) rfl)) (hw _ (List.mem_of_getElem? (i := 2) rfl)) (by decide) (by decide)) (g := (mkF m 73 #[.val (.int p0), .val (.int p1), .val (.int p2), .val (.int p3), .val (.int p4), .val (.int zI), .val (.int zH), .val .null, .val (.ref b29), .unset, .unset, .unset, .unset, .unset] [(.ref b29), .null, (.ref b35), (.ref b35)])) rfl (by rw [hml]; rfl) (Steps.refl _) (a := b35) (argsL := [.null, (.ref b29)]) (rest := [(.ref b35)]) (lenOf own_pd15 rfl) rfl (by show 2 * 0 + _ ≤ _; exact Nat.le_of_eq rfl) (hb hby at_73) (fun _ _ => ⟨rfl, e35, (by decide : 5 + 0 ≤ _), (by decide : 12 + 0 ≤ _)⟩)
      dsimp only [Pt.U, Pt.locs, Pt.cells, Pt.slots] at X40 l40 y40 z40 st40 hQ40
      subst l40 y40 z40
      obtain ⟨rfl, N40, Kc40, P40_0, P40_1, P40_2, P40_3⟩ := hQ40
      have NA40 := Fr.app NA34 N40
      have Z40 : n0 ≤ T40.heap.size := Nat.le_trans Z35 Kc40.1
      have hk40 := Nat.le_trans hk35 Kc40.1
      have Sf40_b29 := Safe.keep Kc40 (sfS Sf35_b35 sf0) R35.1 Sf35_b29
      have Sf40_b35 := Safe.keep Kc40 (sfS Sf35_b35 sf0) R35.1 Sf35_b35
      have R40 := R35.trans (CHr.keep Kc40 (sfS Sf35_b35 sf0) R35.1)
      have K40 := K35.trans Kc40 (allS (Or.inr sz35) all0)
      have O40 := O35.keep Kc40 (allS gb35 all0)
      refine Go.back (t' := (T40.setTop (mkF m 76 #[.val (.int p0), .val (.int p1), .val (.int p2), .val (.int p3), .val (.int p4), .val (.int zI), .val (.int zH), .val .null, .val (.ref b29), .unset, .unset, .unset, .unset, .unset] [(.ref b35)]))) (fun u k => st40.trans k) ?_
      refine Go.back (t' := (T40.setTop (mkF m 80 #[.val (.int p0), .val (.int p1), .val (.int p2), .val (.int p3), .val (.int p4), .val (.int zI), .val (.int zH), .val .null, .val (.ref b29), .val (.ref b35), .unset, .unset, .unset, .unset] [(.ref b35)]))) (fun u k => XS.astore X40.here hx rfl (hb hby at_76) rfl rfl (l' := #[.val (.int p0), .val (.int p1), .val (.int p2), .val (.int p3), .val (.int p4), .val (.int zI), .val (.int zH), .val .null, .val (.ref b29), .val (.ref b35), .unset, .unset, .unset, .unset]) rfl (XS.aload X40.here hx rfl (hb hby at_78) rfl rfl k)) ?_
      obtain ⟨cq42, kq42, qa42, qb42, qc42⟩ := isOf hZ rfl P40_0
      obtain ⟨_, _, ⟨T41, L41, k41, n41⟩, -, X41, ⟨Lc41, hQ41, l41, y41, z41⟩, st41⟩ := X40.virtualBack hx (y := (⟨"com/example/binfold/binfold/PackageParts$Part", "description", "()Lcom/example/binfold/binfold/PackagePart;"⟩ : MethodName)) (z := (⟨"com/example/binfold/binfold/PackageParts$Part", "description", "()Lcom/example/binfold/binfold/PackagePart;"⟩ : MethodName)) hown (mvT hZ (hw _ (List.mem_of_getElem? (i := 16) rfl))) (mvT hZ (hw _ (List.mem_of_getElem? (i := 17) rfl))) (notFace_of_selects (args := #[]) (mvT hZ (hw _ (List.mem_of_getElem? (i := 19) rfl)))) (mvT hZ (hw _ (List.mem_of_getElem? (i := 19) rfl))) (mvT hZ (hw _ (List.mem_of_getElem? (i := 18) rfl))) (by decide) (backOf (W := 0) (own_desNR l Z a0 hw [] b35 b29 T40.heap n0 Z40 P40_0 P40_1 P40_2 P40_3) hZ (hw _ (List.mem_of_getElem? (i := 20) rfl)) (hw _ (List.mem_of_getElem? (i := 2) rfl)) (by decide) (by decide)) qa42 qc42 (g := (mkF m 80 #[.val (.int p0), .val (.int p1), .val (.int p2), .val (.int p3), .val (.int p4), .val (.int zI), .val (.int zH), .val .null, .val (.ref b29), .val (.ref b35), .unset, .unset, .unset, .unset] [(.ref b35)])) rfl (by rw [hml]; rfl) (Steps.refl _) (argsL := []) (rest := []) (lenOf own_pd16 rfl) rfl (by show 2 * 0 + _ ≤ _; exact Nat.le_of_eq rfl) (hb hby at_80) (fun _ _ => ⟨rfl, rfl, (by decide : 5 + 1 ≤ _), (by decide : 12 + 3 ≤ _)⟩)
      dsimp only [Pt.U, Pt.locs, Pt.cells, Pt.slots] at X41 l41 y41 z41 st41 hQ41
      subst l41 y41 z41
      obtain ⟨q41, rfl, N41, Kc41, gb_q41, szc_q41, P41_0, P41_1, P41_2, P41_3⟩ := hQ41
      have NA41 := Fr.app NA40 N41
      have Z41 : n0 ≤ T41.heap.size := Nat.le_trans Z40 Kc41.1
      have hk41 := Nat.le_trans hk40 Kc41.1
      have Sf41_b29 := Safe.keep Kc41 sf0 R40.1 Sf40_b29
      have Sf41_b35 := Safe.keep Kc41 sf0 R40.1 Sf40_b35
      have R41 := R40.trans (CHr.keep Kc41 sf0 R40.1)
      have K41 := K40.trans Kc41 all0
      have O41 := O40.keep Kc41 all0
      have sz_q41 : h0.size ≤ q41 := Nat.le_trans K40.1 szc_q41
      have f43 := ((f36.ext E35).keep Kc40)
      have ne_eL_q41 : eL ≠ q41 := Nat.ne_of_lt (Nat.lt_of_lt_of_le f43.lt szc_q41)
      have f44 := ((f37.ext E35).keep Kc40)
      have ne_eA_q41 : eA ≠ q41 := Nat.ne_of_lt (Nat.lt_of_lt_of_le f44.lt szc_q41)
      have f45 := ((f38.ext E35).keep Kc40)
      have ne_oE_q41 : oE ≠ q41 := Nat.ne_of_lt (Nat.lt_of_lt_of_le f45.lt szc_q41)
      have f46 := ((f39.ext E35).keep Kc40)
      have ne_oL_q41 : oL ≠ q41 := Nat.ne_of_lt (Nat.lt_of_lt_of_le f46.lt szc_q41)
      have f47 := ((P34_0.ext E35).keep Kc40)
      have ne_b29_q41 : b29 ≠ q41 := Nat.ne_of_lt (Nat.lt_of_lt_of_le f47.lt szc_q41)
      have ne_b35_q41 : b35 ≠ q41 := Nat.ne_of_lt (Nat.lt_of_lt_of_le P40_0.lt szc_q41)
      refine Go.back (t' := (T41.setTop (mkF m 83 #[.val (.int p0), .val (.int p1), .val (.int p2), .val (.int p3), .val (.int p4), .val (.int zI), .val (.int zH), .val .null, .val (.ref b29), .val (.ref b35), .unset, .unset, .unset, .unset] [(.ref q41)]))) (fun u k => st41.trans k) ?_
      refine Go.back (t' := (T41.setTop (mkF m 92 #[.val (.int p0), .val (.int p1), .val (.int p2), .val (.int p3), .val (.int p4), .val (.int zI), .val (.int zH), .val .null, .val (.ref b29), .val (.ref b35), .val (.ref q41), .unset, .unset, .unset] [(.ref q41)]))) (fun u k => XS.astore X41.here hx rfl (hb hby at_83) rfl rfl (l' := #[.val (.int p0), .val (.int p1), .val (.int p2), .val (.int p3), .val (.int p4), .val (.int zI), .val (.int zH), .val .null, .val (.ref b29), .val (.ref b35), .val (.ref q41), .unset, .unset, .unset]) rfl (XS.aload X41.here hx rfl (hb hby at_85) rfl rfl (XT.ifnonnullNo X41.here hx rfl (hb hby at_87) rfl (XS.aload X41.here hx rfl (hb hby at_90) rfl rfl k)))) ?_
      obtain ⟨cq49, kq49, qa49, qb49, qc49⟩ := isOf hZ rfl P41_0
      obtain ⟨_, _, ⟨T48, L48, k48, n48⟩, -, X48, ⟨Lc48, hQ48, l48, y48, z48⟩, st48⟩ := X41.virtualBack hx (y := (⟨"com/example/binfold/binfold/PackagePart", "contentId", "()Ljava/util/Optional;"⟩ : MethodName)) (z := (⟨"com/example/binfold/binfold/PackagePart", "contentId", "()Ljava/util/Optional;"⟩ : MethodName)) hown (mvT hZ (hw _ (List.mem_of_getElem? (i := 34) rfl))) (mvT hZ (hw _ (List.mem_of_getElem? (i := 35) rfl))) (notFace_of_selects (args := #[]) (mvT hZ (hw _ (List.mem_of_getElem? (i := 37) rfl)))) (mvT hZ (hw _ (List.mem_of_getElem? (i := 37) rfl))) (mvT hZ (hw _ (List.mem_of_getElem? (i := 36) rfl))) (by decide) (backOf (W := 0) (own_ciN l Z a0 hw [] q41 oE T41.heap n0 Z41 P41_2 O41 SO) hZ (hw _ (List.mem_of_getElem? (i := 38) rfl)) (hw _ (List.mem_of_getElem? (i := 23) rfl)) (by decide) (by decide)) qa49 qc49 (g := (mkF m 92 #[.val (.int p0), .val (.int p1), .val (.int p2), .val (.int p3), .val (.int p4), .val (.int zI), .val (.int zH), .val .null, .val (.ref b29), .val (.ref b35), .val (.ref q41), .unset, .unset, .unset] [(.ref q41)])) rfl (by rw [hml]; rfl) (Steps.refl _) (argsL := []) (rest := []) (lenOf own_pd17 rfl) rfl (by show 2 * 0 + _ ≤ _; exact Nat.le_of_eq rfl) (hb hby at_92) (fun _ _ => ⟨rfl, rfl, (by decide : 6 + 0 ≤ _), (by decide : 15 + 0 ≤ _)⟩)
      dsimp only [Pt.U, Pt.locs, Pt.cells, Pt.slots] at X48 l48 y48 z48 st48 hQ48
      subst l48 y48 z48
      obtain ⟨rfl, N48, e48⟩ := hQ48
      have NA48 := Fr.app NA41 N48
      refine Go.back (t' := (T48.setTop (mkF m 95 #[.val (.int p0), .val (.int p1), .val (.int p2), .val (.int p3), .val (.int p4), .val (.int zI), .val (.int zH), .val .null, .val (.ref b29), .val (.ref b35), .val (.ref q41), .unset, .unset, .unset] [(.ref oE)]))) (fun u k => st48.trans k) ?_
      have f50 := (((((F_oE_value.ext E29).keep Kc34 (ninS ne_oE_b29 nin0)).ext E35).keep Kc40 (ninS ne_oE_b35 nin0)).keep Kc41 nin0)
      have f53 := (f45.keep Kc41)
      obtain ⟨cq52, kq52, qa52, qb52, qc52⟩ := isOf hZ e48 f53
      obtain ⟨_, _, ⟨T51, L51, k51, n51⟩, -, X51, ⟨Lc51, hQ51, l51, y51, z51⟩, st51⟩ := X48.virtualBack hx (y := (⟨"java/util/Optional", "isPresent", "()Z"⟩ : MethodName)) (z := (⟨"java/util/Optional", "isPresent", "()Z"⟩ : MethodName)) hown (mvT hZ (hw _ (List.mem_of_getElem? (i := 44) rfl))) (mvT hZ (hw _ (List.mem_of_getElem? (i := 45) rfl))) (notFace_of_selects (args := #[]) (mvT hZ (hw _ (List.mem_of_getElem? (i := 47) rfl)))) (mvT hZ (hw _ (List.mem_of_getElem? (i := 47) rfl))) (mvT hZ (hw _ (List.mem_of_getElem? (i := 46) rfl))) (by decide) (backOf (W := 0) (own_ipN l Z a0 hw [] oE T41.heap n0 Z41 f50) hZ (hw _ (List.mem_of_getElem? (i := 48) rfl)) (hw _ (List.mem_of_getElem? (i := 41) rfl)) (by decide) (by decide)) qa52 qc52 (g := (mkF m 95 #[.val (.int p0), .val (.int p1), .val (.int p2), .val (.int p3), .val (.int p4), .val (.int zI), .val (.int zH), .val .null, .val (.ref b29), .val (.ref b35), .val (.ref q41), .unset, .unset, .unset] [(.ref oE)])) rfl (by rw [hml]; rfl) (Steps.refl _) (argsL := []) (rest := []) (lenOf own_pd18 rfl) rfl (by show 2 * 0 + _ ≤ _; exact Nat.le_of_eq rfl) (hb hby at_95) (fun _ _ => ⟨rfl, e48, (by decide : 6 + 0 ≤ _), (by decide : 15 + 0 ≤ _)⟩)
      dsimp only [Pt.U, Pt.locs, Pt.cells, Pt.slots] at X51 l51 y51 z51 st51 hQ51
      subst l51 y51 z51
      obtain ⟨rfl, N51, e51⟩ := hQ51
      have NA51 := Fr.app NA48 N51
      refine Go.back (t' := (T51.setTop (mkF m 98 #[.val (.int p0), .val (.int p1), .val (.int p2), .val (.int p3), .val (.int p4), .val (.int zI), .val (.int zH), .val .null, .val (.ref b29), .val (.ref b35), .val (.ref q41), .unset, .unset, .unset] [(.int (0 : Int32))]))) (fun u k => st51.trans k) ?_
      refine Go.back (t' := (T51.setTop (mkF m 150 #[.val (.int p0), .val (.int p1), .val (.int p2), .val (.int p3), .val (.int p4), .val (.int zI), .val (.int zH), .val .null, .val (.ref b29), .val (.ref b35), .val (.ref q41), .val (.int (1 : Int32)), .unset, .unset] [(.ref q41)]))) (fun u k => XS.ifNo X51.here hx rfl (hb hby at_98) rfl (XT.i0_ne_f (by decide)) (XT.iconstV X51.here hx rfl (1 : Int32) (hb hby at_101) (by decide) (XS.goto X51.here hx rfl (pc0 := 102) (pc' := 106) rfl (hb hby at_102) (by decide) (by decide) (XS.istore X51.here hx rfl (hb hby at_106) rfl (l' := #[.val (.int p0), .val (.int p1), .val (.int p2), .val (.int p3), .val (.int p4), .val (.int zI), .val (.int zH), .val .null, .val (.ref b29), .val (.ref b35), .val (.ref q41), .val (.int (1 : Int32)), .unset, .unset]) rfl (XS.goto X51.here hx rfl (pc0 := 108) (pc' := 148) rfl (hb hby at_108) (by decide) (by decide) (XS.aload X51.here hx rfl (hb hby at_148) rfl rfl k)))))) ?_
      obtain ⟨cq55, kq55, qa55, qb55, qc55⟩ := isOf hZ e51 P41_0
      obtain ⟨_, _, ⟨T54, L54, k54, n54⟩, -, X54, ⟨Lc54, hQ54, l54, y54, z54⟩, st54⟩ := X51.virtualBack hx (y := (⟨"com/example/binfold/binfold/PackagePart", "headers", "()Lcom/example/binfold/binfold/mime/Headers;"⟩ : MethodName)) (z := (⟨"com/example/binfold/binfold/PackagePart", "headers", "()Lcom/example/binfold/binfold/mime/Headers;"⟩ : MethodName)) hown (mvT hZ (hw _ (List.mem_of_getElem? (i := 51) rfl))) (mvT hZ (hw _ (List.mem_of_getElem? (i := 52) rfl))) (notFace_of_selects (args := #[]) (mvT hZ (hw _ (List.mem_of_getElem? (i := 54) rfl)))) (mvT hZ (hw _ (List.mem_of_getElem? (i := 54) rfl))) (mvT hZ (hw _ (List.mem_of_getElem? (i := 53) rfl))) (by decide) (backOf (W := 0) (own_hdR l Z a0 hw [] q41 b29 T41.heap n0 Z41 P41_3) hZ (hw _ (List.mem_of_getElem? (i := 55) rfl)) (hw _ (List.mem_of_getElem? (i := 23) rfl)) (by decide) (by decide)) qa55 qc55 (g := (mkF m 150 #[.val (.int p0), .val (.int p1), .val (.int p2), .val (.int p3), .val (.int p4), .val (.int zI), .val (.int zH), .val .null, .val (.ref b29), .val (.ref b35), .val (.ref q41), .val (.int (1 : Int32)), .unset, .unset] [(.ref q41)])) rfl (by rw [hml]; rfl) (Steps.refl _) (argsL := []) (rest := []) (lenOf own_pd19 rfl) rfl (by show 2 * 0 + _ ≤ _; exact Nat.le_of_eq rfl) (hb hby at_150) (fun _ _ => ⟨rfl, e51, (by decide : 6 + 0 ≤ _), (by decide : 15 + 0 ≤ _)⟩)
      dsimp only [Pt.U, Pt.locs, Pt.cells, Pt.slots] at X54 l54 y54 z54 st54 hQ54
      subst l54 y54 z54
      obtain ⟨rfl, N54, e54⟩ := hQ54
      have NA54 := Fr.app NA51 N54
      refine Go.back (t' := (T54.setTop (mkF m 153 #[.val (.int p0), .val (.int p1), .val (.int p2), .val (.int p3), .val (.int p4), .val (.int zI), .val (.int zH), .val .null, .val (.ref b29), .val (.ref b35), .val (.ref q41), .val (.int (1 : Int32)), .unset, .unset] [(.ref b29)]))) (fun u k => st54.trans k) ?_
      refine Go.back (t' := (T54.setTop (mkF m 167 #[.val (.int p0), .val (.int p1), .val (.int p2), .val (.int p3), .val (.int p4), .val (.int zI), .val (.int zH), .val .null, .val (.ref b29), .val (.ref b35), .val (.ref q41), .val (.int (1 : Int32)), .val (.int (1 : Int32)), .unset] [(.ref q41)]))) (fun u k => XS.aload X54.here hx rfl (hb hby at_153) rfl rfl (XT.acmpNo X54.here hx rfl (hb hby at_155) rfl rfl rfl (XT.aa_ne_f rfl) (XT.iconstV X54.here hx rfl (1 : Int32) (hb hby at_158) (by decide) (XS.goto X54.here hx rfl (pc0 := 159) (pc' := 163) rfl (hb hby at_159) (by decide) (by decide) (XS.istore X54.here hx rfl (hb hby at_163) rfl (l' := #[.val (.int p0), .val (.int p1), .val (.int p2), .val (.int p3), .val (.int p4), .val (.int zI), .val (.int zH), .val .null, .val (.ref b29), .val (.ref b35), .val (.ref q41), .val (.int (1 : Int32)), .val (.int (1 : Int32)), .unset]) rfl (XS.aload X54.here hx rfl (hb hby at_165) rfl rfl k)))))) ?_
      obtain ⟨cq57, kq57, qa57, qb57, qc57⟩ := isOf hZ e54 P41_0
      obtain ⟨_, _, ⟨T56, L56, k56, n56⟩, -, X56, ⟨Lc56, hQ56, l56, y56, z56⟩, st56⟩ := X54.virtualBack hx (y := (⟨"com/example/binfold/binfold/PackagePart", "decodedLength", "()Ljava/util/OptionalLong;"⟩ : MethodName)) (z := (⟨"com/example/binfold/binfold/PackagePart", "decodedLength", "()Ljava/util/OptionalLong;"⟩ : MethodName)) hown (mvT hZ (hw _ (List.mem_of_getElem? (i := 56) rfl))) (mvT hZ (hw _ (List.mem_of_getElem? (i := 57) rfl))) (notFace_of_selects (args := #[]) (mvT hZ (hw _ (List.mem_of_getElem? (i := 59) rfl)))) (mvT hZ (hw _ (List.mem_of_getElem? (i := 59) rfl))) (mvT hZ (hw _ (List.mem_of_getElem? (i := 58) rfl))) (by decide) (backOf (W := 0) (own_dl l Z a0 hw [] q41 oL T41.heap n0 Z41 P41_1 O41 SL) hZ (hw _ (List.mem_of_getElem? (i := 60) rfl)) (hw _ (List.mem_of_getElem? (i := 23) rfl)) (by decide) (by decide)) qa57 qc57 (g := (mkF m 167 #[.val (.int p0), .val (.int p1), .val (.int p2), .val (.int p3), .val (.int p4), .val (.int zI), .val (.int zH), .val .null, .val (.ref b29), .val (.ref b35), .val (.ref q41), .val (.int (1 : Int32)), .val (.int (1 : Int32)), .unset] [(.ref q41)])) rfl (by rw [hml]; rfl) (Steps.refl _) (argsL := []) (rest := []) (lenOf own_pd14 rfl) rfl (by show 2 * 0 + _ ≤ _; exact Nat.le_of_eq rfl) (hb hby at_167) (fun _ _ => ⟨rfl, e54, (by decide : 6 + 0 ≤ _), (by decide : 15 + 0 ≤ _)⟩)
      dsimp only [Pt.U, Pt.locs, Pt.cells, Pt.slots] at X56 l56 y56 z56 st56 hQ56
      subst l56 y56 z56
      obtain ⟨rfl, N56, e56⟩ := hQ56
      have NA56 := Fr.app NA54 N56
      refine Go.back (t' := (T56.setTop (mkF m 170 #[.val (.int p0), .val (.int p1), .val (.int p2), .val (.int p3), .val (.int p4), .val (.int zI), .val (.int zH), .val .null, .val (.ref b29), .val (.ref b35), .val (.ref q41), .val (.int (1 : Int32)), .val (.int (1 : Int32)), .unset] [(.ref oL)]))) (fun u k => st56.trans k) ?_
      have f58 := (((((F_oL_isPresent.ext E29).keep Kc34 (ninS ne_oL_b29 nin0)).ext E35).keep Kc40 (ninS ne_oL_b35 nin0)).keep Kc41 nin0)
      have f61 := (f46.keep Kc41)
      obtain ⟨cq60, kq60, qa60, qb60, qc60⟩ := isOf hZ e56 f61
      obtain ⟨_, _, ⟨T59, L59, k59, n59⟩, -, X59, ⟨Lc59, hQ59, l59, y59, z59⟩, st59⟩ := X56.virtualBack hx (y := (⟨"java/util/OptionalLong", "isPresent", "()Z"⟩ : MethodName)) (z := (⟨"java/util/OptionalLong", "isPresent", "()Z"⟩ : MethodName)) hown (mvT hZ (hw _ (List.mem_of_getElem? (i := 66) rfl))) (mvT hZ (hw _ (List.mem_of_getElem? (i := 67) rfl))) (notFace_of_selects (args := #[]) (mvT hZ (hw _ (List.mem_of_getElem? (i := 69) rfl)))) (mvT hZ (hw _ (List.mem_of_getElem? (i := 69) rfl))) (mvT hZ (hw _ (List.mem_of_getElem? (i := 68) rfl))) (by decide) (backOf (W := 0) (own_lp l Z a0 hw [] oL T41.heap n0 Z41 f58) hZ (hw _ (List.mem_of_getElem? (i := 70) rfl)) (hw _ (List.mem_of_getElem? (i := 63) rfl)) (by decide) (by decide)) qa60 qc60 (g := (mkF m 170 #[.val (.int p0), .val (.int p1), .val (.int p2), .val (.int p3), .val (.int p4), .val (.int zI), .val (.int zH), .val .null, .val (.ref b29), .val (.ref b35), .val (.ref q41), .val (.int (1 : Int32)), .val (.int (1 : Int32)), .unset] [(.ref oL)])) rfl (by rw [hml]; rfl) (Steps.refl _) (argsL := []) (rest := []) (lenOf own_pd18 rfl) rfl (by show 2 * 0 + _ ≤ _; exact Nat.le_of_eq rfl) (hb hby at_170) (fun _ _ => ⟨rfl, e56, (by decide : 6 + 0 ≤ _), (by decide : 15 + 0 ≤ _)⟩)
      dsimp only [Pt.U, Pt.locs, Pt.cells, Pt.slots] at X59 l59 y59 z59 st59 hQ59
      subst l59 y59 z59
      obtain ⟨rfl, N59, e59⟩ := hQ59
      have NA59 := Fr.app NA56 N59
      refine Go.back (t' := (T59.setTop (mkF m 173 #[.val (.int p0), .val (.int p1), .val (.int p2), .val (.int p3), .val (.int p4), .val (.int zI), .val (.int zH), .val .null, .val (.ref b29), .val (.ref b35), .val (.ref q41), .val (.int (1 : Int32)), .val (.int (1 : Int32)), .unset] [(.int (0 : Int32))]))) (fun u k => st59.trans k) ?_
      refine Go.back (t' := (T59.setTop (mkF m 188 #[.val (.int p0), .val (.int p1), .val (.int p2), .val (.int p3), .val (.int p4), .val (.int zI), .val (.int zH), .val .null, .val (.ref b29), .val (.ref b35), .val (.ref q41), .val (.int (1 : Int32)), .val (.int (1 : Int32)), .val (.int (1 : Int32))] []))) (fun u k => XS.ifNo X59.here hx rfl (hb hby at_173) rfl (XT.i0_ne_f (by decide)) (XT.iconstV X59.here hx rfl (1 : Int32) (hb hby at_176) (by decide) (XS.goto X59.here hx rfl (pc0 := 177) (pc' := 181) rfl (hb hby at_177) (by decide) (by decide) (XS.istore X59.here hx rfl (hb hby at_181) rfl (l' := #[.val (.int p0), .val (.int p1), .val (.int p2), .val (.int p3), .val (.int p4), .val (.int zI), .val (.int zH), .val .null, .val (.ref b29), .val (.ref b35), .val (.ref q41), .val (.int (1 : Int32)), .val (.int (1 : Int32)), .val (.int (1 : Int32))]) rfl (XS.iload X59.here hx rfl (hb hby at_183) rfl (XS.ifNo X59.here hx rfl (hb hby at_185) rfl (XT.i0_eq_f (by decide)) k)))))) ?_
      refine Go.back (t' := (T59.setTop (mkF m 203 #[.val (.int p0), .val (.int p1), .val (.int p2), .val (.int p3), .val (.int p4), .val (.int zI), .val (.int zH), .val .null, .val (.ref b29), .val (.ref b35), .val (.ref q41), .val (.int (1 : Int32)), .val (.int (1 : Int32)), .val (.int (1 : Int32))] [(.int (1 : Int32))]))) (fun u k => XS.iload X59.here hx rfl (hb hby at_188) rfl (XS.ifNo X59.here hx rfl (hb hby at_190) rfl (XT.i0_eq_f (by decide)) (XS.iload X59.here hx rfl (hb hby at_193) rfl (XS.ifNo X59.here hx rfl (hb hby at_195) rfl (XT.i0_eq_f (by decide)) (XT.iconstV X59.here hx rfl (1 : Int32) (hb hby at_198) (by decide) (XS.goto X59.here hx rfl (pc0 := 199) (pc' := 203) rfl (hb hby at_199) (by decide) (by decide) k)))))) ?_
      obtain ⟨fs, hr, hrun, hended, hFW⟩ := Jvm.Stand.leaveW (s := s) (vm₁ := s.vm) X59 hS0 (by rw [e59]; exact hk41) (v := some (.int (1 : Int32))) (fun h => by rw [Bd.returns] at h; cases h)
      refine ⟨_, _, retN X59 hx (t := .boolean) Bd.returns (by simp) (hb hby at_203) hr, hrun, hended, _, _, rfl, ?_, hFW.1, hFW.2.1, hFW.2.2.1, hFW.2.2.2.mono (by decide) (by decide)⟩
      show Q_own_law0 Z p0 p1 p2 p3 p4 gC oE oL eL eA ka wD mO mA mL mR h0 n0 _ T59.heap _
      rw [e59]
      exact ⟨rfl, NA59, K41⟩
  · skip
    refine Go.back (t' := (s₁.setTop (mkF m 36 #[.val (.int p0), .val (.int p1), .val (.int p2), .val (.int p3), .val (.int p4), .val (.int zI), .val (.int zH), .unset, .unset, .unset, .unset, .unset, .unset, .unset] [(.int p3), (.int p2), (.int (p1 &&& (3 : Int32)))]))) (fun u k => XS.ifNo X0.here hx rfl (hb hby at_28) rfl (XT.i0_eq_f hc5) (XS.iloadN X0.here hx rfl (hb hby at_31) rfl (XT.iconstV X0.here hx rfl (3 : Int32) (hb hby at_32) (by decide) (XS.iand X0.here hx rfl (hb hby at_33) rfl (XS.iloadN X0.here hx rfl (hb hby at_34) rfl (XS.iloadN X0.here hx rfl (hb hby at_35) rfl k)))))) ?_
    refine Go.back (t' := (s₁.setTop (mkF m 38 #[.val (.int p0), .val (.int p1), .val (.int p2), .val (.int p3), .val (.int p4), .val (.int zI), .val (.int zH), .unset, .unset, .unset, .unset, .unset, .unset, .unset] [(.int p4), (.int p3), (.int p2), (.int (p1 &&& (3 : Int32)))]))) (fun u k => XS.iload X0.here hx rfl (hb hby at_36) rfl k) ?_
    obtain ⟨_, _, ⟨T62, L62, k62, n62⟩, -, X62, hT62, hg62, ⟨Lc62, hQ62, l62, y62, z62, hC62⟩, st62⟩ := callSS X0 hx (y := (⟨"com/example/binfold/binfold/PartDescriptionPinLaw", "drawn", "(IIII)Ljava/lang/String;"⟩ : MethodName)) hown (mvT hZ (hw _ (List.mem_of_getElem? (i := 73) rfl))) (mvT hZ (hw _ (List.mem_of_getElem? (i := 74) rfl))) (mvT hZ (hw _ (List.mem_of_getElem? (i := 75) rfl))) (mvT hZ (hw _ (List.mem_of_getElem? (i := 76) rfl))) (by decide) (backOfSH (s := s) (vm0 := s.vm) (W := 0) (own_drawn l Z a0 hw [] (p1 &&& (3 : Int32)) p2 p3 p4 gC h0 n0 Z0 Old0 SCS P5) hZ (hw _ (List.mem_of_getElem? (i := 76) rfl)) (hw _ (List.mem_of_getElem? (i := 75) rfl)) (by decide) (by decide) hEL R0.1) (g := (mkF m 38 #[.val (.int p0), .val (.int p1), .val (.int p2), .val (.int p3), .val (.int p4), .val (.int zI), .val (.int zH), .unset, .unset, .unset, .unset, .unset, .unset, .unset] [(.int p4), (.int p3), (.int p2), (.int (p1 &&& (3 : Int32)))])) rfl (by rw [hml]; rfl) (argsL := [(.int (p1 &&& (3 : Int32))), (.int p2), (.int p3), (.int p4)]) (rest := []) (lenOf own_pd20 rfl) rfl (by show 2 * 0 + _ ≤ _; exact Nat.le_of_eq rfl) (hb hby at_38) (fun _ _ => ⟨rfl, e0, (by decide : 0 + 6 ≤ _), (by decide : 0 + 12 ≤ _)⟩)
    dsimp only [Pt.U, Pt.locs, Pt.cells, Pt.slots] at X62 l62 y62 z62 st62 hQ62 hT62 hg62 hC62
    subst l62 y62 z62
    obtain ⟨X62, hS62, hZ, hown⟩ := rebS (s := s) (vm0 := s.vm) hS0 (by rw [e0]; exact hk0) X62 hT62 hg62 hZ hown
    have R62 := R0.trans hC62
    obtain ⟨x62, rfl, N62, Kc62, gb_x62, szc_x62, P62_0⟩ := hQ62
    have NA62 := Fr.app N0 N62
    have Z62 : n0 ≤ T62.heap.size := Nat.le_trans Z0 Kc62.1
    have K62 := K0.trans Kc62 all0
    have O62 := Old0.keep Kc62 all0
    have sz_x62 : h0.size ≤ x62 := Nat.le_trans K0.1 szc_x62
    have ne_eL_x62 : eL ≠ x62 := Nat.ne_of_lt (Nat.lt_of_lt_of_le E_eL.lt szc_x62)
    have ne_eA_x62 : eA ≠ x62 := Nat.ne_of_lt (Nat.lt_of_lt_of_le E_eA.lt szc_x62)
    have ne_oE_x62 : oE ≠ x62 := Nat.ne_of_lt (Nat.lt_of_lt_of_le E_oE.lt szc_x62)
    have ne_oL_x62 : oL ≠ x62 := Nat.ne_of_lt (Nat.lt_of_lt_of_le E_oL.lt szc_x62)
    refine Go.back (t' := (T62.setTop (mkF m 41 #[.val (.int p0), .val (.int p1), .val (.int p2), .val (.int p3), .val (.int p4), .val (.int zI), .val (.int zH), .unset, .unset, .unset, .unset, .unset, .unset, .unset] [(.ref x62)]))) (fun u k => st62.trans k) ?_
    refine Go.back (t' := (T62.setTop (mkF m 49 #[.val (.int p0), .val (.int p1), .val (.int p2), .val (.int p3), .val (.int p4), .val (.int zI), .val (.int zH), .val (.ref x62), .unset, .unset, .unset, .unset, .unset, .unset] [(.int zH)]))) (fun u k => XS.goto X62.here hx rfl (pc0 := 41) (pc' := 45) rfl (hb hby at_41) (by decide) (by decide) (XS.astore X62.here hx rfl (hb hby at_45) rfl rfl (l' := #[.val (.int p0), .val (.int p1), .val (.int p2), .val (.int p3), .val (.int p4), .val (.int zI), .val (.int zH), .val (.ref x62), .unset, .unset, .unset, .unset, .unset, .unset]) rfl (XS.iload X62.here hx rfl (hb hby at_47) rfl k))) ?_
    by_cases hc63 : zH = (0 : Int32)
    · skip
      refine Go.back (t' := (T62.setTop (mkF m 65 #[.val (.int p0), .val (.int p1), .val (.int p2), .val (.int p3), .val (.int p4), .val (.int zI), .val (.int zH), .val (.ref x62), .val .null, .unset, .unset, .unset, .unset, .unset] []))) (fun u k => XS.ifYes X62.here hx rfl (pc0 := 49) (pc' := 62) rfl (hb hby at_49) rfl (XT.i0_eq_t hc63) (by decide) (by decide) (XS.aconstNull X62.here hx rfl (hb hby at_62) (XS.astore X62.here hx rfl (hb hby at_63) rfl rfl (l' := #[.val (.int p0), .val (.int p1), .val (.int p2), .val (.int p3), .val (.int p4), .val (.int zI), .val (.int zH), .val (.ref x62), .val .null, .unset, .unset, .unset, .unset, .unset]) rfl k))) ?_
      obtain ⟨T64, h64, X64, e64, E64, A64, D64, -, st64⟩ := newO X62 hx hZ hown (hw _ (List.mem_of_getElem? (i := 0) rfl)) (hw _ (List.mem_of_getElem? (i := 1) rfl)) (hw _ (List.mem_of_getElem? (i := 2) rfl)) rfl (g := (mkF m 65 #[.val (.int p0), .val (.int p1), .val (.int p2), .val (.int p3), .val (.int p4), .val (.int zI), .val (.int zH), .val (.ref x62), .val .null, .unset, .unset, .unset, .unset, .unset] [])) rfl (hb hby at_65) (by decide) (by decide)
      obtain ⟨b64, g64⟩ : ∃ z, z = T62.heap.size := ⟨_, rfl⟩
      rw [← g64] at A64 D64 st64
      have f65 := (E_eL.keep Kc62)
      have ne_eL_b64 : eL ≠ b64 := Nat.ne_of_lt (Nat.lt_of_lt_of_le f65.lt (Nat.le_of_eq g64.symm))
      have f66 := (E_eA.keep Kc62)
      have ne_eA_b64 : eA ≠ b64 := Nat.ne_of_lt (Nat.lt_of_lt_of_le f66.lt (Nat.le_of_eq g64.symm))
      have f67 := (E_oE.keep Kc62)
      have ne_oE_b64 : oE ≠ b64 := Nat.ne_of_lt (Nat.lt_of_lt_of_le f67.lt (Nat.le_of_eq g64.symm))
      have f68 := (E_oL.keep Kc62)
      have ne_oL_b64 : oL ≠ b64 := Nat.ne_of_lt (Nat.lt_of_lt_of_le f68.lt (Nat.le_of_eq g64.symm))
      have ne_x62_b64 : x62 ≠ b64 := Nat.ne_of_lt (Nat.lt_of_lt_of_le P62_0.lt (Nat.le_of_eq g64.symm))
      have gb64 : n0 ≤ b64 := Nat.le_trans Z62 (Nat.le_of_eq g64.symm)
      have sz64 : h0.size ≤ b64 := Nat.le_trans K62.1 (Nat.le_of_eq g64.symm)
      have Z64 : n0 ≤ h64.size := Nat.le_trans Z62 E64.1
      have K64 := K62.ext E64
      have O64 := O62.ext E64
      have hk64 := Nat.le_trans (Nat.le_refl _) E64.1
      refine Go.back (t' := (T64.setTop (mkF m 68 #[.val (.int p0), .val (.int p1), .val (.int p2), .val (.int p3), .val (.int p4), .val (.int zI), .val (.int zH), .val (.ref x62), .val .null, .unset, .unset, .unset, .unset, .unset] [(.ref b64)]))) st64 ?_
      refine Go.back (t' := (T64.setTop (mkF m 73 #[.val (.int p0), .val (.int p1), .val (.int p2), .val (.int p3), .val (.int p4), .val (.int zI), .val (.int zH), .val (.ref x62), .val .null, .unset, .unset, .unset, .unset, .unset] [.null, (.ref x62), (.ref b64), (.ref b64)]))) (fun u k => XS.dup X64.here hx rfl (hb hby at_68) rfl rfl (XS.aload X64.here hx rfl (hb hby at_69) rfl rfl (XS.aload X64.here hx rfl (hb hby at_71) rfl rfl k))) ?_
      obtain ⟨_, _, ⟨T69, L69, k69, n69⟩, -, X69, ⟨Lc69, hQ69, l69, y69, z69⟩, st69⟩ := X64.specialBack hx (y := (⟨"com/example/binfold/binfold/PackageParts$Part", "<init>", "(Ljava/lang/String;Lcom/example/binfold/binfold/mime/Headers;)V"⟩ : MethodName)) rfl hown (mvT hZ (hw _ (List.mem_of_getElem? (i := 3) rfl))) (mvT hZ (hw _ (List.mem_of_getElem? (i := 4) rfl))) (mvT hZ (hw _ (List.mem_of_getElem? (i := 5) rfl))) (by decide) (backOf (W := 1) (own_ptInitRN l Z a0 hw [] b64 x62 h64 n0 Z64 A64 (D64 (Or.inl (hw _ (List.mem_of_getElem? (i := 11) rfl))) (ty := .long) (by decide)) (D64 (Or.inr (hw _ (List.mem_of_getElem? (i := 13) rfl))) (ty := (.object "java/lang/String")) (by decide)) (D64 (Or.inr (hw _ (List.mem_of_getElem? (i := 15) rfl))) (ty := (.object "com/example/binfold/binfold/mime/Headers")) (by decide)) gb64) hZ (hw _ (List.mem_of_getElem? (i := 5) rfl)) (hw _ (List.mem_of_getElem? (i := 2) rfl)) (by decide) (by decide)) (g := (mkF m 73 #[.val (.int p0), .val (.int p1), .val (.int p2), .val (.int p3), .val (.int p4), .val (.int zI), .val (.int zH), .val (.ref x62), .val .null, .unset, .unset, .unset, .unset, .unset] [.null, (.ref x62), (.ref b64), (.ref b64)])) rfl (by rw [hml]; rfl) (Steps.refl _) (a := b64) (argsL := [(.ref x62), .null]) (rest := [(.ref b64)]) (lenOf own_pd15 rfl) rfl (by show 2 * 0 + _ ≤ _; exact Nat.le_of_eq rfl) (hb hby at_73) (fun _ _ => ⟨rfl, e64, (by decide : 7 + 0 ≤ _), (by decide : 18 + 0 ≤ _)⟩)
      dsimp only [Pt.U, Pt.locs, Pt.cells, Pt.slots] at X69 l69 y69 z69 st69 hQ69
      subst l69 y69 z69
      obtain ⟨rfl, N69, Kc69, P69_0, P69_1, P69_2, P69_3⟩ := hQ69
      have NA69 := Fr.app NA62 N69
      have Z69 : n0 ≤ T69.heap.size := Nat.le_trans Z64 Kc69.1
      have hk69 := Nat.le_trans hk64 Kc69.1
      have K69 := K64.trans Kc69 (allS (Or.inr sz64) all0)
      have O69 := O64.keep Kc69 (allS gb64 all0)
      refine Go.back (t' := (T69.setTop (mkF m 76 #[.val (.int p0), .val (.int p1), .val (.int p2), .val (.int p3), .val (.int p4), .val (.int zI), .val (.int zH), .val (.ref x62), .val .null, .unset, .unset, .unset, .unset, .unset] [(.ref b64)]))) (fun u k => st69.trans k) ?_
      refine Go.back (t' := (T69.setTop (mkF m 80 #[.val (.int p0), .val (.int p1), .val (.int p2), .val (.int p3), .val (.int p4), .val (.int zI), .val (.int zH), .val (.ref x62), .val .null, .val (.ref b64), .unset, .unset, .unset, .unset] [(.ref b64)]))) (fun u k => XS.astore X69.here hx rfl (hb hby at_76) rfl rfl (l' := #[.val (.int p0), .val (.int p1), .val (.int p2), .val (.int p3), .val (.int p4), .val (.int zI), .val (.int zH), .val (.ref x62), .val .null, .val (.ref b64), .unset, .unset, .unset, .unset]) rfl (XS.aload X69.here hx rfl (hb hby at_78) rfl rfl k)) ?_
      obtain ⟨cq71, kq71, qa71, qb71, qc71⟩ := isOf hZ rfl P69_0
      obtain ⟨_, _, ⟨T70, L70, k70, n70⟩, -, X70, ⟨Lc70, hQ70, l70, y70, z70⟩, st70⟩ := X69.virtualBack hx (y := (⟨"com/example/binfold/binfold/PackageParts$Part", "description", "()Lcom/example/binfold/binfold/PackagePart;"⟩ : MethodName)) (z := (⟨"com/example/binfold/binfold/PackageParts$Part", "description", "()Lcom/example/binfold/binfold/PackagePart;"⟩ : MethodName)) hown (mvT hZ (hw _ (List.mem_of_getElem? (i := 16) rfl))) (mvT hZ (hw _ (List.mem_of_getElem? (i := 17) rfl))) (notFace_of_selects (args := #[]) (mvT hZ (hw _ (List.mem_of_getElem? (i := 19) rfl)))) (mvT hZ (hw _ (List.mem_of_getElem? (i := 19) rfl))) (mvT hZ (hw _ (List.mem_of_getElem? (i := 18) rfl))) (by decide) (backOf (W := 0) (own_desRN l Z a0 hw [] b64 x62 T69.heap n0 Z69 P69_0 P69_1 P69_2 P69_3) hZ (hw _ (List.mem_of_getElem? (i := 20) rfl)) (hw _ (List.mem_of_getElem? (i := 2) rfl)) (by decide) (by decide)) qa71 qc71 (g := (mkF m 80 #[.val (.int p0), .val (.int p1), .val (.int p2), .val (.int p3), .val (.int p4), .val (.int zI), .val (.int zH), .val (.ref x62), .val .null, .val (.ref b64), .unset, .unset, .unset, .unset] [(.ref b64)])) rfl (by rw [hml]; rfl) (Steps.refl _) (argsL := []) (rest := []) (lenOf own_pd16 rfl) rfl (by show 2 * 0 + _ ≤ _; exact Nat.le_of_eq rfl) (hb hby at_80) (fun _ _ => ⟨rfl, rfl, (by decide : 7 + 1 ≤ _), (by decide : 18 + 3 ≤ _)⟩)
      dsimp only [Pt.U, Pt.locs, Pt.cells, Pt.slots] at X70 l70 y70 z70 st70 hQ70
      subst l70 y70 z70
      obtain ⟨q70, rfl, N70, Kc70, gb_q70, szc_q70, P70_0, P70_1, P70_2, P70_3⟩ := hQ70
      have NA70 := Fr.app NA69 N70
      have Z70 : n0 ≤ T70.heap.size := Nat.le_trans Z69 Kc70.1
      have hk70 := Nat.le_trans hk69 Kc70.1
      have K70 := K69.trans Kc70 all0
      have O70 := O69.keep Kc70 all0
      have sz_q70 : h0.size ≤ q70 := Nat.le_trans K69.1 szc_q70
      have f72 := ((f65.ext E64).keep Kc69)
      have ne_eL_q70 : eL ≠ q70 := Nat.ne_of_lt (Nat.lt_of_lt_of_le f72.lt szc_q70)
      have f73 := ((f66.ext E64).keep Kc69)
      have ne_eA_q70 : eA ≠ q70 := Nat.ne_of_lt (Nat.lt_of_lt_of_le f73.lt szc_q70)
      have f74 := ((f67.ext E64).keep Kc69)
      have ne_oE_q70 : oE ≠ q70 := Nat.ne_of_lt (Nat.lt_of_lt_of_le f74.lt szc_q70)
      have f75 := ((f68.ext E64).keep Kc69)
      have ne_oL_q70 : oL ≠ q70 := Nat.ne_of_lt (Nat.lt_of_lt_of_le f75.lt szc_q70)
      have f76 := ((P62_0.ext E64).keep Kc69)
      have ne_x62_q70 : x62 ≠ q70 := Nat.ne_of_lt (Nat.lt_of_lt_of_le f76.lt szc_q70)
      have ne_b64_q70 : b64 ≠ q70 := Nat.ne_of_lt (Nat.lt_of_lt_of_le P69_0.lt szc_q70)
      refine Go.back (t' := (T70.setTop (mkF m 83 #[.val (.int p0), .val (.int p1), .val (.int p2), .val (.int p3), .val (.int p4), .val (.int zI), .val (.int zH), .val (.ref x62), .val .null, .val (.ref b64), .unset, .unset, .unset, .unset] [(.ref q70)]))) (fun u k => st70.trans k) ?_
      refine Go.back (t' := (T70.setTop (mkF m 113 #[.val (.int p0), .val (.int p1), .val (.int p2), .val (.int p3), .val (.int p4), .val (.int zI), .val (.int zH), .val (.ref x62), .val .null, .val (.ref b64), .val (.ref q70), .unset, .unset, .unset] [(.ref q70)]))) (fun u k => XS.astore X70.here hx rfl (hb hby at_83) rfl rfl (l' := #[.val (.int p0), .val (.int p1), .val (.int p2), .val (.int p3), .val (.int p4), .val (.int zI), .val (.int zH), .val (.ref x62), .val .null, .val (.ref b64), .val (.ref q70), .unset, .unset, .unset]) rfl (XS.aload X70.here hx rfl (hb hby at_85) rfl rfl (XT.ifnonnullYes X70.here hx rfl (pc0 := 87) (pc' := 111) rfl (hb hby at_87) rfl (by decide) (by decide) (XS.aload X70.here hx rfl (hb hby at_111) rfl rfl k)))) ?_
      obtain ⟨cq78, kq78, qa78, qb78, qc78⟩ := isOf hZ rfl P70_0
      obtain ⟨_, _, ⟨T77, L77, k77, n77⟩, -, X77, ⟨Lc77, hQ77, l77, y77, z77⟩, st77⟩ := X70.virtualBack hx (y := (⟨"com/example/binfold/binfold/PackagePart", "contentId", "()Ljava/util/Optional;"⟩ : MethodName)) (z := (⟨"com/example/binfold/binfold/PackagePart", "contentId", "()Ljava/util/Optional;"⟩ : MethodName)) hown (mvT hZ (hw _ (List.mem_of_getElem? (i := 34) rfl))) (mvT hZ (hw _ (List.mem_of_getElem? (i := 35) rfl))) (notFace_of_selects (args := #[]) (mvT hZ (hw _ (List.mem_of_getElem? (i := 37) rfl)))) (mvT hZ (hw _ (List.mem_of_getElem? (i := 37) rfl))) (mvT hZ (hw _ (List.mem_of_getElem? (i := 36) rfl))) (by decide) (backOf (W := 0) (own_ciR l Z a0 hw [] q70 x62 T70.heap n0 Z70 P70_2) hZ (hw _ (List.mem_of_getElem? (i := 38) rfl)) (hw _ (List.mem_of_getElem? (i := 23) rfl)) (by decide) (by decide)) qa78 qc78 (g := (mkF m 113 #[.val (.int p0), .val (.int p1), .val (.int p2), .val (.int p3), .val (.int p4), .val (.int zI), .val (.int zH), .val (.ref x62), .val .null, .val (.ref b64), .val (.ref q70), .unset, .unset, .unset] [(.ref q70)])) rfl (by rw [hml]; rfl) (Steps.refl _) (argsL := []) (rest := []) (lenOf own_pd17 rfl) rfl (by show 2 * 0 + _ ≤ _; exact Nat.le_of_eq rfl) (hb hby at_113) (fun _ _ => ⟨rfl, rfl, (by decide : 8 + 1 ≤ _), (by decide : 21 + 1 ≤ _)⟩)
      dsimp only [Pt.U, Pt.locs, Pt.cells, Pt.slots] at X77 l77 y77 z77 st77 hQ77
      subst l77 y77 z77
      obtain ⟨q77, rfl, N77, Kc77, gb_q77, szc_q77, P77_0, P77_1⟩ := hQ77
      have NA77 := Fr.app NA70 N77
      have Z77 : n0 ≤ T77.heap.size := Nat.le_trans Z70 Kc77.1
      have hk77 := Nat.le_trans hk70 Kc77.1
      have K77 := K70.trans Kc77 all0
      have O77 := O70.keep Kc77 all0
      have sz_q77 : h0.size ≤ q77 := Nat.le_trans K70.1 szc_q77
      have f79 := (f72.keep Kc70)
      have ne_eL_q77 : eL ≠ q77 := Nat.ne_of_lt (Nat.lt_of_lt_of_le f79.lt szc_q77)
      have f80 := (f73.keep Kc70)
      have ne_eA_q77 : eA ≠ q77 := Nat.ne_of_lt (Nat.lt_of_lt_of_le f80.lt szc_q77)
      have f81 := (f74.keep Kc70)
      have ne_oE_q77 : oE ≠ q77 := Nat.ne_of_lt (Nat.lt_of_lt_of_le f81.lt szc_q77)
      have f82 := (f75.keep Kc70)
      have ne_oL_q77 : oL ≠ q77 := Nat.ne_of_lt (Nat.lt_of_lt_of_le f82.lt szc_q77)
      have f83 := (f76.keep Kc70)
      have ne_x62_q77 : x62 ≠ q77 := Nat.ne_of_lt (Nat.lt_of_lt_of_le f83.lt szc_q77)
      have f84 := (P69_0.keep Kc70)
      have ne_b64_q77 : b64 ≠ q77 := Nat.ne_of_lt (Nat.lt_of_lt_of_le f84.lt szc_q77)
      have ne_q70_q77 : q70 ≠ q77 := Nat.ne_of_lt (Nat.lt_of_lt_of_le P70_0.lt szc_q77)
      refine Go.back (t' := (T77.setTop (mkF m 116 #[.val (.int p0), .val (.int p1), .val (.int p2), .val (.int p3), .val (.int p4), .val (.int zI), .val (.int zH), .val (.ref x62), .val .null, .val (.ref b64), .val (.ref q70), .unset, .unset, .unset] [(.ref q77)]))) (fun u k => st77.trans k) ?_
      obtain ⟨cq86, kq86, qa86, qb86, qc86⟩ := isOf hZ rfl P77_0
      obtain ⟨_, _, ⟨T85, L85, k85, n85⟩, -, X85, ⟨Lc85, hQ85, l85, y85, z85⟩, st85⟩ := X77.virtualBack hx (y := (⟨"java/util/Optional", "isPresent", "()Z"⟩ : MethodName)) (z := (⟨"java/util/Optional", "isPresent", "()Z"⟩ : MethodName)) hown (mvT hZ (hw _ (List.mem_of_getElem? (i := 44) rfl))) (mvT hZ (hw _ (List.mem_of_getElem? (i := 45) rfl))) (notFace_of_selects (args := #[]) (mvT hZ (hw _ (List.mem_of_getElem? (i := 47) rfl)))) (mvT hZ (hw _ (List.mem_of_getElem? (i := 47) rfl))) (mvT hZ (hw _ (List.mem_of_getElem? (i := 46) rfl))) (by decide) (backOf (W := 0) (own_ipR l Z a0 hw [] q77 x62 T77.heap n0 Z77 P77_1) hZ (hw _ (List.mem_of_getElem? (i := 48) rfl)) (hw _ (List.mem_of_getElem? (i := 41) rfl)) (by decide) (by decide)) qa86 qc86 (g := (mkF m 116 #[.val (.int p0), .val (.int p1), .val (.int p2), .val (.int p3), .val (.int p4), .val (.int zI), .val (.int zH), .val (.ref x62), .val .null, .val (.ref b64), .val (.ref q70), .unset, .unset, .unset] [(.ref q77)])) rfl (by rw [hml]; rfl) (Steps.refl _) (argsL := []) (rest := []) (lenOf own_pd18 rfl) rfl (by show 2 * 0 + _ ≤ _; exact Nat.le_of_eq rfl) (hb hby at_116) (fun _ _ => ⟨rfl, rfl, (by decide : 9 + 0 ≤ _), (by decide : 22 + 0 ≤ _)⟩)
      dsimp only [Pt.U, Pt.locs, Pt.cells, Pt.slots] at X85 l85 y85 z85 st85 hQ85
      subst l85 y85 z85
      obtain ⟨rfl, N85, e85⟩ := hQ85
      have NA85 := Fr.app NA77 N85
      refine Go.back (t' := (T85.setTop (mkF m 119 #[.val (.int p0), .val (.int p1), .val (.int p2), .val (.int p3), .val (.int p4), .val (.int zI), .val (.int zH), .val (.ref x62), .val .null, .val (.ref b64), .val (.ref q70), .unset, .unset, .unset] [(.int (1 : Int32))]))) (fun u k => st85.trans k) ?_
      refine Go.back (t' := (T85.setTop (mkF m 124 #[.val (.int p0), .val (.int p1), .val (.int p2), .val (.int p3), .val (.int p4), .val (.int zI), .val (.int zH), .val (.ref x62), .val .null, .val (.ref b64), .val (.ref q70), .unset, .unset, .unset] [(.ref q70)]))) (fun u k => XS.ifNo X85.here hx rfl (hb hby at_119) rfl (XT.i0_eq_f (by decide)) (XS.aload X85.here hx rfl (hb hby at_122) rfl rfl k)) ?_
      have f87 := (P70_2.keep Kc77 nin0)
      have f90 := (P70_0.keep Kc77)
      obtain ⟨cq89, kq89, qa89, qb89, qc89⟩ := isOf hZ e85 f90
      obtain ⟨_, _, ⟨T88, L88, k88, n88⟩, -, X88, ⟨Lc88, hQ88, l88, y88, z88⟩, st88⟩ := X85.virtualBack hx (y := (⟨"com/example/binfold/binfold/PackagePart", "contentId", "()Ljava/util/Optional;"⟩ : MethodName)) (z := (⟨"com/example/binfold/binfold/PackagePart", "contentId", "()Ljava/util/Optional;"⟩ : MethodName)) hown (mvT hZ (hw _ (List.mem_of_getElem? (i := 34) rfl))) (mvT hZ (hw _ (List.mem_of_getElem? (i := 35) rfl))) (notFace_of_selects (args := #[]) (mvT hZ (hw _ (List.mem_of_getElem? (i := 37) rfl)))) (mvT hZ (hw _ (List.mem_of_getElem? (i := 37) rfl))) (mvT hZ (hw _ (List.mem_of_getElem? (i := 36) rfl))) (by decide) (backOf (W := 0) (own_ciR l Z a0 hw [] q70 x62 T77.heap n0 Z77 f87) hZ (hw _ (List.mem_of_getElem? (i := 38) rfl)) (hw _ (List.mem_of_getElem? (i := 23) rfl)) (by decide) (by decide)) qa89 qc89 (g := (mkF m 124 #[.val (.int p0), .val (.int p1), .val (.int p2), .val (.int p3), .val (.int p4), .val (.int zI), .val (.int zH), .val (.ref x62), .val .null, .val (.ref b64), .val (.ref q70), .unset, .unset, .unset] [(.ref q70)])) rfl (by rw [hml]; rfl) (Steps.refl _) (argsL := []) (rest := []) (lenOf own_pd17 rfl) rfl (by show 2 * 0 + _ ≤ _; exact Nat.le_of_eq rfl) (hb hby at_124) (fun _ _ => ⟨rfl, e85, (by decide : 9 + 1 ≤ _), (by decide : 22 + 1 ≤ _)⟩)
      dsimp only [Pt.U, Pt.locs, Pt.cells, Pt.slots] at X88 l88 y88 z88 st88 hQ88
      subst l88 y88 z88
      obtain ⟨q88, rfl, N88, Kc88, gb_q88, szc_q88, P88_0, P88_1⟩ := hQ88
      have NA88 := Fr.app NA85 N88
      have Z88 : n0 ≤ T88.heap.size := Nat.le_trans Z77 Kc88.1
      have hk88 := Nat.le_trans hk77 Kc88.1
      have K88 := K77.trans Kc88 all0
      have O88 := O77.keep Kc88 all0
      have sz_q88 : h0.size ≤ q88 := Nat.le_trans K77.1 szc_q88
      have f91 := (f79.keep Kc77)
      have ne_eL_q88 : eL ≠ q88 := Nat.ne_of_lt (Nat.lt_of_lt_of_le f91.lt szc_q88)
      have f92 := (f80.keep Kc77)
      have ne_eA_q88 : eA ≠ q88 := Nat.ne_of_lt (Nat.lt_of_lt_of_le f92.lt szc_q88)
      have f93 := (f81.keep Kc77)
      have ne_oE_q88 : oE ≠ q88 := Nat.ne_of_lt (Nat.lt_of_lt_of_le f93.lt szc_q88)
      have f94 := (f82.keep Kc77)
      have ne_oL_q88 : oL ≠ q88 := Nat.ne_of_lt (Nat.lt_of_lt_of_le f94.lt szc_q88)
      have f95 := (f83.keep Kc77)
      have ne_x62_q88 : x62 ≠ q88 := Nat.ne_of_lt (Nat.lt_of_lt_of_le f95.lt szc_q88)
      have f96 := (f84.keep Kc77)
      have ne_b64_q88 : b64 ≠ q88 := Nat.ne_of_lt (Nat.lt_of_lt_of_le f96.lt szc_q88)
      have ne_q70_q88 : q70 ≠ q88 := Nat.ne_of_lt (Nat.lt_of_lt_of_le f90.lt szc_q88)
      have ne_q77_q88 : q77 ≠ q88 := Nat.ne_of_lt (Nat.lt_of_lt_of_le P77_0.lt szc_q88)
      refine Go.back (t' := (T88.setTop (mkF m 127 #[.val (.int p0), .val (.int p1), .val (.int p2), .val (.int p3), .val (.int p4), .val (.int zI), .val (.int zH), .val (.ref x62), .val .null, .val (.ref b64), .val (.ref q70), .unset, .unset, .unset] [(.ref q88)]))) (fun u k => st88.trans k) ?_
      obtain ⟨cq98, kq98, qa98, qb98, qc98⟩ := isOf hZ rfl P88_0
      obtain ⟨_, _, ⟨T97, L97, k97, n97⟩, -, X97, ⟨Lc97, hQ97, l97, y97, z97⟩, st97⟩ := X88.virtualBack hx (y := (⟨"java/util/Optional", "get", "()Ljava/lang/Object;"⟩ : MethodName)) (z := (⟨"java/util/Optional", "get", "()Ljava/lang/Object;"⟩ : MethodName)) hown (mvT hZ (hw _ (List.mem_of_getElem? (i := 224) rfl))) (mvT hZ (hw _ (List.mem_of_getElem? (i := 225) rfl))) (notFace_of_selects (args := #[]) (mvT hZ (hw _ (List.mem_of_getElem? (i := 227) rfl)))) (mvT hZ (hw _ (List.mem_of_getElem? (i := 227) rfl))) (mvT hZ (hw _ (List.mem_of_getElem? (i := 226) rfl))) (by decide) (backOf (W := 0) (own_get l Z a0 hw [] q88 x62 T88.heap n0 Z88 P88_1) hZ (hw _ (List.mem_of_getElem? (i := 228) rfl)) (hw _ (List.mem_of_getElem? (i := 41) rfl)) (by decide) (by decide)) qa98 qc98 (g := (mkF m 127 #[.val (.int p0), .val (.int p1), .val (.int p2), .val (.int p3), .val (.int p4), .val (.int zI), .val (.int zH), .val (.ref x62), .val .null, .val (.ref b64), .val (.ref q70), .unset, .unset, .unset] [(.ref q88)])) rfl (by rw [hml]; rfl) (Steps.refl _) (argsL := []) (rest := []) (lenOf own_pd21 rfl) rfl (by show 2 * 0 + _ ≤ _; exact Nat.le_of_eq rfl) (hb hby at_127) (fun _ _ => ⟨rfl, rfl, (by decide : 10 + 0 ≤ _), (by decide : 23 + 0 ≤ _)⟩)
      dsimp only [Pt.U, Pt.locs, Pt.cells, Pt.slots] at X97 l97 y97 z97 st97 hQ97
      subst l97 y97 z97
      obtain ⟨rfl, N97, e97⟩ := hQ97
      have NA97 := Fr.app NA88 N97
      refine Go.back (t' := (T97.setTop (mkF m 130 #[.val (.int p0), .val (.int p1), .val (.int p2), .val (.int p3), .val (.int p4), .val (.int zI), .val (.int zH), .val (.ref x62), .val .null, .val (.ref b64), .val (.ref q70), .unset, .unset, .unset] [(.ref x62)]))) (fun u k => st97.trans k) ?_
      have f99 := (f95.keep Kc88)
      obtain ⟨T100, X100, e100, st100⟩ := castY X97 hx hZ hown (hw _ (List.mem_of_getElem? (i := 77) rfl)) e97 (Ins.self f99) (g := (mkF m 130 #[.val (.int p0), .val (.int p1), .val (.int p2), .val (.int p3), .val (.int p4), .val (.int zI), .val (.int zH), .val (.ref x62), .val .null, .val (.ref b64), .val (.ref q70), .unset, .unset, .unset] [(.ref x62)])) rfl rfl (hb hby at_130)
      refine Go.back (t' := (T100.setTop (mkF m 133 #[.val (.int p0), .val (.int p1), .val (.int p2), .val (.int p3), .val (.int p4), .val (.int zI), .val (.int zH), .val (.ref x62), .val .null, .val (.ref b64), .val (.ref q70), .unset, .unset, .unset] [(.ref x62)]))) st100 ?_
      refine Go.back (t' := (T100.setTop (mkF m 135 #[.val (.int p0), .val (.int p1), .val (.int p2), .val (.int p3), .val (.int p4), .val (.int zI), .val (.int zH), .val (.ref x62), .val .null, .val (.ref b64), .val (.ref q70), .unset, .unset, .unset] [(.ref x62), (.ref x62)]))) (fun u k => XS.aload X100.here hx rfl (hb hby at_133) rfl rfl k) ?_
      obtain ⟨cq102, kq102, qa102, qb102, qc102⟩ := isOf hZ e100 f99
      obtain ⟨_, _, ⟨T101, L101, k101, n101⟩, -, X101, ⟨Lc101, hQ101, l101, y101, z101⟩, st101⟩ := X100.virtualBack hx (y := (⟨"java/lang/String", "equals", "(Ljava/lang/Object;)Z"⟩ : MethodName)) (z := (⟨"java/lang/String", "equals", "(Ljava/lang/Object;)Z"⟩ : MethodName)) hown (mvT hZ (hw _ (List.mem_of_getElem? (i := 229) rfl))) (mvT hZ (hw _ (List.mem_of_getElem? (i := 230) rfl))) (notFace_of_selects (args := #[]) (mvT hZ (hw _ (List.mem_of_getElem? (i := 232) rfl)))) (mvT hZ (hw _ (List.mem_of_getElem? (i := 232) rfl))) (mvT hZ (hw _ (List.mem_of_getElem? (i := 231) rfl))) (by decide) (backOf (W := 0) (own_eq l Z a0 hw [] x62 T88.heap n0 Z88 ) hZ (hw _ (List.mem_of_getElem? (i := 233) rfl)) (hw _ (List.mem_of_getElem? (i := 79) rfl)) (by decide) (by decide)) qa102 qc102 (g := (mkF m 135 #[.val (.int p0), .val (.int p1), .val (.int p2), .val (.int p3), .val (.int p4), .val (.int zI), .val (.int zH), .val (.ref x62), .val .null, .val (.ref b64), .val (.ref q70), .unset, .unset, .unset] [(.ref x62), (.ref x62)])) rfl (by rw [hml]; rfl) (Steps.refl _) (argsL := [(.ref x62)]) (rest := []) (lenOf own_pd22 rfl) rfl (by show 2 * 0 + _ ≤ _; exact Nat.le_of_eq rfl) (hb hby at_135) (fun _ _ => ⟨rfl, e100, (by decide : 10 + 0 ≤ _), (by decide : 23 + 0 ≤ _)⟩)
      dsimp only [Pt.U, Pt.locs, Pt.cells, Pt.slots] at X101 l101 y101 z101 st101 hQ101
      subst l101 y101 z101
      obtain ⟨rfl, N101, e101⟩ := hQ101
      have NA101 := Fr.app NA97 N101
      refine Go.back (t' := (T101.setTop (mkF m 138 #[.val (.int p0), .val (.int p1), .val (.int p2), .val (.int p3), .val (.int p4), .val (.int zI), .val (.int zH), .val (.ref x62), .val .null, .val (.ref b64), .val (.ref q70), .unset, .unset, .unset] [(.int (1 : Int32))]))) (fun u k => st101.trans k) ?_
      refine Go.back (t' := (T101.setTop (mkF m 150 #[.val (.int p0), .val (.int p1), .val (.int p2), .val (.int p3), .val (.int p4), .val (.int zI), .val (.int zH), .val (.ref x62), .val .null, .val (.ref b64), .val (.ref q70), .val (.int (1 : Int32)), .unset, .unset] [(.ref q70)]))) (fun u k => XS.ifNo X101.here hx rfl (hb hby at_138) rfl (XT.i0_eq_f (by decide)) (XT.iconstV X101.here hx rfl (1 : Int32) (hb hby at_141) (by decide) (XS.goto X101.here hx rfl (pc0 := 142) (pc' := 146) rfl (hb hby at_142) (by decide) (by decide) (XS.istore X101.here hx rfl (hb hby at_146) rfl (l' := #[.val (.int p0), .val (.int p1), .val (.int p2), .val (.int p3), .val (.int p4), .val (.int zI), .val (.int zH), .val (.ref x62), .val .null, .val (.ref b64), .val (.ref q70), .val (.int (1 : Int32)), .unset, .unset]) rfl (XS.aload X101.here hx rfl (hb hby at_148) rfl rfl k))))) ?_
      have f103 := ((P70_3.keep Kc77 nin0).keep Kc88 nin0)
      have f106 := (f90.keep Kc88)
      obtain ⟨cq105, kq105, qa105, qb105, qc105⟩ := isOf hZ e101 f106
      obtain ⟨_, _, ⟨T104, L104, k104, n104⟩, -, X104, ⟨Lc104, hQ104, l104, y104, z104⟩, st104⟩ := X101.virtualBack hx (y := (⟨"com/example/binfold/binfold/PackagePart", "headers", "()Lcom/example/binfold/binfold/mime/Headers;"⟩ : MethodName)) (z := (⟨"com/example/binfold/binfold/PackagePart", "headers", "()Lcom/example/binfold/binfold/mime/Headers;"⟩ : MethodName)) hown (mvT hZ (hw _ (List.mem_of_getElem? (i := 51) rfl))) (mvT hZ (hw _ (List.mem_of_getElem? (i := 52) rfl))) (notFace_of_selects (args := #[]) (mvT hZ (hw _ (List.mem_of_getElem? (i := 54) rfl)))) (mvT hZ (hw _ (List.mem_of_getElem? (i := 54) rfl))) (mvT hZ (hw _ (List.mem_of_getElem? (i := 53) rfl))) (by decide) (backOf (W := 0) (own_hdN l Z a0 hw [] q70 T88.heap n0 Z88 f103) hZ (hw _ (List.mem_of_getElem? (i := 55) rfl)) (hw _ (List.mem_of_getElem? (i := 23) rfl)) (by decide) (by decide)) qa105 qc105 (g := (mkF m 150 #[.val (.int p0), .val (.int p1), .val (.int p2), .val (.int p3), .val (.int p4), .val (.int zI), .val (.int zH), .val (.ref x62), .val .null, .val (.ref b64), .val (.ref q70), .val (.int (1 : Int32)), .unset, .unset] [(.ref q70)])) rfl (by rw [hml]; rfl) (Steps.refl _) (argsL := []) (rest := []) (lenOf own_pd19 rfl) rfl (by show 2 * 0 + _ ≤ _; exact Nat.le_of_eq rfl) (hb hby at_150) (fun _ _ => ⟨rfl, e101, (by decide : 10 + 0 ≤ _), (by decide : 23 + 0 ≤ _)⟩)
      dsimp only [Pt.U, Pt.locs, Pt.cells, Pt.slots] at X104 l104 y104 z104 st104 hQ104
      subst l104 y104 z104
      obtain ⟨rfl, N104, e104⟩ := hQ104
      have NA104 := Fr.app NA101 N104
      refine Go.back (t' := (T104.setTop (mkF m 153 #[.val (.int p0), .val (.int p1), .val (.int p2), .val (.int p3), .val (.int p4), .val (.int zI), .val (.int zH), .val (.ref x62), .val .null, .val (.ref b64), .val (.ref q70), .val (.int (1 : Int32)), .unset, .unset] [.null]))) (fun u k => st104.trans k) ?_
      refine Go.back (t' := (T104.setTop (mkF m 167 #[.val (.int p0), .val (.int p1), .val (.int p2), .val (.int p3), .val (.int p4), .val (.int zI), .val (.int zH), .val (.ref x62), .val .null, .val (.ref b64), .val (.ref q70), .val (.int (1 : Int32)), .val (.int (1 : Int32)), .unset] [(.ref q70)]))) (fun u k => XS.aload X104.here hx rfl (hb hby at_153) rfl rfl (XT.acmpNo X104.here hx rfl (hb hby at_155) rfl rfl rfl (XT.aa_ne_f rfl) (XT.iconstV X104.here hx rfl (1 : Int32) (hb hby at_158) (by decide) (XS.goto X104.here hx rfl (pc0 := 159) (pc' := 163) rfl (hb hby at_159) (by decide) (by decide) (XS.istore X104.here hx rfl (hb hby at_163) rfl (l' := #[.val (.int p0), .val (.int p1), .val (.int p2), .val (.int p3), .val (.int p4), .val (.int zI), .val (.int zH), .val (.ref x62), .val .null, .val (.ref b64), .val (.ref q70), .val (.int (1 : Int32)), .val (.int (1 : Int32)), .unset]) rfl (XS.aload X104.here hx rfl (hb hby at_165) rfl rfl k)))))) ?_
      have f107 := ((P70_1.keep Kc77 nin0).keep Kc88 nin0)
      obtain ⟨cq109, kq109, qa109, qb109, qc109⟩ := isOf hZ e104 f106
      obtain ⟨_, _, ⟨T108, L108, k108, n108⟩, -, X108, ⟨Lc108, hQ108, l108, y108, z108⟩, st108⟩ := X104.virtualBack hx (y := (⟨"com/example/binfold/binfold/PackagePart", "decodedLength", "()Ljava/util/OptionalLong;"⟩ : MethodName)) (z := (⟨"com/example/binfold/binfold/PackagePart", "decodedLength", "()Ljava/util/OptionalLong;"⟩ : MethodName)) hown (mvT hZ (hw _ (List.mem_of_getElem? (i := 56) rfl))) (mvT hZ (hw _ (List.mem_of_getElem? (i := 57) rfl))) (notFace_of_selects (args := #[]) (mvT hZ (hw _ (List.mem_of_getElem? (i := 59) rfl)))) (mvT hZ (hw _ (List.mem_of_getElem? (i := 59) rfl))) (mvT hZ (hw _ (List.mem_of_getElem? (i := 58) rfl))) (by decide) (backOf (W := 0) (own_dl l Z a0 hw [] q70 oL T88.heap n0 Z88 f107 O88 SL) hZ (hw _ (List.mem_of_getElem? (i := 60) rfl)) (hw _ (List.mem_of_getElem? (i := 23) rfl)) (by decide) (by decide)) qa109 qc109 (g := (mkF m 167 #[.val (.int p0), .val (.int p1), .val (.int p2), .val (.int p3), .val (.int p4), .val (.int zI), .val (.int zH), .val (.ref x62), .val .null, .val (.ref b64), .val (.ref q70), .val (.int (1 : Int32)), .val (.int (1 : Int32)), .unset] [(.ref q70)])) rfl (by rw [hml]; rfl) (Steps.refl _) (argsL := []) (rest := []) (lenOf own_pd14 rfl) rfl (by show 2 * 0 + _ ≤ _; exact Nat.le_of_eq rfl) (hb hby at_167) (fun _ _ => ⟨rfl, e104, (by decide : 10 + 0 ≤ _), (by decide : 23 + 0 ≤ _)⟩)
      dsimp only [Pt.U, Pt.locs, Pt.cells, Pt.slots] at X108 l108 y108 z108 st108 hQ108
      subst l108 y108 z108
      obtain ⟨rfl, N108, e108⟩ := hQ108
      have NA108 := Fr.app NA104 N108
      refine Go.back (t' := (T108.setTop (mkF m 170 #[.val (.int p0), .val (.int p1), .val (.int p2), .val (.int p3), .val (.int p4), .val (.int zI), .val (.int zH), .val (.ref x62), .val .null, .val (.ref b64), .val (.ref q70), .val (.int (1 : Int32)), .val (.int (1 : Int32)), .unset] [(.ref oL)]))) (fun u k => st108.trans k) ?_
      have f110 := ((((((F_oL_isPresent.keep Kc62 nin0).ext E64).keep Kc69 (ninS ne_oL_b64 nin0)).keep Kc70 nin0).keep Kc77 nin0).keep Kc88 nin0)
      have f113 := (f94.keep Kc88)
      obtain ⟨cq112, kq112, qa112, qb112, qc112⟩ := isOf hZ e108 f113
      obtain ⟨_, _, ⟨T111, L111, k111, n111⟩, -, X111, ⟨Lc111, hQ111, l111, y111, z111⟩, st111⟩ := X108.virtualBack hx (y := (⟨"java/util/OptionalLong", "isPresent", "()Z"⟩ : MethodName)) (z := (⟨"java/util/OptionalLong", "isPresent", "()Z"⟩ : MethodName)) hown (mvT hZ (hw _ (List.mem_of_getElem? (i := 66) rfl))) (mvT hZ (hw _ (List.mem_of_getElem? (i := 67) rfl))) (notFace_of_selects (args := #[]) (mvT hZ (hw _ (List.mem_of_getElem? (i := 69) rfl)))) (mvT hZ (hw _ (List.mem_of_getElem? (i := 69) rfl))) (mvT hZ (hw _ (List.mem_of_getElem? (i := 68) rfl))) (by decide) (backOf (W := 0) (own_lp l Z a0 hw [] oL T88.heap n0 Z88 f110) hZ (hw _ (List.mem_of_getElem? (i := 70) rfl)) (hw _ (List.mem_of_getElem? (i := 63) rfl)) (by decide) (by decide)) qa112 qc112 (g := (mkF m 170 #[.val (.int p0), .val (.int p1), .val (.int p2), .val (.int p3), .val (.int p4), .val (.int zI), .val (.int zH), .val (.ref x62), .val .null, .val (.ref b64), .val (.ref q70), .val (.int (1 : Int32)), .val (.int (1 : Int32)), .unset] [(.ref oL)])) rfl (by rw [hml]; rfl) (Steps.refl _) (argsL := []) (rest := []) (lenOf own_pd18 rfl) rfl (by show 2 * 0 + _ ≤ _; exact Nat.le_of_eq rfl) (hb hby at_170) (fun _ _ => ⟨rfl, e108, (by decide : 10 + 0 ≤ _), (by decide : 23 + 0 ≤ _)⟩)
      dsimp only [Pt.U, Pt.locs, Pt.cells, Pt.slots] at X111 l111 y111 z111 st111 hQ111
      subst l111 y111 z111
      obtain ⟨rfl, N111, e111⟩ := hQ111
      have NA111 := Fr.app NA108 N111
      refine Go.back (t' := (T111.setTop (mkF m 173 #[.val (.int p0), .val (.int p1), .val (.int p2), .val (.int p3), .val (.int p4), .val (.int zI), .val (.int zH), .val (.ref x62), .val .null, .val (.ref b64), .val (.ref q70), .val (.int (1 : Int32)), .val (.int (1 : Int32)), .unset] [(.int (0 : Int32))]))) (fun u k => st111.trans k) ?_
      refine Go.back (t' := (T111.setTop (mkF m 188 #[.val (.int p0), .val (.int p1), .val (.int p2), .val (.int p3), .val (.int p4), .val (.int zI), .val (.int zH), .val (.ref x62), .val .null, .val (.ref b64), .val (.ref q70), .val (.int (1 : Int32)), .val (.int (1 : Int32)), .val (.int (1 : Int32))] []))) (fun u k => XS.ifNo X111.here hx rfl (hb hby at_173) rfl (XT.i0_ne_f (by decide)) (XT.iconstV X111.here hx rfl (1 : Int32) (hb hby at_176) (by decide) (XS.goto X111.here hx rfl (pc0 := 177) (pc' := 181) rfl (hb hby at_177) (by decide) (by decide) (XS.istore X111.here hx rfl (hb hby at_181) rfl (l' := #[.val (.int p0), .val (.int p1), .val (.int p2), .val (.int p3), .val (.int p4), .val (.int zI), .val (.int zH), .val (.ref x62), .val .null, .val (.ref b64), .val (.ref q70), .val (.int (1 : Int32)), .val (.int (1 : Int32)), .val (.int (1 : Int32))]) rfl (XS.iload X111.here hx rfl (hb hby at_183) rfl (XS.ifNo X111.here hx rfl (hb hby at_185) rfl (XT.i0_eq_f (by decide)) k)))))) ?_
      refine Go.back (t' := (T111.setTop (mkF m 203 #[.val (.int p0), .val (.int p1), .val (.int p2), .val (.int p3), .val (.int p4), .val (.int zI), .val (.int zH), .val (.ref x62), .val .null, .val (.ref b64), .val (.ref q70), .val (.int (1 : Int32)), .val (.int (1 : Int32)), .val (.int (1 : Int32))] [(.int (1 : Int32))]))) (fun u k => XS.iload X111.here hx rfl (hb hby at_188) rfl (XS.ifNo X111.here hx rfl (hb hby at_190) rfl (XT.i0_eq_f (by decide)) (XS.iload X111.here hx rfl (hb hby at_193) rfl (XS.ifNo X111.here hx rfl (hb hby at_195) rfl (XT.i0_eq_f (by decide)) (XT.iconstV X111.here hx rfl (1 : Int32) (hb hby at_198) (by decide) (XS.goto X111.here hx rfl (pc0 := 199) (pc' := 203) rfl (hb hby at_199) (by decide) (by decide) k)))))) ?_
      obtain ⟨fs, hr, hrun, hended, hFW⟩ := Jvm.Stand.leaveW (s := s) (vm₁ := T62.vm) X111 hS62 (by rw [e111]; exact hk88) (v := some (.int (1 : Int32))) (fun h => by rw [Bd.returns] at h; cases h)
      refine ⟨_, _, retN X111 hx (t := .boolean) Bd.returns (by simp) (hb hby at_203) hr, hrun, hended, _, _, rfl, ?_, hFW.1, hFW.2.1, hFW.2.2.1, hFW.2.2.2.mono (by decide) (by decide)⟩
      show Q_own_law0 Z p0 p1 p2 p3 p4 gC oE oL eL eA ka wD mO mA mL mR h0 n0 _ T111.heap _
      rw [e111]
      exact ⟨rfl, NA111, K88⟩
    · skip
      refine Go.back (t' := (T62.setTop (mkF m 52 #[.val (.int p0), .val (.int p1), .val (.int p2), .val (.int p3), .val (.int p4), .val (.int zI), .val (.int zH), .val (.ref x62), .unset, .unset, .unset, .unset, .unset, .unset] []))) (fun u k => XS.ifNo X62.here hx rfl (hb hby at_49) rfl (XT.i0_eq_f hc63) k) ?_
      obtain ⟨T114, h114, X114, e114, E114, A114, D114, -, st114⟩ := newO X62 hx hZ hown (hw _ (List.mem_of_getElem? (i := 97) rfl)) (hw _ (List.mem_of_getElem? (i := 98) rfl)) (hw _ (List.mem_of_getElem? (i := 99) rfl)) rfl (g := (mkF m 52 #[.val (.int p0), .val (.int p1), .val (.int p2), .val (.int p3), .val (.int p4), .val (.int zI), .val (.int zH), .val (.ref x62), .unset, .unset, .unset, .unset, .unset, .unset] [])) rfl (hb hby at_52) (by decide) (by decide)
      obtain ⟨b114, g114⟩ : ∃ z, z = T62.heap.size := ⟨_, rfl⟩
      rw [← g114] at A114 D114 st114
      have f115 := (E_eL.keep Kc62)
      have ne_eL_b114 : eL ≠ b114 := Nat.ne_of_lt (Nat.lt_of_lt_of_le f115.lt (Nat.le_of_eq g114.symm))
      have f116 := (E_eA.keep Kc62)
      have ne_eA_b114 : eA ≠ b114 := Nat.ne_of_lt (Nat.lt_of_lt_of_le f116.lt (Nat.le_of_eq g114.symm))
      have f117 := (E_oE.keep Kc62)
      have ne_oE_b114 : oE ≠ b114 := Nat.ne_of_lt (Nat.lt_of_lt_of_le f117.lt (Nat.le_of_eq g114.symm))
      have f118 := (E_oL.keep Kc62)
      have ne_oL_b114 : oL ≠ b114 := Nat.ne_of_lt (Nat.lt_of_lt_of_le f118.lt (Nat.le_of_eq g114.symm))
      have ne_x62_b114 : x62 ≠ b114 := Nat.ne_of_lt (Nat.lt_of_lt_of_le P62_0.lt (Nat.le_of_eq g114.symm))
      have gb114 : n0 ≤ b114 := Nat.le_trans Z62 (Nat.le_of_eq g114.symm)
      have sz114 : h0.size ≤ b114 := Nat.le_trans K62.1 (Nat.le_of_eq g114.symm)
      have Z114 : n0 ≤ h114.size := Nat.le_trans Z62 E114.1
      have K114 := K62.ext E114
      have O114 := O62.ext E114
      have hk114 := Nat.le_trans (Nat.le_refl _) E114.1
      refine Go.back (t' := (T114.setTop (mkF m 55 #[.val (.int p0), .val (.int p1), .val (.int p2), .val (.int p3), .val (.int p4), .val (.int zI), .val (.int zH), .val (.ref x62), .unset, .unset, .unset, .unset, .unset, .unset] [(.ref b114)]))) st114 ?_
      refine Go.back (t' := (T114.setTop (mkF m 56 #[.val (.int p0), .val (.int p1), .val (.int p2), .val (.int p3), .val (.int p4), .val (.int zI), .val (.int zH), .val (.ref x62), .unset, .unset, .unset, .unset, .unset, .unset] [(.ref b114), (.ref b114)]))) (fun u k => XS.dup X114.here hx rfl (hb hby at_55) rfl rfl k) ?_
      have f119 := (f115.ext E114)
      have f120 := ((F_eL_elements.keep Kc62 nin0).ext E114)
      have f121 := (f116.ext E114)
      have f122 := ((V_eA.keep Kc62 nin0).ext E114)
      obtain ⟨_, _, ⟨T123, L123, k123, n123⟩, -, X123, ⟨Lc123, hQ123, l123, y123, z123⟩, st123⟩ := X114.specialBack hx (y := (⟨"com/example/binfold/binfold/mime/Headers", "<init>", "()V"⟩ : MethodName)) rfl hown (mvT hZ (hw _ (List.mem_of_getElem? (i := 100) rfl))) (mvT hZ (hw _ (List.mem_of_getElem? (i := 101) rfl))) (mvT hZ (hw _ (List.mem_of_getElem? (i := 102) rfl))) (by decide) (backOf (W := 1) (own_hd0 l Z a0 hw [] b114 eL eA ka wD mO mA mL mR h114 n0 Z114 A114 (D114 (Or.inr (hw _ (List.mem_of_getElem? (i := 216) rfl))) (ty := (.object "java/util/List")) (by decide)) gb114 O114 SEL f119 f120 f121 f122 M_mO M_mA M_mL M_mR SED (Ne.symm ne_eL_b114) (Ne.symm ne_eA_b114)) hZ (hw _ (List.mem_of_getElem? (i := 102) rfl)) (hw _ (List.mem_of_getElem? (i := 99) rfl)) (by decide) (by decide)) (g := (mkF m 56 #[.val (.int p0), .val (.int p1), .val (.int p2), .val (.int p3), .val (.int p4), .val (.int zI), .val (.int zH), .val (.ref x62), .unset, .unset, .unset, .unset, .unset, .unset] [(.ref b114), (.ref b114)])) rfl (by rw [hml]; rfl) (Steps.refl _) (a := b114) (argsL := []) (rest := [(.ref b114)]) (lenOf own_pd5 rfl) rfl (by show 2 * 0 + _ ≤ _; exact Nat.le_of_eq rfl) (hb hby at_56) (fun _ _ => ⟨rfl, e114, (by decide : 7 + 3 ≤ _), (by decide : 13 + 5 ≤ _)⟩)
      dsimp only [Pt.U, Pt.locs, Pt.cells, Pt.slots] at X123 l123 y123 z123 st123 hQ123
      subst l123 y123 z123
      obtain ⟨rfl, N123, Kc123, P123_0⟩ := hQ123
      have NA123 := Fr.app NA62 N123
      have Z123 : n0 ≤ T123.heap.size := Nat.le_trans Z114 Kc123.1
      have hk123 := Nat.le_trans hk114 Kc123.1
      have K123 := K114.trans Kc123 (allS (Or.inr sz114) all0)
      have O123 := O114.keep Kc123 (allS gb114 all0)
      refine Go.back (t' := (T123.setTop (mkF m 59 #[.val (.int p0), .val (.int p1), .val (.int p2), .val (.int p3), .val (.int p4), .val (.int zI), .val (.int zH), .val (.ref x62), .unset, .unset, .unset, .unset, .unset, .unset] [(.ref b114)]))) (fun u k => st123.trans k) ?_
      refine Go.back (t' := (T123.setTop (mkF m 65 #[.val (.int p0), .val (.int p1), .val (.int p2), .val (.int p3), .val (.int p4), .val (.int zI), .val (.int zH), .val (.ref x62), .val (.ref b114), .unset, .unset, .unset, .unset, .unset] []))) (fun u k => XS.goto X123.here hx rfl (pc0 := 59) (pc' := 63) rfl (hb hby at_59) (by decide) (by decide) (XS.astore X123.here hx rfl (hb hby at_63) rfl rfl (l' := #[.val (.int p0), .val (.int p1), .val (.int p2), .val (.int p3), .val (.int p4), .val (.int zI), .val (.int zH), .val (.ref x62), .val (.ref b114), .unset, .unset, .unset, .unset, .unset]) rfl k)) ?_
      obtain ⟨T124, h124, X124, e124, E124, A124, D124, -, st124⟩ := newO X123 hx hZ hown (hw _ (List.mem_of_getElem? (i := 0) rfl)) (hw _ (List.mem_of_getElem? (i := 1) rfl)) (hw _ (List.mem_of_getElem? (i := 2) rfl)) rfl (g := (mkF m 65 #[.val (.int p0), .val (.int p1), .val (.int p2), .val (.int p3), .val (.int p4), .val (.int zI), .val (.int zH), .val (.ref x62), .val (.ref b114), .unset, .unset, .unset, .unset, .unset] [])) rfl (hb hby at_65) (by decide) (by decide)
      obtain ⟨b124, g124⟩ : ∃ z, z = T123.heap.size := ⟨_, rfl⟩
      rw [← g124] at A124 D124 st124
      have f125 := (f119.keep Kc123)
      have ne_eL_b124 : eL ≠ b124 := Nat.ne_of_lt (Nat.lt_of_lt_of_le f125.lt (Nat.le_of_eq g124.symm))
      have f126 := (f121.keep Kc123)
      have ne_eA_b124 : eA ≠ b124 := Nat.ne_of_lt (Nat.lt_of_lt_of_le f126.lt (Nat.le_of_eq g124.symm))
      have f127 := ((f117.ext E114).keep Kc123)
      have ne_oE_b124 : oE ≠ b124 := Nat.ne_of_lt (Nat.lt_of_lt_of_le f127.lt (Nat.le_of_eq g124.symm))
      have f128 := ((f118.ext E114).keep Kc123)
      have ne_oL_b124 : oL ≠ b124 := Nat.ne_of_lt (Nat.lt_of_lt_of_le f128.lt (Nat.le_of_eq g124.symm))
      have f129 := ((P62_0.ext E114).keep Kc123)
      have ne_x62_b124 : x62 ≠ b124 := Nat.ne_of_lt (Nat.lt_of_lt_of_le f129.lt (Nat.le_of_eq g124.symm))
      have ne_b114_b124 : b114 ≠ b124 := Nat.ne_of_lt (Nat.lt_of_lt_of_le P123_0.lt (Nat.le_of_eq g124.symm))
      have gb124 : n0 ≤ b124 := Nat.le_trans Z123 (Nat.le_of_eq g124.symm)
      have sz124 : h0.size ≤ b124 := Nat.le_trans K123.1 (Nat.le_of_eq g124.symm)
      have Z124 : n0 ≤ h124.size := Nat.le_trans Z123 E124.1
      have K124 := K123.ext E124
      have O124 := O123.ext E124
      have hk124 := Nat.le_trans hk123 E124.1
      refine Go.back (t' := (T124.setTop (mkF m 68 #[.val (.int p0), .val (.int p1), .val (.int p2), .val (.int p3), .val (.int p4), .val (.int zI), .val (.int zH), .val (.ref x62), .val (.ref b114), .unset, .unset, .unset, .unset, .unset] [(.ref b124)]))) st124 ?_
      refine Go.back (t' := (T124.setTop (mkF m 73 #[.val (.int p0), .val (.int p1), .val (.int p2), .val (.int p3), .val (.int p4), .val (.int zI), .val (.int zH), .val (.ref x62), .val (.ref b114), .unset, .unset, .unset, .unset, .unset] [(.ref b114), (.ref x62), (.ref b124), (.ref b124)]))) (fun u k => XS.dup X124.here hx rfl (hb hby at_68) rfl rfl (XS.aload X124.here hx rfl (hb hby at_69) rfl rfl (XS.aload X124.here hx rfl (hb hby at_71) rfl rfl k))) ?_
      obtain ⟨_, _, ⟨T130, L130, k130, n130⟩, -, X130, ⟨Lc130, hQ130, l130, y130, z130⟩, st130⟩ := X124.specialBack hx (y := (⟨"com/example/binfold/binfold/PackageParts$Part", "<init>", "(Ljava/lang/String;Lcom/example/binfold/binfold/mime/Headers;)V"⟩ : MethodName)) rfl hown (mvT hZ (hw _ (List.mem_of_getElem? (i := 3) rfl))) (mvT hZ (hw _ (List.mem_of_getElem? (i := 4) rfl))) (mvT hZ (hw _ (List.mem_of_getElem? (i := 5) rfl))) (by decide) (backOf (W := 1) (own_ptInitRR l Z a0 hw [] b124 x62 b114 h124 n0 Z124 A124 (D124 (Or.inl (hw _ (List.mem_of_getElem? (i := 11) rfl))) (ty := .long) (by decide)) (D124 (Or.inr (hw _ (List.mem_of_getElem? (i := 13) rfl))) (ty := (.object "java/lang/String")) (by decide)) (D124 (Or.inr (hw _ (List.mem_of_getElem? (i := 15) rfl))) (ty := (.object "com/example/binfold/binfold/mime/Headers")) (by decide)) gb124) hZ (hw _ (List.mem_of_getElem? (i := 5) rfl)) (hw _ (List.mem_of_getElem? (i := 2) rfl)) (by decide) (by decide)) (g := (mkF m 73 #[.val (.int p0), .val (.int p1), .val (.int p2), .val (.int p3), .val (.int p4), .val (.int zI), .val (.int zH), .val (.ref x62), .val (.ref b114), .unset, .unset, .unset, .unset, .unset] [(.ref b114), (.ref x62), (.ref b124), (.ref b124)])) rfl (by rw [hml]; rfl) (Steps.refl _) (a := b124) (argsL := [(.ref x62), (.ref b114)]) (rest := [(.ref b124)]) (lenOf own_pd15 rfl) rfl (by show 2 * 0 + _ ≤ _; exact Nat.le_of_eq rfl) (hb hby at_73) (fun _ _ => ⟨rfl, e124, (by decide : 11 + 0 ≤ _), (by decide : 24 + 0 ≤ _)⟩)
      dsimp only [Pt.U, Pt.locs, Pt.cells, Pt.slots] at X130 l130 y130 z130 st130 hQ130
      subst l130 y130 z130
      obtain ⟨rfl, N130, Kc130, P130_0, P130_1, P130_2, P130_3⟩ := hQ130
      have NA130 := Fr.app NA123 N130
      have Z130 : n0 ≤ T130.heap.size := Nat.le_trans Z124 Kc130.1
      have hk130 := Nat.le_trans hk124 Kc130.1
      have K130 := K124.trans Kc130 (allS (Or.inr sz124) all0)
      have O130 := O124.keep Kc130 (allS gb124 all0)
      refine Go.back (t' := (T130.setTop (mkF m 76 #[.val (.int p0), .val (.int p1), .val (.int p2), .val (.int p3), .val (.int p4), .val (.int zI), .val (.int zH), .val (.ref x62), .val (.ref b114), .unset, .unset, .unset, .unset, .unset] [(.ref b124)]))) (fun u k => st130.trans k) ?_
      refine Go.back (t' := (T130.setTop (mkF m 80 #[.val (.int p0), .val (.int p1), .val (.int p2), .val (.int p3), .val (.int p4), .val (.int zI), .val (.int zH), .val (.ref x62), .val (.ref b114), .val (.ref b124), .unset, .unset, .unset, .unset] [(.ref b124)]))) (fun u k => XS.astore X130.here hx rfl (hb hby at_76) rfl rfl (l' := #[.val (.int p0), .val (.int p1), .val (.int p2), .val (.int p3), .val (.int p4), .val (.int zI), .val (.int zH), .val (.ref x62), .val (.ref b114), .val (.ref b124), .unset, .unset, .unset, .unset]) rfl (XS.aload X130.here hx rfl (hb hby at_78) rfl rfl k)) ?_
      obtain ⟨cq132, kq132, qa132, qb132, qc132⟩ := isOf hZ rfl P130_0
      obtain ⟨_, _, ⟨T131, L131, k131, n131⟩, -, X131, ⟨Lc131, hQ131, l131, y131, z131⟩, st131⟩ := X130.virtualBack hx (y := (⟨"com/example/binfold/binfold/PackageParts$Part", "description", "()Lcom/example/binfold/binfold/PackagePart;"⟩ : MethodName)) (z := (⟨"com/example/binfold/binfold/PackageParts$Part", "description", "()Lcom/example/binfold/binfold/PackagePart;"⟩ : MethodName)) hown (mvT hZ (hw _ (List.mem_of_getElem? (i := 16) rfl))) (mvT hZ (hw _ (List.mem_of_getElem? (i := 17) rfl))) (notFace_of_selects (args := #[]) (mvT hZ (hw _ (List.mem_of_getElem? (i := 19) rfl)))) (mvT hZ (hw _ (List.mem_of_getElem? (i := 19) rfl))) (mvT hZ (hw _ (List.mem_of_getElem? (i := 18) rfl))) (by decide) (backOf (W := 0) (own_desRR l Z a0 hw [] b124 x62 b114 T130.heap n0 Z130 P130_0 P130_1 P130_2 P130_3) hZ (hw _ (List.mem_of_getElem? (i := 20) rfl)) (hw _ (List.mem_of_getElem? (i := 2) rfl)) (by decide) (by decide)) qa132 qc132 (g := (mkF m 80 #[.val (.int p0), .val (.int p1), .val (.int p2), .val (.int p3), .val (.int p4), .val (.int zI), .val (.int zH), .val (.ref x62), .val (.ref b114), .val (.ref b124), .unset, .unset, .unset, .unset] [(.ref b124)])) rfl (by rw [hml]; rfl) (Steps.refl _) (argsL := []) (rest := []) (lenOf own_pd16 rfl) rfl (by show 2 * 0 + _ ≤ _; exact Nat.le_of_eq rfl) (hb hby at_80) (fun _ _ => ⟨rfl, rfl, (by decide : 11 + 1 ≤ _), (by decide : 24 + 3 ≤ _)⟩)
      dsimp only [Pt.U, Pt.locs, Pt.cells, Pt.slots] at X131 l131 y131 z131 st131 hQ131
      subst l131 y131 z131
      obtain ⟨q131, rfl, N131, Kc131, gb_q131, szc_q131, P131_0, P131_1, P131_2, P131_3⟩ := hQ131
      have NA131 := Fr.app NA130 N131
      have Z131 : n0 ≤ T131.heap.size := Nat.le_trans Z130 Kc131.1
      have hk131 := Nat.le_trans hk130 Kc131.1
      have K131 := K130.trans Kc131 all0
      have O131 := O130.keep Kc131 all0
      have sz_q131 : h0.size ≤ q131 := Nat.le_trans K130.1 szc_q131
      have f133 := ((f125.ext E124).keep Kc130)
      have ne_eL_q131 : eL ≠ q131 := Nat.ne_of_lt (Nat.lt_of_lt_of_le f133.lt szc_q131)
      have f134 := ((f126.ext E124).keep Kc130)
      have ne_eA_q131 : eA ≠ q131 := Nat.ne_of_lt (Nat.lt_of_lt_of_le f134.lt szc_q131)
      have f135 := ((f127.ext E124).keep Kc130)
      have ne_oE_q131 : oE ≠ q131 := Nat.ne_of_lt (Nat.lt_of_lt_of_le f135.lt szc_q131)
      have f136 := ((f128.ext E124).keep Kc130)
      have ne_oL_q131 : oL ≠ q131 := Nat.ne_of_lt (Nat.lt_of_lt_of_le f136.lt szc_q131)
      have f137 := ((f129.ext E124).keep Kc130)
      have ne_x62_q131 : x62 ≠ q131 := Nat.ne_of_lt (Nat.lt_of_lt_of_le f137.lt szc_q131)
      have f138 := ((P123_0.ext E124).keep Kc130)
      have ne_b114_q131 : b114 ≠ q131 := Nat.ne_of_lt (Nat.lt_of_lt_of_le f138.lt szc_q131)
      have ne_b124_q131 : b124 ≠ q131 := Nat.ne_of_lt (Nat.lt_of_lt_of_le P130_0.lt szc_q131)
      refine Go.back (t' := (T131.setTop (mkF m 83 #[.val (.int p0), .val (.int p1), .val (.int p2), .val (.int p3), .val (.int p4), .val (.int zI), .val (.int zH), .val (.ref x62), .val (.ref b114), .val (.ref b124), .unset, .unset, .unset, .unset] [(.ref q131)]))) (fun u k => st131.trans k) ?_
      refine Go.back (t' := (T131.setTop (mkF m 113 #[.val (.int p0), .val (.int p1), .val (.int p2), .val (.int p3), .val (.int p4), .val (.int zI), .val (.int zH), .val (.ref x62), .val (.ref b114), .val (.ref b124), .val (.ref q131), .unset, .unset, .unset] [(.ref q131)]))) (fun u k => XS.astore X131.here hx rfl (hb hby at_83) rfl rfl (l' := #[.val (.int p0), .val (.int p1), .val (.int p2), .val (.int p3), .val (.int p4), .val (.int zI), .val (.int zH), .val (.ref x62), .val (.ref b114), .val (.ref b124), .val (.ref q131), .unset, .unset, .unset]) rfl (XS.aload X131.here hx rfl (hb hby at_85) rfl rfl (XT.ifnonnullYes X131.here hx rfl (pc0 := 87) (pc' := 111) rfl (hb hby at_87) rfl (by decide) (by decide) (XS.aload X131.here hx rfl (hb hby at_111) rfl rfl k)))) ?_
      obtain ⟨cq140, kq140, qa140, qb140, qc140⟩ := isOf hZ rfl P131_0
      obtain ⟨_, _, ⟨T139, L139, k139, n139⟩, -, X139, ⟨Lc139, hQ139, l139, y139, z139⟩, st139⟩ := X131.virtualBack hx (y := (⟨"com/example/binfold/binfold/PackagePart", "contentId", "()Ljava/util/Optional;"⟩ : MethodName)) (z := (⟨"com/example/binfold/binfold/PackagePart", "contentId", "()Ljava/util/Optional;"⟩ : MethodName)) hown (mvT hZ (hw _ (List.mem_of_getElem? (i := 34) rfl))) (mvT hZ (hw _ (List.mem_of_getElem? (i := 35) rfl))) (notFace_of_selects (args := #[]) (mvT hZ (hw _ (List.mem_of_getElem? (i := 37) rfl)))) (mvT hZ (hw _ (List.mem_of_getElem? (i := 37) rfl))) (mvT hZ (hw _ (List.mem_of_getElem? (i := 36) rfl))) (by decide) (backOf (W := 0) (own_ciR l Z a0 hw [] q131 x62 T131.heap n0 Z131 P131_2) hZ (hw _ (List.mem_of_getElem? (i := 38) rfl)) (hw _ (List.mem_of_getElem? (i := 23) rfl)) (by decide) (by decide)) qa140 qc140 (g := (mkF m 113 #[.val (.int p0), .val (.int p1), .val (.int p2), .val (.int p3), .val (.int p4), .val (.int zI), .val (.int zH), .val (.ref x62), .val (.ref b114), .val (.ref b124), .val (.ref q131), .unset, .unset, .unset] [(.ref q131)])) rfl (by rw [hml]; rfl) (Steps.refl _) (argsL := []) (rest := []) (lenOf own_pd17 rfl) rfl (by show 2 * 0 + _ ≤ _; exact Nat.le_of_eq rfl) (hb hby at_113) (fun _ _ => ⟨rfl, rfl, (by decide : 12 + 1 ≤ _), (by decide : 27 + 1 ≤ _)⟩)
      dsimp only [Pt.U, Pt.locs, Pt.cells, Pt.slots] at X139 l139 y139 z139 st139 hQ139
      subst l139 y139 z139
      obtain ⟨q139, rfl, N139, Kc139, gb_q139, szc_q139, P139_0, P139_1⟩ := hQ139
      have NA139 := Fr.app NA131 N139
      have Z139 : n0 ≤ T139.heap.size := Nat.le_trans Z131 Kc139.1
      have hk139 := Nat.le_trans hk131 Kc139.1
      have K139 := K131.trans Kc139 all0
      have O139 := O131.keep Kc139 all0
      have sz_q139 : h0.size ≤ q139 := Nat.le_trans K131.1 szc_q139
      have f141 := (f133.keep Kc131)
      have ne_eL_q139 : eL ≠ q139 := Nat.ne_of_lt (Nat.lt_of_lt_of_le f141.lt szc_q139)
      have f142 := (f134.keep Kc131)
      have ne_eA_q139 : eA ≠ q139 := Nat.ne_of_lt (Nat.lt_of_lt_of_le f142.lt szc_q139)
      have f143 := (f135.keep Kc131)
      have ne_oE_q139 : oE ≠ q139 := Nat.ne_of_lt (Nat.lt_of_lt_of_le f143.lt szc_q139)
      have f144 := (f136.keep Kc131)
      have ne_oL_q139 : oL ≠ q139 := Nat.ne_of_lt (Nat.lt_of_lt_of_le f144.lt szc_q139)
      have f145 := (f137.keep Kc131)
      have ne_x62_q139 : x62 ≠ q139 := Nat.ne_of_lt (Nat.lt_of_lt_of_le f145.lt szc_q139)
      have f146 := (f138.keep Kc131)
      have ne_b114_q139 : b114 ≠ q139 := Nat.ne_of_lt (Nat.lt_of_lt_of_le f146.lt szc_q139)
      have f147 := (P130_0.keep Kc131)
      have ne_b124_q139 : b124 ≠ q139 := Nat.ne_of_lt (Nat.lt_of_lt_of_le f147.lt szc_q139)
      have ne_q131_q139 : q131 ≠ q139 := Nat.ne_of_lt (Nat.lt_of_lt_of_le P131_0.lt szc_q139)
      refine Go.back (t' := (T139.setTop (mkF m 116 #[.val (.int p0), .val (.int p1), .val (.int p2), .val (.int p3), .val (.int p4), .val (.int zI), .val (.int zH), .val (.ref x62), .val (.ref b114), .val (.ref b124), .val (.ref q131), .unset, .unset, .unset] [(.ref q139)]))) (fun u k => st139.trans k) ?_
      obtain ⟨cq149, kq149, qa149, qb149, qc149⟩ := isOf hZ rfl P139_0
      obtain ⟨_, _, ⟨T148, L148, k148, n148⟩, -, X148, ⟨Lc148, hQ148, l148, y148, z148⟩, st148⟩ := X139.virtualBack hx (y := (⟨"java/util/Optional", "isPresent", "()Z"⟩ : MethodName)) (z := (⟨"java/util/Optional", "isPresent", "()Z"⟩ : MethodName)) hown (mvT hZ (hw _ (List.mem_of_getElem? (i := 44) rfl))) (mvT hZ (hw _ (List.mem_of_getElem? (i := 45) rfl))) (notFace_of_selects (args := #[]) (mvT hZ (hw _ (List.mem_of_getElem? (i := 47) rfl)))) (mvT hZ (hw _ (List.mem_of_getElem? (i := 47) rfl))) (mvT hZ (hw _ (List.mem_of_getElem? (i := 46) rfl))) (by decide) (backOf (W := 0) (own_ipR l Z a0 hw [] q139 x62 T139.heap n0 Z139 P139_1) hZ (hw _ (List.mem_of_getElem? (i := 48) rfl)) (hw _ (List.mem_of_getElem? (i := 41) rfl)) (by decide) (by decide)) qa149 qc149 (g := (mkF m 116 #[.val (.int p0), .val (.int p1), .val (.int p2), .val (.int p3), .val (.int p4), .val (.int zI), .val (.int zH), .val (.ref x62), .val (.ref b114), .val (.ref b124), .val (.ref q131), .unset, .unset, .unset] [(.ref q139)])) rfl (by rw [hml]; rfl) (Steps.refl _) (argsL := []) (rest := []) (lenOf own_pd18 rfl) rfl (by show 2 * 0 + _ ≤ _; exact Nat.le_of_eq rfl) (hb hby at_116) (fun _ _ => ⟨rfl, rfl, (by decide : 13 + 0 ≤ _), (by decide : 28 + 0 ≤ _)⟩)
      dsimp only [Pt.U, Pt.locs, Pt.cells, Pt.slots] at X148 l148 y148 z148 st148 hQ148
      subst l148 y148 z148
      obtain ⟨rfl, N148, e148⟩ := hQ148
      have NA148 := Fr.app NA139 N148
      refine Go.back (t' := (T148.setTop (mkF m 119 #[.val (.int p0), .val (.int p1), .val (.int p2), .val (.int p3), .val (.int p4), .val (.int zI), .val (.int zH), .val (.ref x62), .val (.ref b114), .val (.ref b124), .val (.ref q131), .unset, .unset, .unset] [(.int (1 : Int32))]))) (fun u k => st148.trans k) ?_
      refine Go.back (t' := (T148.setTop (mkF m 124 #[.val (.int p0), .val (.int p1), .val (.int p2), .val (.int p3), .val (.int p4), .val (.int zI), .val (.int zH), .val (.ref x62), .val (.ref b114), .val (.ref b124), .val (.ref q131), .unset, .unset, .unset] [(.ref q131)]))) (fun u k => XS.ifNo X148.here hx rfl (hb hby at_119) rfl (XT.i0_eq_f (by decide)) (XS.aload X148.here hx rfl (hb hby at_122) rfl rfl k)) ?_
      have f150 := (P131_2.keep Kc139 nin0)
      have f153 := (P131_0.keep Kc139)
      obtain ⟨cq152, kq152, qa152, qb152, qc152⟩ := isOf hZ e148 f153
      obtain ⟨_, _, ⟨T151, L151, k151, n151⟩, -, X151, ⟨Lc151, hQ151, l151, y151, z151⟩, st151⟩ := X148.virtualBack hx (y := (⟨"com/example/binfold/binfold/PackagePart", "contentId", "()Ljava/util/Optional;"⟩ : MethodName)) (z := (⟨"com/example/binfold/binfold/PackagePart", "contentId", "()Ljava/util/Optional;"⟩ : MethodName)) hown (mvT hZ (hw _ (List.mem_of_getElem? (i := 34) rfl))) (mvT hZ (hw _ (List.mem_of_getElem? (i := 35) rfl))) (notFace_of_selects (args := #[]) (mvT hZ (hw _ (List.mem_of_getElem? (i := 37) rfl)))) (mvT hZ (hw _ (List.mem_of_getElem? (i := 37) rfl))) (mvT hZ (hw _ (List.mem_of_getElem? (i := 36) rfl))) (by decide) (backOf (W := 0) (own_ciR l Z a0 hw [] q131 x62 T139.heap n0 Z139 f150) hZ (hw _ (List.mem_of_getElem? (i := 38) rfl)) (hw _ (List.mem_of_getElem? (i := 23) rfl)) (by decide) (by decide)) qa152 qc152 (g := (mkF m 124 #[.val (.int p0), .val (.int p1), .val (.int p2), .val (.int p3), .val (.int p4), .val (.int zI), .val (.int zH), .val (.ref x62), .val (.ref b114), .val (.ref b124), .val (.ref q131), .unset, .unset, .unset] [(.ref q131)])) rfl (by rw [hml]; rfl) (Steps.refl _) (argsL := []) (rest := []) (lenOf own_pd17 rfl) rfl (by show 2 * 0 + _ ≤ _; exact Nat.le_of_eq rfl) (hb hby at_124) (fun _ _ => ⟨rfl, e148, (by decide : 13 + 1 ≤ _), (by decide : 28 + 1 ≤ _)⟩)
      dsimp only [Pt.U, Pt.locs, Pt.cells, Pt.slots] at X151 l151 y151 z151 st151 hQ151
      subst l151 y151 z151
      obtain ⟨q151, rfl, N151, Kc151, gb_q151, szc_q151, P151_0, P151_1⟩ := hQ151
      have NA151 := Fr.app NA148 N151
      have Z151 : n0 ≤ T151.heap.size := Nat.le_trans Z139 Kc151.1
      have hk151 := Nat.le_trans hk139 Kc151.1
      have K151 := K139.trans Kc151 all0
      have O151 := O139.keep Kc151 all0
      have sz_q151 : h0.size ≤ q151 := Nat.le_trans K139.1 szc_q151
      have f154 := (f141.keep Kc139)
      have ne_eL_q151 : eL ≠ q151 := Nat.ne_of_lt (Nat.lt_of_lt_of_le f154.lt szc_q151)
      have f155 := (f142.keep Kc139)
      have ne_eA_q151 : eA ≠ q151 := Nat.ne_of_lt (Nat.lt_of_lt_of_le f155.lt szc_q151)
      have f156 := (f143.keep Kc139)
      have ne_oE_q151 : oE ≠ q151 := Nat.ne_of_lt (Nat.lt_of_lt_of_le f156.lt szc_q151)
      have f157 := (f144.keep Kc139)
      have ne_oL_q151 : oL ≠ q151 := Nat.ne_of_lt (Nat.lt_of_lt_of_le f157.lt szc_q151)
      have f158 := (f145.keep Kc139)
      have ne_x62_q151 : x62 ≠ q151 := Nat.ne_of_lt (Nat.lt_of_lt_of_le f158.lt szc_q151)
      have f159 := (f146.keep Kc139)
      have ne_b114_q151 : b114 ≠ q151 := Nat.ne_of_lt (Nat.lt_of_lt_of_le f159.lt szc_q151)
      have f160 := (f147.keep Kc139)
      have ne_b124_q151 : b124 ≠ q151 := Nat.ne_of_lt (Nat.lt_of_lt_of_le f160.lt szc_q151)
      have ne_q131_q151 : q131 ≠ q151 := Nat.ne_of_lt (Nat.lt_of_lt_of_le f153.lt szc_q151)
      have ne_q139_q151 : q139 ≠ q151 := Nat.ne_of_lt (Nat.lt_of_lt_of_le P139_0.lt szc_q151)
      refine Go.back (t' := (T151.setTop (mkF m 127 #[.val (.int p0), .val (.int p1), .val (.int p2), .val (.int p3), .val (.int p4), .val (.int zI), .val (.int zH), .val (.ref x62), .val (.ref b114), .val (.ref b124), .val (.ref q131), .unset, .unset, .unset] [(.ref q151)]))) (fun u k => st151.trans k) ?_
      obtain ⟨cq162, kq162, qa162, qb162, qc162⟩ := isOf hZ rfl P151_0
      obtain ⟨_, _, ⟨T161, L161, k161, n161⟩, -, X161, ⟨Lc161, hQ161, l161, y161, z161⟩, st161⟩ := X151.virtualBack hx (y := (⟨"java/util/Optional", "get", "()Ljava/lang/Object;"⟩ : MethodName)) (z := (⟨"java/util/Optional", "get", "()Ljava/lang/Object;"⟩ : MethodName)) hown (mvT hZ (hw _ (List.mem_of_getElem? (i := 224) rfl))) (mvT hZ (hw _ (List.mem_of_getElem? (i := 225) rfl))) (notFace_of_selects (args := #[]) (mvT hZ (hw _ (List.mem_of_getElem? (i := 227) rfl)))) (mvT hZ (hw _ (List.mem_of_getElem? (i := 227) rfl))) (mvT hZ (hw _ (List.mem_of_getElem? (i := 226) rfl))) (by decide) (backOf (W := 0) (own_get l Z a0 hw [] q151 x62 T151.heap n0 Z151 P151_1) hZ (hw _ (List.mem_of_getElem? (i := 228) rfl)) (hw _ (List.mem_of_getElem? (i := 41) rfl)) (by decide) (by decide)) qa162 qc162 (g := (mkF m 127 #[.val (.int p0), .val (.int p1), .val (.int p2), .val (.int p3), .val (.int p4), .val (.int zI), .val (.int zH), .val (.ref x62), .val (.ref b114), .val (.ref b124), .val (.ref q131), .unset, .unset, .unset] [(.ref q151)])) rfl (by rw [hml]; rfl) (Steps.refl _) (argsL := []) (rest := []) (lenOf own_pd21 rfl) rfl (by show 2 * 0 + _ ≤ _; exact Nat.le_of_eq rfl) (hb hby at_127) (fun _ _ => ⟨rfl, rfl, (by decide : 14 + 0 ≤ _), (by decide : 29 + 0 ≤ _)⟩)
      dsimp only [Pt.U, Pt.locs, Pt.cells, Pt.slots] at X161 l161 y161 z161 st161 hQ161
      subst l161 y161 z161
      obtain ⟨rfl, N161, e161⟩ := hQ161
      have NA161 := Fr.app NA151 N161
      refine Go.back (t' := (T161.setTop (mkF m 130 #[.val (.int p0), .val (.int p1), .val (.int p2), .val (.int p3), .val (.int p4), .val (.int zI), .val (.int zH), .val (.ref x62), .val (.ref b114), .val (.ref b124), .val (.ref q131), .unset, .unset, .unset] [(.ref x62)]))) (fun u k => st161.trans k) ?_
      have f163 := (f158.keep Kc151)
      obtain ⟨T164, X164, e164, st164⟩ := castY X161 hx hZ hown (hw _ (List.mem_of_getElem? (i := 77) rfl)) e161 (Ins.self f163) (g := (mkF m 130 #[.val (.int p0), .val (.int p1), .val (.int p2), .val (.int p3), .val (.int p4), .val (.int zI), .val (.int zH), .val (.ref x62), .val (.ref b114), .val (.ref b124), .val (.ref q131), .unset, .unset, .unset] [(.ref x62)])) rfl rfl (hb hby at_130)
      refine Go.back (t' := (T164.setTop (mkF m 133 #[.val (.int p0), .val (.int p1), .val (.int p2), .val (.int p3), .val (.int p4), .val (.int zI), .val (.int zH), .val (.ref x62), .val (.ref b114), .val (.ref b124), .val (.ref q131), .unset, .unset, .unset] [(.ref x62)]))) st164 ?_
      refine Go.back (t' := (T164.setTop (mkF m 135 #[.val (.int p0), .val (.int p1), .val (.int p2), .val (.int p3), .val (.int p4), .val (.int zI), .val (.int zH), .val (.ref x62), .val (.ref b114), .val (.ref b124), .val (.ref q131), .unset, .unset, .unset] [(.ref x62), (.ref x62)]))) (fun u k => XS.aload X164.here hx rfl (hb hby at_133) rfl rfl k) ?_
      obtain ⟨cq166, kq166, qa166, qb166, qc166⟩ := isOf hZ e164 f163
      obtain ⟨_, _, ⟨T165, L165, k165, n165⟩, -, X165, ⟨Lc165, hQ165, l165, y165, z165⟩, st165⟩ := X164.virtualBack hx (y := (⟨"java/lang/String", "equals", "(Ljava/lang/Object;)Z"⟩ : MethodName)) (z := (⟨"java/lang/String", "equals", "(Ljava/lang/Object;)Z"⟩ : MethodName)) hown (mvT hZ (hw _ (List.mem_of_getElem? (i := 229) rfl))) (mvT hZ (hw _ (List.mem_of_getElem? (i := 230) rfl))) (notFace_of_selects (args := #[]) (mvT hZ (hw _ (List.mem_of_getElem? (i := 232) rfl)))) (mvT hZ (hw _ (List.mem_of_getElem? (i := 232) rfl))) (mvT hZ (hw _ (List.mem_of_getElem? (i := 231) rfl))) (by decide) (backOf (W := 0) (own_eq l Z a0 hw [] x62 T151.heap n0 Z151 ) hZ (hw _ (List.mem_of_getElem? (i := 233) rfl)) (hw _ (List.mem_of_getElem? (i := 79) rfl)) (by decide) (by decide)) qa166 qc166 (g := (mkF m 135 #[.val (.int p0), .val (.int p1), .val (.int p2), .val (.int p3), .val (.int p4), .val (.int zI), .val (.int zH), .val (.ref x62), .val (.ref b114), .val (.ref b124), .val (.ref q131), .unset, .unset, .unset] [(.ref x62), (.ref x62)])) rfl (by rw [hml]; rfl) (Steps.refl _) (argsL := [(.ref x62)]) (rest := []) (lenOf own_pd22 rfl) rfl (by show 2 * 0 + _ ≤ _; exact Nat.le_of_eq rfl) (hb hby at_135) (fun _ _ => ⟨rfl, e164, (by decide : 14 + 0 ≤ _), (by decide : 29 + 0 ≤ _)⟩)
      dsimp only [Pt.U, Pt.locs, Pt.cells, Pt.slots] at X165 l165 y165 z165 st165 hQ165
      subst l165 y165 z165
      obtain ⟨rfl, N165, e165⟩ := hQ165
      have NA165 := Fr.app NA161 N165
      refine Go.back (t' := (T165.setTop (mkF m 138 #[.val (.int p0), .val (.int p1), .val (.int p2), .val (.int p3), .val (.int p4), .val (.int zI), .val (.int zH), .val (.ref x62), .val (.ref b114), .val (.ref b124), .val (.ref q131), .unset, .unset, .unset] [(.int (1 : Int32))]))) (fun u k => st165.trans k) ?_
      refine Go.back (t' := (T165.setTop (mkF m 150 #[.val (.int p0), .val (.int p1), .val (.int p2), .val (.int p3), .val (.int p4), .val (.int zI), .val (.int zH), .val (.ref x62), .val (.ref b114), .val (.ref b124), .val (.ref q131), .val (.int (1 : Int32)), .unset, .unset] [(.ref q131)]))) (fun u k => XS.ifNo X165.here hx rfl (hb hby at_138) rfl (XT.i0_eq_f (by decide)) (XT.iconstV X165.here hx rfl (1 : Int32) (hb hby at_141) (by decide) (XS.goto X165.here hx rfl (pc0 := 142) (pc' := 146) rfl (hb hby at_142) (by decide) (by decide) (XS.istore X165.here hx rfl (hb hby at_146) rfl (l' := #[.val (.int p0), .val (.int p1), .val (.int p2), .val (.int p3), .val (.int p4), .val (.int zI), .val (.int zH), .val (.ref x62), .val (.ref b114), .val (.ref b124), .val (.ref q131), .val (.int (1 : Int32)), .unset, .unset]) rfl (XS.aload X165.here hx rfl (hb hby at_148) rfl rfl k))))) ?_
      have f167 := ((P131_3.keep Kc139 nin0).keep Kc151 nin0)
      have f170 := (f153.keep Kc151)
      obtain ⟨cq169, kq169, qa169, qb169, qc169⟩ := isOf hZ e165 f170
      obtain ⟨_, _, ⟨T168, L168, k168, n168⟩, -, X168, ⟨Lc168, hQ168, l168, y168, z168⟩, st168⟩ := X165.virtualBack hx (y := (⟨"com/example/binfold/binfold/PackagePart", "headers", "()Lcom/example/binfold/binfold/mime/Headers;"⟩ : MethodName)) (z := (⟨"com/example/binfold/binfold/PackagePart", "headers", "()Lcom/example/binfold/binfold/mime/Headers;"⟩ : MethodName)) hown (mvT hZ (hw _ (List.mem_of_getElem? (i := 51) rfl))) (mvT hZ (hw _ (List.mem_of_getElem? (i := 52) rfl))) (notFace_of_selects (args := #[]) (mvT hZ (hw _ (List.mem_of_getElem? (i := 54) rfl)))) (mvT hZ (hw _ (List.mem_of_getElem? (i := 54) rfl))) (mvT hZ (hw _ (List.mem_of_getElem? (i := 53) rfl))) (by decide) (backOf (W := 0) (own_hdR l Z a0 hw [] q131 b114 T151.heap n0 Z151 f167) hZ (hw _ (List.mem_of_getElem? (i := 55) rfl)) (hw _ (List.mem_of_getElem? (i := 23) rfl)) (by decide) (by decide)) qa169 qc169 (g := (mkF m 150 #[.val (.int p0), .val (.int p1), .val (.int p2), .val (.int p3), .val (.int p4), .val (.int zI), .val (.int zH), .val (.ref x62), .val (.ref b114), .val (.ref b124), .val (.ref q131), .val (.int (1 : Int32)), .unset, .unset] [(.ref q131)])) rfl (by rw [hml]; rfl) (Steps.refl _) (argsL := []) (rest := []) (lenOf own_pd19 rfl) rfl (by show 2 * 0 + _ ≤ _; exact Nat.le_of_eq rfl) (hb hby at_150) (fun _ _ => ⟨rfl, e165, (by decide : 14 + 0 ≤ _), (by decide : 29 + 0 ≤ _)⟩)
      dsimp only [Pt.U, Pt.locs, Pt.cells, Pt.slots] at X168 l168 y168 z168 st168 hQ168
      subst l168 y168 z168
      obtain ⟨rfl, N168, e168⟩ := hQ168
      have NA168 := Fr.app NA165 N168
      refine Go.back (t' := (T168.setTop (mkF m 153 #[.val (.int p0), .val (.int p1), .val (.int p2), .val (.int p3), .val (.int p4), .val (.int zI), .val (.int zH), .val (.ref x62), .val (.ref b114), .val (.ref b124), .val (.ref q131), .val (.int (1 : Int32)), .unset, .unset] [(.ref b114)]))) (fun u k => st168.trans k) ?_
      refine Go.back (t' := (T168.setTop (mkF m 167 #[.val (.int p0), .val (.int p1), .val (.int p2), .val (.int p3), .val (.int p4), .val (.int zI), .val (.int zH), .val (.ref x62), .val (.ref b114), .val (.ref b124), .val (.ref q131), .val (.int (1 : Int32)), .val (.int (1 : Int32)), .unset] [(.ref q131)]))) (fun u k => XS.aload X168.here hx rfl (hb hby at_153) rfl rfl (XT.acmpNo X168.here hx rfl (hb hby at_155) rfl rfl rfl (XT.aa_ne_f rfl) (XT.iconstV X168.here hx rfl (1 : Int32) (hb hby at_158) (by decide) (XS.goto X168.here hx rfl (pc0 := 159) (pc' := 163) rfl (hb hby at_159) (by decide) (by decide) (XS.istore X168.here hx rfl (hb hby at_163) rfl (l' := #[.val (.int p0), .val (.int p1), .val (.int p2), .val (.int p3), .val (.int p4), .val (.int zI), .val (.int zH), .val (.ref x62), .val (.ref b114), .val (.ref b124), .val (.ref q131), .val (.int (1 : Int32)), .val (.int (1 : Int32)), .unset]) rfl (XS.aload X168.here hx rfl (hb hby at_165) rfl rfl k)))))) ?_
      have f171 := ((P131_1.keep Kc139 nin0).keep Kc151 nin0)
      obtain ⟨cq173, kq173, qa173, qb173, qc173⟩ := isOf hZ e168 f170
      obtain ⟨_, _, ⟨T172, L172, k172, n172⟩, -, X172, ⟨Lc172, hQ172, l172, y172, z172⟩, st172⟩ := X168.virtualBack hx (y := (⟨"com/example/binfold/binfold/PackagePart", "decodedLength", "()Ljava/util/OptionalLong;"⟩ : MethodName)) (z := (⟨"com/example/binfold/binfold/PackagePart", "decodedLength", "()Ljava/util/OptionalLong;"⟩ : MethodName)) hown (mvT hZ (hw _ (List.mem_of_getElem? (i := 56) rfl))) (mvT hZ (hw _ (List.mem_of_getElem? (i := 57) rfl))) (notFace_of_selects (args := #[]) (mvT hZ (hw _ (List.mem_of_getElem? (i := 59) rfl)))) (mvT hZ (hw _ (List.mem_of_getElem? (i := 59) rfl))) (mvT hZ (hw _ (List.mem_of_getElem? (i := 58) rfl))) (by decide) (backOf (W := 0) (own_dl l Z a0 hw [] q131 oL T151.heap n0 Z151 f171 O151 SL) hZ (hw _ (List.mem_of_getElem? (i := 60) rfl)) (hw _ (List.mem_of_getElem? (i := 23) rfl)) (by decide) (by decide)) qa173 qc173 (g := (mkF m 167 #[.val (.int p0), .val (.int p1), .val (.int p2), .val (.int p3), .val (.int p4), .val (.int zI), .val (.int zH), .val (.ref x62), .val (.ref b114), .val (.ref b124), .val (.ref q131), .val (.int (1 : Int32)), .val (.int (1 : Int32)), .unset] [(.ref q131)])) rfl (by rw [hml]; rfl) (Steps.refl _) (argsL := []) (rest := []) (lenOf own_pd14 rfl) rfl (by show 2 * 0 + _ ≤ _; exact Nat.le_of_eq rfl) (hb hby at_167) (fun _ _ => ⟨rfl, e168, (by decide : 14 + 0 ≤ _), (by decide : 29 + 0 ≤ _)⟩)
      dsimp only [Pt.U, Pt.locs, Pt.cells, Pt.slots] at X172 l172 y172 z172 st172 hQ172
      subst l172 y172 z172
      obtain ⟨rfl, N172, e172⟩ := hQ172
      have NA172 := Fr.app NA168 N172
      refine Go.back (t' := (T172.setTop (mkF m 170 #[.val (.int p0), .val (.int p1), .val (.int p2), .val (.int p3), .val (.int p4), .val (.int zI), .val (.int zH), .val (.ref x62), .val (.ref b114), .val (.ref b124), .val (.ref q131), .val (.int (1 : Int32)), .val (.int (1 : Int32)), .unset] [(.ref oL)]))) (fun u k => st172.trans k) ?_
      have f174 := ((((((((F_oL_isPresent.keep Kc62 nin0).ext E114).keep Kc123 (ninS ne_oL_b114 nin0)).ext E124).keep Kc130 (ninS ne_oL_b124 nin0)).keep Kc131 nin0).keep Kc139 nin0).keep Kc151 nin0)
      have f177 := (f157.keep Kc151)
      obtain ⟨cq176, kq176, qa176, qb176, qc176⟩ := isOf hZ e172 f177
      obtain ⟨_, _, ⟨T175, L175, k175, n175⟩, -, X175, ⟨Lc175, hQ175, l175, y175, z175⟩, st175⟩ := X172.virtualBack hx (y := (⟨"java/util/OptionalLong", "isPresent", "()Z"⟩ : MethodName)) (z := (⟨"java/util/OptionalLong", "isPresent", "()Z"⟩ : MethodName)) hown (mvT hZ (hw _ (List.mem_of_getElem? (i := 66) rfl))) (mvT hZ (hw _ (List.mem_of_getElem? (i := 67) rfl))) (notFace_of_selects (args := #[]) (mvT hZ (hw _ (List.mem_of_getElem? (i := 69) rfl)))) (mvT hZ (hw _ (List.mem_of_getElem? (i := 69) rfl))) (mvT hZ (hw _ (List.mem_of_getElem? (i := 68) rfl))) (by decide) (backOf (W := 0) (own_lp l Z a0 hw [] oL T151.heap n0 Z151 f174) hZ (hw _ (List.mem_of_getElem? (i := 70) rfl)) (hw _ (List.mem_of_getElem? (i := 63) rfl)) (by decide) (by decide)) qa176 qc176 (g := (mkF m 170 #[.val (.int p0), .val (.int p1), .val (.int p2), .val (.int p3), .val (.int p4), .val (.int zI), .val (.int zH), .val (.ref x62), .val (.ref b114), .val (.ref b124), .val (.ref q131), .val (.int (1 : Int32)), .val (.int (1 : Int32)), .unset] [(.ref oL)])) rfl (by rw [hml]; rfl) (Steps.refl _) (argsL := []) (rest := []) (lenOf own_pd18 rfl) rfl (by show 2 * 0 + _ ≤ _; exact Nat.le_of_eq rfl) (hb hby at_170) (fun _ _ => ⟨rfl, e172, (by decide : 14 + 0 ≤ _), (by decide : 29 + 0 ≤ _)⟩)
      dsimp only [Pt.U, Pt.locs, Pt.cells, Pt.slots] at X175 l175 y175 z175 st175 hQ175
      subst l175 y175 z175
      obtain ⟨rfl, N175, e175⟩ := hQ175
      have NA175 := Fr.app NA172 N175
      refine Go.back (t' := (T175.setTop (mkF m 173 #[.val (.int p0), .val (.int p1), .val (.int p2), .val (.int p3), .val (.int p4), .val (.int zI), .val (.int zH), .val (.ref x62), .val (.ref b114), .val (.ref b124), .val (.ref q131), .val (.int (1 : Int32)), .val (.int (1 : Int32)), .unset] [(.int (0 : Int32))]))) (fun u k => st175.trans k) ?_
      refine Go.back (t' := (T175.setTop (mkF m 188 #[.val (.int p0), .val (.int p1), .val (.int p2), .val (.int p3), .val (.int p4), .val (.int zI), .val (.int zH), .val (.ref x62), .val (.ref b114), .val (.ref b124), .val (.ref q131), .val (.int (1 : Int32)), .val (.int (1 : Int32)), .val (.int (1 : Int32))] []))) (fun u k => XS.ifNo X175.here hx rfl (hb hby at_173) rfl (XT.i0_ne_f (by decide)) (XT.iconstV X175.here hx rfl (1 : Int32) (hb hby at_176) (by decide) (XS.goto X175.here hx rfl (pc0 := 177) (pc' := 181) rfl (hb hby at_177) (by decide) (by decide) (XS.istore X175.here hx rfl (hb hby at_181) rfl (l' := #[.val (.int p0), .val (.int p1), .val (.int p2), .val (.int p3), .val (.int p4), .val (.int zI), .val (.int zH), .val (.ref x62), .val (.ref b114), .val (.ref b124), .val (.ref q131), .val (.int (1 : Int32)), .val (.int (1 : Int32)), .val (.int (1 : Int32))]) rfl (XS.iload X175.here hx rfl (hb hby at_183) rfl (XS.ifNo X175.here hx rfl (hb hby at_185) rfl (XT.i0_eq_f (by decide)) k)))))) ?_
      refine Go.back (t' := (T175.setTop (mkF m 203 #[.val (.int p0), .val (.int p1), .val (.int p2), .val (.int p3), .val (.int p4), .val (.int zI), .val (.int zH), .val (.ref x62), .val (.ref b114), .val (.ref b124), .val (.ref q131), .val (.int (1 : Int32)), .val (.int (1 : Int32)), .val (.int (1 : Int32))] [(.int (1 : Int32))]))) (fun u k => XS.iload X175.here hx rfl (hb hby at_188) rfl (XS.ifNo X175.here hx rfl (hb hby at_190) rfl (XT.i0_eq_f (by decide)) (XS.iload X175.here hx rfl (hb hby at_193) rfl (XS.ifNo X175.here hx rfl (hb hby at_195) rfl (XT.i0_eq_f (by decide)) (XT.iconstV X175.here hx rfl (1 : Int32) (hb hby at_198) (by decide) (XS.goto X175.here hx rfl (pc0 := 199) (pc' := 203) rfl (hb hby at_199) (by decide) (by decide) k)))))) ?_
      obtain ⟨fs, hr, hrun, hended, hFW⟩ := Jvm.Stand.leaveW (s := s) (vm₁ := T62.vm) X175 hS62 (by rw [e175]; exact hk151) (v := some (.int (1 : Int32))) (fun h => by rw [Bd.returns] at h; cases h)
      refine ⟨_, _, retN X175 hx (t := .boolean) Bd.returns (by simp) (hb hby at_203) hr, hrun, hended, _, _, rfl, ?_, hFW.1, hFW.2.1, hFW.2.2.1, hFW.2.2.2.mono (by decide) (by decide)⟩
      show Q_own_law0 Z p0 p1 p2 p3 p4 gC oE oL eL eA ka wD mO mA mL mR h0 n0 _ T175.heap _
      rw [e175]
      exact ⟨rfl, NA175, K151⟩
set_option maxRecDepth 65536 in
set_option maxHeartbeats 40000000 in
theorem own_comes {Post : Tables → Env → Array Value → State → Outcome → State → Prop} (hpost : ∀ tb e args s v u, (limb_1_1.after args s (.returned v) u = true ∧ limb_1_2.after args s (.returned v) u = true ∧ True) → ReturnedEndW s (.returned v) u (Jvm.fieldLocs frame_1_writes args s ++ Jvm.arrayLocs frame_1_arrays args s ++ Jvm.staticLocs frame_1_statics s) 32 1152 → Post tb e args s (.returned v) u) :
    ArmFor flags0 classFile x code maxLocals ret World_1 tables_1 room_1 Calls_1 rest_1 Pre_1 Post := by
  intro l hfl _ _ p e ha hc hk s m args below hf hA hF happ hP
  obtain ⟨hcalls, hrest, hpre⟩ := hP
  obtain ⟨-, -, -, hnamed, -, -, -, hat⟩ := (Spec.applies_iff hf).mp happ
  obtain ⟨hg, hn⟩ := and_e (Cond.before_iff.mp (show (Jvm.Cond.and given_1 narrow_1).before args s = true from hpre))
  obtain ⟨hg1, hg2⟩ := and_e hg
  obtain ⟨hg3, hg4⟩ := and_e hg2
  obtain ⟨hg5, hg6⟩ := and_e hg4
  obtain ⟨hg7, hg8⟩ := and_e hg6
  obtain ⟨hg9, hg10⟩ := and_e hg8
  obtain ⟨w0, w1, w2, w3, w4, rfl⟩ : ∃ w0 w1 w2 w3 w4 : Value, args = #[w0, w1, w2, w3, w4] := by
    have hs : args.size = 5 := by simpa [Cond.value, given_1] using hg1
    obtain ⟨L⟩ := args
    match L, hs with
    | [w0, w1, w2, w3, w4], _ => exact ⟨w0, w1, w2, w3, w4, rfl⟩
  have hw := fun d (hd : d ∈ tables_1) => atoms_spec (ws := Jvm.Cond.code x code maxLocals ret :: tables_1) hat d (List.mem_cons_of_mem _ hd)
  have hfit : Fit s := fun {y c} hc i hi => by
    obtain ⟨ha, rfl⟩ := Array.getElem?_eq_some_iff.mp hc
    have q := List.all_eq_true.mp ((Array.all_eq_true_iff_forall_mem.mp hF) _ (Array.getElem_mem ha)) i (List.mem_range.mpr hi)
    simpa [Array.getElem?_eq_getElem hi] using q
  obtain ⟨hsets, hown0⟩ := atoms_of _ (rest_1_c_eq ▸ (show rest_1_c.before _ s = true from hrest))
  have hr0 := Cond.before_iff.mp hown0
  obtain ⟨i0, ei0⟩ := is_v hg3
  obtain rfl : w0 = (.int i0) := Option.some.inj ei0
  obtain ⟨i1, ei1⟩ := is_v hg5
  obtain rfl : w1 = (.int i1) := Option.some.inj ei1
  obtain ⟨i2, ei2⟩ := is_v hg7
  obtain rfl : w2 = (.int i2) := Option.some.inj ei2
  obtain ⟨i3, ei3⟩ := is_v hg9
  obtain rfl : w3 = (.int i3) := Option.some.inj ei3
  obtain ⟨i4, ei4⟩ := is_v hg10
  obtain rfl : w4 = (.int i4) := Option.some.inj ei4
  obtain ⟨gC, egC⟩ := is_v (Cond.before_iff.mp (hsets _ (List.mem_of_getElem? (i := 26) rfl)))
  have XG := Sta.start egC (Or.inl (hsets _ (List.mem_of_getElem? (i := 25) rfl)))
  have XP : ¬ (gC = (0 : Int32)) := gotF (Cond.eq_ints egC (Term.int_eval (0))) (not_v (Cond.before_iff.mp (hsets _ (List.mem_of_getElem? (i := 27) rfl))))
  obtain ⟨cM1, cM2, cM3, cM4, cHd, -⟩ := hcalls
  obtain ⟨mm1, XM1⟩ := own_mir cM1
  obtain ⟨mm2, XM2⟩ := own_mir cM2
  obtain ⟨mm3, XM3⟩ := own_mir cM3
  obtain ⟨mm4, XM4⟩ := own_mir cM4
  have hCHv : CHv s own_EL s.vm s.heap := CHv.start (own_hEL hw) (fun q hq => by cases List.mem_singleton.mp hq; exact cHd ("java/lang/String", 7) (by decide)) (hsets _ (List.mem_of_getElem? (i := 27) rfl)) (hw _ (List.mem_of_getElem? (i := 90) rfl)) (hw _ (List.mem_of_getElem? (i := 78) rfl))
  obtain ⟨xE, exE⟩ := exa_v (Cond.before_iff.mp (hsets _ (List.mem_of_getElem? (i := 2) rfl)))
  have XE1 := Exa.start exE (Cond.before_iff.mp (hsets _ (List.mem_of_getElem? (i := 2) rfl)))
  have XE2 := Sta.start exE (Or.inl (hsets _ (List.mem_of_getElem? (i := 1) rfl)))
  have XE3 : Fld s s.heap xE "java/util/Optional" "value" "Ljava/lang/Object;" .null := Fld.start (own_field exE (null_v (Cond.before_iff.mp (hsets _ (List.mem_of_getElem? (i := 3) rfl)))))
  obtain ⟨xL, exL⟩ := exa_v (Cond.before_iff.mp (hsets _ (List.mem_of_getElem? (i := 6) rfl)))
  have XL1 := Exa.start exL (Cond.before_iff.mp (hsets _ (List.mem_of_getElem? (i := 6) rfl)))
  have XL2 := Sta.start exL (Or.inl (hsets _ (List.mem_of_getElem? (i := 5) rfl)))
  have XL3 : Fld s s.heap xL "java/util/OptionalLong" "isPresent" "Z" (.int (0 : Int32)) := Fld.start (own_field exL (Cond.eq_int (hsets _ (List.mem_of_getElem? (i := 7) rfl)) rfl))
  obtain ⟨xB, exB⟩ := exa_v (Cond.before_iff.mp (hsets _ (List.mem_of_getElem? (i := 11) rfl)))
  have XB1 := Exa.start exB (Cond.before_iff.mp (hsets _ (List.mem_of_getElem? (i := 11) rfl)))
  have XB2 := Sta.start exB (Or.inl (hsets _ (List.mem_of_getElem? (i := 10) rfl)))
  obtain ⟨xA, exA⟩ := exa_v (Cond.before_iff.mp (hsets _ (List.mem_of_getElem? (i := 13) rfl)))
  have XA1 := Exa.start exA (Cond.before_iff.mp (hsets _ (List.mem_of_getElem? (i := 13) rfl)))
  have XB3 : Fld s s.heap xB "java/util/ImmutableCollections$ListN" "elements" "[Ljava/lang/Object;" (.ref xA) := Fld.start (own_field exB exA)
  obtain ⟨kA, XA2⟩ := own_empty (d := .null) exA (hsets _ (List.mem_of_getElem? (i := 12) rfl)) (hsets _ (List.mem_of_getElem? (i := 14) rfl))
  obtain ⟨xD, exD⟩ := exa_v (Cond.before_iff.mp (hsets _ (List.mem_of_getElem? (i := 20) rfl)))
  have XD := Sta.start exD (Or.inl (hsets _ (List.mem_of_getElem? (i := 17) rfl)))
  obtain ⟨n, o, h1, h2, h3, _, L, rfl, ⟨rfl, N, -⟩, hq⟩ := own_law0 l s _ hw tables_1 i0 i1 i2 i3 i4 gC xE xL xB xA kA xD mm1 mm2 mm3 mm4 s.heap s.heap.size (Nat.le_refl _) (Old.start s) XG XP XB2 XB1 XB3 XA1 XA2 XM1 XM2 XM3 XM4 XD XE2 XE1 XE3 XL2 XL1 XL3 p e ha hc hk s m _ below hf ((Spec.applies_iff_loose hf).mp happ).1 ⟨rfl, State.Warmed39.refl s, rfl, hCHv⟩ trivial
  refine ⟨n, _, h1, h2, h3, hpost _ _ _ _ _ _ ⟨Cond.after_iff.mpr rfl, Cond.after_iff.mpr (eq_i res_at (Term.int_eval (1)) rfl), trivial⟩ ⟨hq.1, hq.2.1, hq.2.2.1, (hq.2.2.2.sift fun y hy => Or.inr (N y hy)).mono (by decide) (by decide)⟩⟩
theorem main_1_1 : Claimed_1_1 := own_comes fun _ _ _ _ _ _ h hF => ⟨h.1, hF⟩
theorem main_1_2 : Claimed_1_2 := own_comes fun _ _ _ _ _ _ h hF => ⟨h.2.1, hF⟩
end Jvm.Pilot.@@N@@
namespace Jvm.Pilot.@@N@@
open Jvm Jvm.ClassFile Sem Op Lib Jvm.Free Jvm.Stand Jvm.Pilot.@@N@@.Jvm.D
/-! MADE BY PROGRAM (witnessworld.py) out of the Statement's table words and the real class files: 45 classes; the members and pool entries that the words name. The judged class is class 1, her method 2. -/
namespace start1
open Jvm.ClassFile
def u (s : String) : CpInfo := .utf8 (stringToUtf16 s)
/-- a pool by its gaps: so many unusable entries, then the entry; so many at the end -/
def gap : Nat → List CpInfo → List CpInfo
  | 0, r => r
  | n + 1, r => .unusable :: gap n r
def poolList (es : List (Nat × CpInfo)) (last : Nat) : List CpInfo := es.foldr (fun e r => gap e.1 (e.2 :: r)) (gap last [])
def pool (es : List (Nat × CpInfo)) (last : Nat) : Array CpInfo := ⟨poolList es last⟩
def fileOf (pool : Array CpInfo) (this : Nat) (attrs : Array Attribute := #[]) (ms : Array MethodInfo := #[]) (fl : Nat := 33) (sup : Nat := 0) (ifs : Array Nat := #[]) (fds : Array FieldInfo := #[]) : ClassFile where
  minorVersion := 0
  majorVersion := 65
  constantPool := pool
  accessFlags := fl
  thisClass := this
  superClass := sup
  interfaces := ifs
  fields := fds
  methods := ms
  attributes := attrs
def plain (name : String) (sup : Option ClassId) : Class where
  name := name
  kind := .ordinary
  loader := none
  accessFlags := 33
  super := sup
  interfaces := #[]
  cf := none
  fields := #[]
  methods := #[]
  instanceTypes := #[]
  staticTypes := #[]
  resolved := #[]
  callSites := []
  init := .initialized
  statics := none
  mirror := none

def pool0 : Array CpInfo := pool [(5, u "<init>"), (0, u "()V"), (1, .class_ 10), (1, u "java/lang/Object"), (0, u "getClass"), (0, u "()Ljava/lang/Class;")] 111

def k0c0 : Code := { maxStack := 0, maxLocals := 1, code := object_method_1_code, exceptionTable := #[], attributes := #[] }
def k0m0 : Method := { name := "<init>", desc := "()V", sig := { parameters := [], returnType := none }, accessFlags := 1, code := some k0c0 }
def k0m1 : Method := { name := "getClass", desc := "()Ljava/lang/Class;", sig := { parameters := [], returnType := some (.object "java/lang/Class") }, accessFlags := 273, code := none }
/-- java/lang/Object -/
def k0 : Class := { plain "java/lang/Object" none with
  accessFlags := 33
  interfaces := #[]
  cf := some (fileOf pool0 8 #[] #[{ accessFlags := 1, nameIndex := 5, descriptorIndex := 6, attributes := #[] }, { accessFlags := 273, nameIndex := 11, descriptorIndex := 12, attributes := #[] }] 33 0 #[] #[])
  fields := #[]
  methods := #[k0m0, k0m1]
  instanceTypes := #[]
  staticTypes := #[]
  resolved := Array.replicate 124 none
  statics := none }

def pool1 : Array CpInfo := pool [(2, .class_ 4), (0, .nameAndType 5 6), (0, u "java/lang/Object"), (0, u "<init>"), (0, u "()V"), (0, .class_ 8), (0, u "java/lang/String"), (0, .methodref 7 10), (0, .nameAndType 5 11), (0, u "([C)V"), (0, .methodref 13 14), (0, .class_ 15), (0, .nameAndType 16 17), (0, u "com/example/binfold/binfold/PartDescriptionPinLaw"), (0, u "drawn"), (0, u "(IIII)Ljava/lang/String;"), (0, .class_ 19), (0, u "com/example/binfold/binfold/mime/Headers"), (0, .methodref 18 3), (0, .class_ 22), (0, u "com/example/binfold/binfold/PackageParts$Part"), (0, .methodref 21 24), (0, .nameAndType 5 25), (0, u "(Ljava/lang/String;Lcom/example/binfold/binfold/mime/Headers;)V"), (0, .methodref 21 27), (0, .nameAndType 28 29), (0, u "description"), (0, u "()Lcom/example/binfold/binfold/PackagePart;"), (0, .methodref 31 32), (0, .class_ 33), (0, .nameAndType 34 35), (0, u "com/example/binfold/binfold/PackagePart"), (0, u "contentId"), (0, u "()Ljava/util/Optional;"), (0, .methodref 37 38), (0, .class_ 39), (0, .nameAndType 40 41), (0, u "java/util/Optional"), (0, u "isPresent"), (0, u "()Z"), (0, .methodref 37 43), (0, .nameAndType 44 45), (0, u "get"), (0, u "()Ljava/lang/Object;"), (0, .methodref 7 47), (0, .nameAndType 48 49), (0, u "equals"), (0, u "(Ljava/lang/Object;)Z"), (0, .methodref 31 51), (0, .nameAndType 52 53), (0, u "headers"), (0, u "()Lcom/example/binfold/binfold/mime/Headers;"), (0, .methodref 31 55), (0, .nameAndType 56 57), (0, u "decodedLength"), (0, u "()Ljava/util/OptionalLong;"), (0, .methodref 59 38), (0, .class_ 60), (0, u "java/util/OptionalLong"), (3, u "law"), (0, u "(IIIII)Z")] 6

def k1m0 : Method := { name := "<init>", desc := "()V", sig := { parameters := [], returnType := none }, accessFlags := 2, code := none }
def k1c1 : Code := { maxStack := 6, maxLocals := 7, code := method_2_code, exceptionTable := #[], attributes := #[] }
def k1m1 : Method := { name := "drawn", desc := "(IIII)Ljava/lang/String;", sig := { parameters := [.int, .int, .int, .int], returnType := some (.object "java/lang/String") }, accessFlags := 10, code := some k1c1 }
def k1c2 : Code := { maxStack := 4, maxLocals := 14, code := code, exceptionTable := #[], attributes := #[] }
def k1m2 : Method := { name := "law", desc := "(IIIII)Z", sig := { parameters := [.int, .int, .int, .int, .int], returnType := some .boolean }, accessFlags := 9, code := some k1c2 }
/-- com/example/binfold/binfold/PartDescriptionPinLaw -/
def k1 : Class := { plain "com/example/binfold/binfold/PartDescriptionPinLaw" (some 0) with
  accessFlags := 49
  interfaces := #[]
  cf := some (fileOf pool1 13 #[] #[{ accessFlags := 2, nameIndex := 5, descriptorIndex := 6, attributes := #[] }, { accessFlags := 10, nameIndex := 16, descriptorIndex := 17, attributes := #[] }, { accessFlags := 9, nameIndex := 64, descriptorIndex := 65, attributes := #[] }] 49 2 #[] #[])
  fields := #[]
  methods := #[k1m0, k1m1, k1m2]
  instanceTypes := #[]
  staticTypes := #[]
  resolved := Array.replicate 72 none
  statics := none }

def pool2 : Array CpInfo := pool [(1, .methodref 2 3), (0, .class_ 4), (0, .nameAndType 5 6), (0, u "java/lang/Object"), (0, u "<init>"), (0, u "()V"), (0, .long 18446744073709551615), (1, .fieldref 10 11), (0, .class_ 12), (0, .nameAndType 13 14), (0, u "com/example/binfold/binfold/PackageParts$Part"), (0, u "length"), (0, u "J"), (0, .fieldref 10 16), (0, .nameAndType 17 18), (0, u "contentId"), (0, u "Ljava/lang/String;"), (0, .fieldref 10 20), (0, .nameAndType 21 22), (0, u "headers"), (0, u "Lcom/example/binfold/binfold/mime/Headers;"), (20, .class_ 44), (0, u "com/example/binfold/binfold/PackagePart"), (0, .methodref 43 46), (0, .nameAndType 5 47), (0, u "(Ljava/lang/String;Lcom/example/binfold/binfold/mime/Headers;J)V"), (0, u "opened"), (0, u "Z"), (0, u "delivered"), (0, u "kept"), (0, u "Lcom/example/binfold/binfold/Spool$Segment;"), (0, u "(Ljava/lang/String;Lcom/example/binfold/binfold/mime/Headers;)V"), (7, u "description"), (0, u "()Lcom/example/binfold/binfold/PackagePart;"), (3, .class_ 67), (0, u "com/example/binfold/binfold/PackageParts")] 7

def k2c0 : Code := { maxStack := 3, maxLocals := 3, code := prog_24_method_1_code, exceptionTable := #[], attributes := #[] }
def k2m0 : Method := { name := "<init>", desc := "(Ljava/lang/String;Lcom/example/binfold/binfold/mime/Headers;)V", sig := { parameters := [(.object "java/lang/String"), (.object "com/example/binfold/binfold/mime/Headers")], returnType := none }, accessFlags := 0, code := some k2c0 }
def k2c1 : Code := { maxStack := 6, maxLocals := 1, code := prog_24_method_5_code, exceptionTable := #[], attributes := #[] }
def k2m1 : Method := { name := "description", desc := "()Lcom/example/binfold/binfold/PackagePart;", sig := { parameters := [], returnType := some (.object "com/example/binfold/binfold/PackagePart") }, accessFlags := 0, code := some k2c1 }
/-- com/example/binfold/binfold/PackageParts$Part -/
def k2 : Class := { plain "com/example/binfold/binfold/PackageParts$Part" (some 0) with
  accessFlags := 48
  interfaces := #[]
  cf := some (fileOf pool2 10 #[.nestHost 66] #[{ accessFlags := 0, nameIndex := 5, descriptorIndex := 53, attributes := #[] }, { accessFlags := 0, nameIndex := 61, descriptorIndex := 62, attributes := #[] }] 48 2 #[] #[{ accessFlags := 18, nameIndex := 17, descriptorIndex := 18, attributes := #[] }, { accessFlags := 18, nameIndex := 21, descriptorIndex := 22, attributes := #[] }, { accessFlags := 2, nameIndex := 48, descriptorIndex := 49, attributes := #[] }, { accessFlags := 2, nameIndex := 50, descriptorIndex := 14, attributes := #[] }, { accessFlags := 2, nameIndex := 51, descriptorIndex := 52, attributes := #[] }, { accessFlags := 2, nameIndex := 13, descriptorIndex := 14, attributes := #[] }])
  fields := #[{ name := "contentId", type := (.object "java/lang/String"), accessFlags := 18, slot := 0, constantValue := 0 }, { name := "headers", type := (.object "com/example/binfold/binfold/mime/Headers"), accessFlags := 18, slot := 1, constantValue := 0 }, { name := "opened", type := .boolean, accessFlags := 2, slot := 2, constantValue := 0 }, { name := "delivered", type := .long, accessFlags := 2, slot := 3, constantValue := 0 }, { name := "kept", type := (.object "com/example/binfold/binfold/Spool$Segment"), accessFlags := 2, slot := 4, constantValue := 0 }, { name := "length", type := .long, accessFlags := 2, slot := 5, constantValue := 0 }]
  methods := #[k2m0, k2m1]
  instanceTypes := #[(.object "java/lang/String"), (.object "com/example/binfold/binfold/mime/Headers"), .boolean, .long, (.object "com/example/binfold/binfold/Spool$Segment"), .long]
  staticTypes := #[]
  resolved := Array.replicate 75 none
  statics := none }

def pool3 : Array CpInfo := pool [(1, .methodref 2 3), (0, .class_ 4), (0, .nameAndType 5 6), (0, u "java/lang/Object"), (0, u "<init>"), (0, u "()V"), (0, .fieldref 8 9), (0, .class_ 10), (0, .nameAndType 11 12), (0, u "com/example/binfold/binfold/PackagePart"), (0, u "contentId"), (0, u "Ljava/lang/String;"), (0, .fieldref 8 14), (0, .nameAndType 15 16), (0, u "headers"), (0, u "Lcom/example/binfold/binfold/mime/Headers;"), (0, .fieldref 8 18), (0, .nameAndType 19 20), (0, u "decodedLength"), (0, u "J"), (0, .methodref 22 23), (0, .class_ 24), (0, .nameAndType 25 26), (0, u "java/util/Optional"), (0, u "ofNullable"), (0, u "(Ljava/lang/Object;)Ljava/util/Optional;"), (5, u "()Ljava/util/Optional;"), (4, u "empty"), (16, .methodref 55 56), (0, .class_ 57), (0, .nameAndType 37 58), (0, u "java/util/OptionalLong"), (0, u "()Ljava/util/OptionalLong;"), (16, u "(Ljava/lang/String;Lcom/example/binfold/binfold/mime/Headers;J)V"), (4, u "()Lcom/example/binfold/binfold/mime/Headers;")] 36

def k3c0 : Code := { maxStack := 3, maxLocals := 5, code := prog_22_method_1_code, exceptionTable := #[], attributes := #[] }
def k3m0 : Method := { name := "<init>", desc := "(Ljava/lang/String;Lcom/example/binfold/binfold/mime/Headers;J)V", sig := { parameters := [(.object "java/lang/String"), (.object "com/example/binfold/binfold/mime/Headers"), .long], returnType := none }, accessFlags := 0, code := some k3c0 }
def k3c1 : Code := { maxStack := 1, maxLocals := 1, code := prog_22_method_2_code, exceptionTable := #[], attributes := #[] }
def k3m1 : Method := { name := "contentId", desc := "()Ljava/util/Optional;", sig := { parameters := [], returnType := some (.object "java/util/Optional") }, accessFlags := 1, code := some k3c1 }
def k3c2 : Code := { maxStack := 1, maxLocals := 1, code := prog_22_method_3_code, exceptionTable := #[], attributes := #[] }
def k3m2 : Method := { name := "headers", desc := "()Lcom/example/binfold/binfold/mime/Headers;", sig := { parameters := [], returnType := some (.object "com/example/binfold/binfold/mime/Headers") }, accessFlags := 1, code := some k3c2 }
def k3c3 : Code := { maxStack := 4, maxLocals := 1, code := prog_22_method_7_code, exceptionTable := #[], attributes := #[] }
def k3m3 : Method := { name := "decodedLength", desc := "()Ljava/util/OptionalLong;", sig := { parameters := [], returnType := some (.object "java/util/OptionalLong") }, accessFlags := 1, code := some k3c3 }
/-- com/example/binfold/binfold/PackagePart -/
def k3 : Class := { plain "com/example/binfold/binfold/PackagePart" (some 0) with
  accessFlags := 49
  interfaces := #[]
  cf := some (fileOf pool3 8 #[] #[{ accessFlags := 0, nameIndex := 5, descriptorIndex := 75, attributes := #[] }, { accessFlags := 1, nameIndex := 11, descriptorIndex := 32, attributes := #[] }, { accessFlags := 1, nameIndex := 15, descriptorIndex := 80, attributes := #[] }, { accessFlags := 1, nameIndex := 19, descriptorIndex := 58, attributes := #[] }] 49 2 #[] #[{ accessFlags := 18, nameIndex := 11, descriptorIndex := 12, attributes := #[] }, { accessFlags := 18, nameIndex := 15, descriptorIndex := 16, attributes := #[] }, { accessFlags := 18, nameIndex := 19, descriptorIndex := 20, attributes := #[] }])
  fields := #[{ name := "contentId", type := (.object "java/lang/String"), accessFlags := 18, slot := 0, constantValue := 0 }, { name := "headers", type := (.object "com/example/binfold/binfold/mime/Headers"), accessFlags := 18, slot := 1, constantValue := 0 }, { name := "decodedLength", type := .long, accessFlags := 18, slot := 2, constantValue := 0 }]
  methods := #[k3m0, k3m1, k3m2, k3m3]
  instanceTypes := #[(.object "java/lang/String"), (.object "com/example/binfold/binfold/mime/Headers"), .long]
  staticTypes := #[]
  resolved := Array.replicate 117 none
  statics := none }

def pool4 : Array CpInfo := pool [(1, .fieldref 2 3), (0, .class_ 4), (0, .nameAndType 5 6), (0, u "java/util/Optional"), (0, u "EMPTY"), (0, u "Ljava/util/Optional;"), (0, .methodref 8 9), (0, .class_ 10), (0, .nameAndType 11 12), (0, u "java/lang/Object"), (0, u "<init>"), (0, u "()V"), (0, .fieldref 2 14), (0, .nameAndType 15 16), (0, u "value"), (0, u "Ljava/lang/Object;"), (6, .methodref 2 24), (0, .nameAndType 11 25), (0, u "(Ljava/lang/Object;)V"), (20, u "()Z"), (17, u "ofNullable"), (0, u "(Ljava/lang/Object;)Ljava/util/Optional;"), (2, u "isPresent"), (4, u "get"), (0, u "()Ljava/lang/Object;")] 112

def k4c0 : Code := { maxStack := 2, maxLocals := 2, code := jdk_32_method_2_code, exceptionTable := #[], attributes := #[] }
def k4m0 : Method := { name := "<init>", desc := "(Ljava/lang/Object;)V", sig := { parameters := [(.object "java/lang/Object")], returnType := none }, accessFlags := 2, code := some k4c0 }
def k4c1 : Code := { maxStack := 3, maxLocals := 1, code := jdk_32_method_4_code, exceptionTable := #[], attributes := #[] }
def k4m1 : Method := { name := "ofNullable", desc := "(Ljava/lang/Object;)Ljava/util/Optional;", sig := { parameters := [(.object "java/lang/Object")], returnType := some (.object "java/util/Optional") }, accessFlags := 9, code := some k4c1 }
def k4c2 : Code := { maxStack := 3, maxLocals := 1, code := jdk_32_method_5_code, exceptionTable := #[], attributes := #[] }
def k4m2 : Method := { name := "get", desc := "()Ljava/lang/Object;", sig := { parameters := [], returnType := some (.object "java/lang/Object") }, accessFlags := 1, code := some k4c2 }
def k4c3 : Code := { maxStack := 1, maxLocals := 1, code := jdk_32_method_6_code, exceptionTable := #[], attributes := #[] }
def k4m3 : Method := { name := "isPresent", desc := "()Z", sig := { parameters := [], returnType := some .boolean }, accessFlags := 1, code := some k4c3 }
/-- java/util/Optional -/
def k4 : Class := { plain "java/util/Optional" (some 0) with
  accessFlags := 49
  interfaces := #[]
  cf := some (fileOf pool4 2 #[] #[{ accessFlags := 2, nameIndex := 11, descriptorIndex := 25, attributes := #[] }, { accessFlags := 9, nameIndex := 64, descriptorIndex := 65, attributes := #[] }, { accessFlags := 1, nameIndex := 73, descriptorIndex := 74, attributes := #[] }, { accessFlags := 1, nameIndex := 68, descriptorIndex := 46, attributes := #[] }] 49 8 #[] #[{ accessFlags := 26, nameIndex := 5, descriptorIndex := 6, attributes := #[] }, { accessFlags := 18, nameIndex := 15, descriptorIndex := 16, attributes := #[] }])
  fields := #[{ name := "EMPTY", type := (.object "java/util/Optional"), accessFlags := 26, slot := 0, constantValue := 0 }, { name := "value", type := (.object "java/lang/Object"), accessFlags := 18, slot := 0, constantValue := 0 }]
  methods := #[k4m0, k4m1, k4m2, k4m3]
  instanceTypes := #[(.object "java/lang/Object")]
  staticTypes := #[(.object "java/util/Optional")]
  resolved := Array.replicate 187 none
  statics := some 0 }

def pool5 : Array CpInfo := pool [(2, .class_ 4), (1, u "java/lang/Object"), (0, u "<init>"), (0, u "()V"), (0, .fieldref 8 9), (0, .class_ 10), (0, .nameAndType 11 12), (0, u "java/util/OptionalLong"), (0, u "isPresent"), (0, u "Z"), (2, u "value"), (0, u "J"), (0, .fieldref 8 18), (0, .nameAndType 19 20), (0, u "EMPTY"), (0, u "Ljava/util/OptionalLong;"), (28, u "empty"), (46, u "()Ljava/util/OptionalLong;"), (2, u "()Z")] 38

def k5m0 : Method := { name := "<init>", desc := "()V", sig := { parameters := [], returnType := none }, accessFlags := 2, code := none }
def k5c1 : Code := { maxStack := 1, maxLocals := 0, code := jdk_2650_method_2_code, exceptionTable := #[], attributes := #[] }
def k5m1 : Method := { name := "empty", desc := "()Ljava/util/OptionalLong;", sig := { parameters := [], returnType := some (.object "java/util/OptionalLong") }, accessFlags := 9, code := some k5c1 }
def k5c2 : Code := { maxStack := 1, maxLocals := 1, code := jdk_2650_method_6_code, exceptionTable := #[], attributes := #[] }
def k5m2 : Method := { name := "isPresent", desc := "()Z", sig := { parameters := [], returnType := some .boolean }, accessFlags := 1, code := some k5c2 }
/-- java/util/OptionalLong -/
def k5 : Class := { plain "java/util/OptionalLong" (some 0) with
  accessFlags := 49
  interfaces := #[]
  cf := some (fileOf pool5 8 #[] #[{ accessFlags := 2, nameIndex := 5, descriptorIndex := 6, attributes := #[] }, { accessFlags := 9, nameIndex := 49, descriptorIndex := 96, attributes := #[] }, { accessFlags := 1, nameIndex := 11, descriptorIndex := 99, attributes := #[] }] 49 2 #[] #[{ accessFlags := 26, nameIndex := 19, descriptorIndex := 20, attributes := #[] }, { accessFlags := 18, nameIndex := 11, descriptorIndex := 12, attributes := #[] }, { accessFlags := 18, nameIndex := 15, descriptorIndex := 16, attributes := #[] }])
  fields := #[{ name := "EMPTY", type := (.object "java/util/OptionalLong"), accessFlags := 26, slot := 0, constantValue := 0 }, { name := "isPresent", type := .boolean, accessFlags := 18, slot := 0, constantValue := 0 }, { name := "value", type := .long, accessFlags := 18, slot := 1, constantValue := 0 }]
  methods := #[k5m0, k5m1, k5m2]
  instanceTypes := #[.boolean, .long]
  staticTypes := #[(.object "java/util/OptionalLong")]
  resolved := Array.replicate 138 none
  statics := some 1 }

def pool6 : Array CpInfo := pool [(1, .class_ 2), (0, u "java/io/Serializable"), (0, .class_ 4), (0, u "java/lang/Object")] 2

/-- java/io/Serializable -/
def k6 : Class := { plain "java/io/Serializable" (some 0) with
  accessFlags := 1537
  interfaces := #[]
  cf := some (fileOf pool6 1 #[] #[] 1537 3 #[] #[])
  fields := #[]
  methods := #[]
  instanceTypes := #[]
  staticTypes := #[]
  resolved := Array.replicate 7 none
  statics := none }

def pool7 : Array CpInfo := pool [(1, .class_ 2), (0, u "java/lang/Comparable"), (0, .class_ 4), (0, u "java/lang/Object")] 7

/-- java/lang/Comparable -/
def k7 : Class := { plain "java/lang/Comparable" (some 0) with
  accessFlags := 1537
  interfaces := #[]
  cf := some (fileOf pool7 1 #[] #[] 1537 3 #[] #[])
  fields := #[]
  methods := #[]
  instanceTypes := #[]
  staticTypes := #[]
  resolved := Array.replicate 12 none
  statics := none }

def pool8 : Array CpInfo := pool [(2, .class_ 4), (1, u "java/lang/CharSequence"), (42, .class_ 48), (0, u "java/lang/CharSequence$1CodePointIterator"), (10, .class_ 60), (0, u "java/lang/CharSequence$1CharIterator"), (5, .class_ 67), (0, u "java/lang/Object")] 63

/-- java/lang/CharSequence -/
def k8 : Class := { plain "java/lang/CharSequence" (some 0) with
  accessFlags := 1537
  interfaces := #[]
  cf := some (fileOf pool8 2 #[.nestMembers #[47, 59]] #[] 1537 66 #[] #[])
  fields := #[]
  methods := #[]
  instanceTypes := #[]
  staticTypes := #[]
  resolved := Array.replicate 131 none
  statics := none }

def pool9 : Array CpInfo := pool [(1, .class_ 2), (0, u "java/lang/constant/Constable"), (0, .class_ 4), (0, u "java/lang/Object")] 6

/-- java/lang/constant/Constable -/
def k9 : Class := { plain "java/lang/constant/Constable" (some 0) with
  accessFlags := 1537
  interfaces := #[]
  cf := some (fileOf pool9 1 #[] #[] 1537 3 #[] #[])
  fields := #[]
  methods := #[]
  instanceTypes := #[]
  staticTypes := #[]
  resolved := Array.replicate 11 none
  statics := none }

def pool10 : Array CpInfo := pool [(1, .class_ 2), (0, u "java/lang/constant/ConstantDesc"), (0, .class_ 4), (0, u "java/lang/Object")] 32

/-- java/lang/constant/ConstantDesc -/
def k10 : Class := { plain "java/lang/constant/ConstantDesc" (some 0) with
  accessFlags := 1537
  interfaces := #[]
  cf := some (fileOf pool10 1 #[] #[] 1537 3 #[] #[])
  fields := #[]
  methods := #[]
  instanceTypes := #[]
  staticTypes := #[]
  resolved := Array.replicate 37 none
  statics := none }

def pool11 : Array CpInfo := pool [(1, .methodref 2 3), (0, .class_ 4), (0, .nameAndType 5 6), (0, u "java/lang/Object"), (0, u "<init>"), (0, u "()V"), (0, .string 8), (0, u ""), (0, .fieldref 10 11), (0, .class_ 12), (0, .nameAndType 13 14), (0, u "java/lang/String"), (0, u "value"), (0, u "[B"), (0, .fieldref 10 16), (0, .nameAndType 17 18), (0, u "coder"), (0, u "B"), (2, u "hash"), (0, u "I"), (2, u "hashIsZero"), (0, u "Z"), (0, .methodref 10 28), (0, .nameAndType 5 29), (0, u "([CIILjava/lang/Void;)V"), (8, .fieldref 10 39), (0, .nameAndType 40 26), (0, u "COMPACT_STRINGS"), (1, .class_ 44), (1, u "java/lang/StringUTF16"), (0, u "compress"), (1, .methodref 42 48), (0, .nameAndType 49 50), (0, u "coderFromArrayLen"), (0, u "([BI)B"), (126, .methodref 42 178), (0, .nameAndType 45 179), (0, u "([CII)[B"), (363, u "equals"), (29, u "(Ljava/lang/Object;)Z"), (1, .class_ 576), (0, u "java/lang/CharSequence"), (22, u "CASE_INSENSITIVE_ORDER"), (0, u "Ljava/util/Comparator;"), (409, u "([C)V"), (90, u "serialPersistentFields"), (0, u "[Ljava/io/ObjectStreamField;"), (0, .class_ 1104), (0, u "java/lang/String$CaseInsensitiveComparator"), (1, .class_ 1107), (0, u "java/io/Serializable"), (0, .class_ 1109), (0, u "java/lang/Comparable"), (0, .class_ 1111), (0, u "java/lang/constant/Constable"), (0, .class_ 1113), (0, u "java/lang/constant/ConstantDesc"), (2, u "serialVersionUID"), (0, u "J"), (3, u "REPL"), (0, u "C"), (2, u "LATIN1"), (1, u "UTF16")] 323

def k11m0 : Method := { name := "<init>", desc := "()V", sig := { parameters := [], returnType := none }, accessFlags := 1, code := none }
def k11c1 : Code := { maxStack := 5, maxLocals := 2, code := jdk_42_method_3_code, exceptionTable := #[], attributes := #[] }
def k11m1 : Method := { name := "<init>", desc := "([C)V", sig := { parameters := [(.array .char)], returnType := none }, accessFlags := 1, code := some k11c1 }
def k11c2 : Code := { maxStack := 2, maxLocals := 3, code := jdk_42_method_66_code, exceptionTable := #[], attributes := #[] }
def k11m2 : Method := { name := "equals", desc := "(Ljava/lang/Object;)Z", sig := { parameters := [(.object "java/lang/Object")], returnType := some .boolean }, accessFlags := 1, code := some k11c2 }
def k11c3 : Code := { maxStack := 4, maxLocals := 6, code := jdk_42_method_149_code, exceptionTable := #[], attributes := #[] }
def k11m3 : Method := { name := "<init>", desc := "([CIILjava/lang/Void;)V", sig := { parameters := [(.array .char), .int, .int, (.object "java/lang/Void")], returnType := none }, accessFlags := 2, code := some k11c3 }
/-- java/lang/String -/
def k11 : Class := { plain "java/lang/String" (some 0) with
  accessFlags := 49
  interfaces := #[6, 7, 8, 9, 10]
  cf := some (fileOf pool11 10 #[.nestMembers #[1103]] #[{ accessFlags := 1, nameIndex := 5, descriptorIndex := 6, attributes := #[] }, { accessFlags := 1, nameIndex := 5, descriptorIndex := 1010, attributes := #[] }, { accessFlags := 1, nameIndex := 543, descriptorIndex := 573, attributes := #[] }, { accessFlags := 2, nameIndex := 5, descriptorIndex := 29, attributes := #[] }] 49 2 #[1106, 1108, 575, 1110, 1112] #[{ accessFlags := 18, nameIndex := 13, descriptorIndex := 14, attributes := #[] }, { accessFlags := 18, nameIndex := 17, descriptorIndex := 18, attributes := #[] }, { accessFlags := 2, nameIndex := 21, descriptorIndex := 22, attributes := #[] }, { accessFlags := 2, nameIndex := 25, descriptorIndex := 26, attributes := #[] }, { accessFlags := 26, nameIndex := 1116, descriptorIndex := 1117, attributes := #[] }, { accessFlags := 24, nameIndex := 40, descriptorIndex := 26, attributes := #[] }, { accessFlags := 26, nameIndex := 1101, descriptorIndex := 1102, attributes := #[] }, { accessFlags := 26, nameIndex := 1121, descriptorIndex := 1122, attributes := #[] }, { accessFlags := 25, nameIndex := 599, descriptorIndex := 600, attributes := #[] }, { accessFlags := 24, nameIndex := 1125, descriptorIndex := 18, attributes := #[] }, { accessFlags := 24, nameIndex := 1127, descriptorIndex := 18, attributes := #[] }])
  fields := #[{ name := "value", type := (.array .byte), accessFlags := 18, slot := 0, constantValue := 0 }, { name := "coder", type := .byte, accessFlags := 18, slot := 1, constantValue := 0 }, { name := "hash", type := .int, accessFlags := 2, slot := 2, constantValue := 0 }, { name := "hashIsZero", type := .boolean, accessFlags := 2, slot := 3, constantValue := 0 }, { name := "serialVersionUID", type := .long, accessFlags := 26, slot := 0, constantValue := 0 }, { name := "COMPACT_STRINGS", type := .boolean, accessFlags := 24, slot := 1, constantValue := 0 }, { name := "serialPersistentFields", type := (.array (.object "java/io/ObjectStreamField")), accessFlags := 26, slot := 2, constantValue := 0 }, { name := "REPL", type := .char, accessFlags := 26, slot := 3, constantValue := 0 }, { name := "CASE_INSENSITIVE_ORDER", type := (.object "java/util/Comparator"), accessFlags := 25, slot := 4, constantValue := 0 }, { name := "LATIN1", type := .byte, accessFlags := 24, slot := 5, constantValue := 0 }, { name := "UTF16", type := .byte, accessFlags := 24, slot := 6, constantValue := 0 }]
  methods := #[k11m0, k11m1, k11m2, k11m3]
  instanceTypes := #[(.array .byte), .byte, .int, .boolean]
  staticTypes := #[.long, .boolean, (.array (.object "java/io/ObjectStreamField")), .char, (.object "java/util/Comparator"), .byte, .byte]
  resolved := Array.replicate 1451 none
  statics := some 2 }

def pool12 : Array CpInfo := pool [(1, .interfaceMethodref 2 3), (0, .class_ 4), (0, .nameAndType 5 6), (0, u "java/util/List"), (0, u "of"), (0, u "()Ljava/util/List;"), (0, .methodref 8 9), (0, .class_ 10), (0, .nameAndType 11 12), (0, u "com/example/binfold/binfold/mime/Headers"), (0, u "<init>"), (0, u "(Ljava/util/List;)V"), (0, .methodref 14 15), (0, .class_ 16), (0, .nameAndType 11 17), (0, u "java/lang/Object"), (0, u "()V"), (0, .class_ 19), (0, u "java/util/ArrayList"), (0, .methodref 18 21), (0, .nameAndType 11 22), (0, u "(Ljava/util/Collection;)V"), (0, .methodref 24 25), (0, .class_ 26), (0, .nameAndType 27 28), (0, u "java/util/Collections"), (0, u "unmodifiableList"), (0, u "(Ljava/util/List;)Ljava/util/List;"), (0, .fieldref 8 30), (0, .nameAndType 31 32), (0, u "fields"), (0, u "Ljava/util/List;"), (17, .class_ 51), (0, u "com/example/binfold/binfold/mime/Headers$BlockReader"), (189, u "MIME_VERSION"), (0, u "Ljava/lang/String;"), (3, u "CONTENT_TYPE"), (0, u "CONTENT_TRANSFER_ENCODING"), (2, u "CONTENT_ID"), (2, u "MAX_BLOCK_LENGTH"), (0, u "I")] 65

def k12c0 : Code := { maxStack := 2, maxLocals := 1, code := prog_55_method_1_code, exceptionTable := #[], attributes := #[] }
def k12m0 : Method := { name := "<init>", desc := "()V", sig := { parameters := [], returnType := none }, accessFlags := 1, code := some k12c0 }
def k12c1 : Code := { maxStack := 4, maxLocals := 2, code := prog_55_method_2_code, exceptionTable := #[], attributes := #[] }
def k12m1 : Method := { name := "<init>", desc := "(Ljava/util/List;)V", sig := { parameters := [(.object "java/util/List")], returnType := none }, accessFlags := 2, code := some k12c1 }
/-- com/example/binfold/binfold/mime/Headers -/
def k12 : Class := { plain "com/example/binfold/binfold/mime/Headers" (some 0) with
  accessFlags := 49
  interfaces := #[]
  cf := some (fileOf pool12 8 #[.nestMembers #[50]] #[{ accessFlags := 1, nameIndex := 11, descriptorIndex := 17, attributes := #[] }, { accessFlags := 2, nameIndex := 11, descriptorIndex := 12, attributes := #[] }] 49 14 #[] #[{ accessFlags := 25, nameIndex := 241, descriptorIndex := 242, attributes := #[] }, { accessFlags := 25, nameIndex := 246, descriptorIndex := 242, attributes := #[] }, { accessFlags := 25, nameIndex := 247, descriptorIndex := 242, attributes := #[] }, { accessFlags := 25, nameIndex := 250, descriptorIndex := 242, attributes := #[] }, { accessFlags := 25, nameIndex := 253, descriptorIndex := 254, attributes := #[] }, { accessFlags := 18, nameIndex := 31, descriptorIndex := 32, attributes := #[] }])
  fields := #[{ name := "MIME_VERSION", type := (.object "java/lang/String"), accessFlags := 25, slot := 0, constantValue := 0 }, { name := "CONTENT_TYPE", type := (.object "java/lang/String"), accessFlags := 25, slot := 1, constantValue := 0 }, { name := "CONTENT_TRANSFER_ENCODING", type := (.object "java/lang/String"), accessFlags := 25, slot := 2, constantValue := 0 }, { name := "CONTENT_ID", type := (.object "java/lang/String"), accessFlags := 25, slot := 3, constantValue := 0 }, { name := "MAX_BLOCK_LENGTH", type := .int, accessFlags := 25, slot := 4, constantValue := 0 }, { name := "fields", type := (.object "java/util/List"), accessFlags := 18, slot := 0, constantValue := 0 }]
  methods := #[k12m0, k12m1]
  instanceTypes := #[(.object "java/util/List")]
  staticTypes := #[(.object "java/lang/String"), (.object "java/lang/String"), (.object "java/lang/String"), (.object "java/lang/String"), .int]
  resolved := Array.replicate 320 none
  statics := none }

def pool13 : Array CpInfo := pool [(8, .class_ 10), (1, u "java/lang/Iterable"), (24, .class_ 36), (0, u "java/lang/Object")] 25

/-- java/lang/Iterable -/
def k13 : Class := { plain "java/lang/Iterable" (some 0) with
  accessFlags := 1537
  interfaces := #[]
  cf := some (fileOf pool13 8 #[] #[] 1537 35 #[] #[])
  fields := #[]
  methods := #[]
  instanceTypes := #[]
  staticTypes := #[]
  resolved := Array.replicate 62 none
  statics := none }

def pool14 : Array CpInfo := pool [(10, .class_ 12), (1, u "java/util/Collection"), (0, u "toArray"), (46, .class_ 61), (0, u "java/lang/Object"), (0, .class_ 63), (0, u "java/lang/Iterable"), (6, u "()[Ljava/lang/Object;")] 44

def k14m0 : Method := { name := "toArray", desc := "()[Ljava/lang/Object;", sig := { parameters := [], returnType := some (.array (.object "java/lang/Object")) }, accessFlags := 1025, code := none }
/-- java/util/Collection -/
def k14 : Class := { plain "java/util/Collection" (some 0) with
  accessFlags := 1537
  interfaces := #[13]
  cf := some (fileOf pool14 10 #[] #[{ accessFlags := 1025, nameIndex := 13, descriptorIndex := 70, attributes := #[] }] 1537 60 #[62] #[])
  fields := #[]
  methods := #[k14m0]
  instanceTypes := #[]
  staticTypes := #[]
  resolved := Array.replicate 115 none
  statics := none }

def pool15 : Array CpInfo := pool [(8, .class_ 10), (1, u "java/util/SequencedCollection"), (15, .class_ 27), (0, u "java/lang/Object"), (0, .class_ 29), (0, u "java/util/Collection")] 27

/-- java/util/SequencedCollection -/
def k15 : Class := { plain "java/util/SequencedCollection" (some 0) with
  accessFlags := 1537
  interfaces := #[14]
  cf := some (fileOf pool15 8 #[] #[] 1537 26 #[28] #[])
  fields := #[]
  methods := #[]
  instanceTypes := #[]
  staticTypes := #[]
  resolved := Array.replicate 57 none
  statics := none }

def pool16 : Array CpInfo := pool [(8, .class_ 10), (1, u "java/util/List"), (77, u "of"), (1, .fieldref 91 92), (0, .class_ 93), (0, .nameAndType 94 95), (0, u "java/util/ImmutableCollections"), (0, u "EMPTY_LIST"), (0, u "Ljava/util/ImmutableCollections$ListN;"), (7, .class_ 104), (0, u "java/lang/Object"), (14, u "()Ljava/util/List;"), (0, .class_ 121), (0, u "java/util/SequencedCollection")] 129

def k16c0 : Code := { maxStack := 1, maxLocals := 0, code := jdk_40_method_36_code, exceptionTable := #[], attributes := #[] }
def k16m0 : Method := { name := "of", desc := "()Ljava/util/List;", sig := { parameters := [], returnType := some (.object "java/util/List") }, accessFlags := 9, code := some k16c0 }
/-- java/util/List -/
def k16 : Class := { plain "java/util/List" (some 0) with
  accessFlags := 1537
  interfaces := #[15]
  cf := some (fileOf pool16 8 #[] #[{ accessFlags := 9, nameIndex := 88, descriptorIndex := 119, attributes := #[] }] 1537 103 #[120] #[])
  fields := #[]
  methods := #[k16m0]
  instanceTypes := #[]
  staticTypes := #[]
  resolved := Array.replicate 251 none
  statics := none }

def pool17 : Array CpInfo := pool [(2, .class_ 4), (1, u "java/lang/Object"), (0, u "<init>"), (0, u "()V"), (3, .class_ 11), (0, u "java/util/ImmutableCollections$List12"), (0, .class_ 13), (0, u "java/util/ImmutableCollections$ListN"), (3, u "Z"), (29, .class_ 49), (1, u "java/util/ImmutableCollections"), (0, u "$assertionsDisabled"), (5, u "[Ljava/lang/Object;"), (5, u "EMPTY_LIST"), (0, u "Ljava/util/ImmutableCollections$ListN;"), (8, u "EMPTY_LIST_NULLS"), (22, u "SALT32L"), (0, u "J"), (2, u "REVERSE"), (6, u "archivedObjects"), (2, u "EMPTY"), (0, u "Ljava/lang/Object;"), (0, .class_ 112), (0, u "java/util/ImmutableCollections$SetN"), (5, u "EMPTY_SET"), (0, u "Ljava/util/ImmutableCollections$SetN;"), (0, .class_ 121), (0, u "java/util/ImmutableCollections$MapN"), (3, u "EMPTY_MAP"), (0, u "Ljava/util/ImmutableCollections$MapN;"), (4, u "EXPAND_FACTOR"), (0, u "I"), (36, .class_ 170), (0, u "java/util/ImmutableCollections$MapN$MapNIterator"), (0, .class_ 172), (0, u "java/util/ImmutableCollections$MapN$1"), (0, .class_ 174), (0, u "java/util/ImmutableCollections$Map1"), (0, .class_ 176), (0, u "java/util/ImmutableCollections$AbstractImmutableMap"), (0, .class_ 178), (0, u "java/util/ImmutableCollections$SetN$SetNIterator"), (0, .class_ 180), (0, u "java/util/ImmutableCollections$Set12"), (0, .class_ 182), (0, u "java/util/ImmutableCollections$Set12$1"), (0, .class_ 184), (0, u "java/util/ImmutableCollections$AbstractImmutableSet"), (0, .class_ 186), (0, u "java/util/ImmutableCollections$SubList"), (0, .class_ 188), (0, u "java/util/ImmutableCollections$ListItr"), (0, .class_ 190), (0, u "java/util/ImmutableCollections$AbstractImmutableList"), (0, .class_ 192), (0, u "java/util/ImmutableCollections$AbstractImmutableCollection"), (0, .class_ 194), (0, u "java/util/ImmutableCollections$Access"), (0, .class_ 196), (0, u "java/util/ImmutableCollections$Access$1")] 16

def k17m0 : Method := { name := "<init>", desc := "()V", sig := { parameters := [], returnType := none }, accessFlags := 2, code := none }
/-- java/util/ImmutableCollections -/
def k17 : Class := { plain "java/util/ImmutableCollections" (some 0) with
  accessFlags := 32
  interfaces := #[]
  cf := some (fileOf pool17 47 #[.nestMembers #[120, 169, 171, 173, 175, 111, 177, 179, 181, 183, 12, 10, 185, 187, 189, 191, 193, 195]] #[{ accessFlags := 2, nameIndex := 5, descriptorIndex := 6, attributes := #[] }] 32 2 #[] #[{ accessFlags := 26, nameIndex := 95, descriptorIndex := 96, attributes := #[] }, { accessFlags := 26, nameIndex := 99, descriptorIndex := 17, attributes := #[] }, { accessFlags := 10, nameIndex := 106, descriptorIndex := 56, attributes := #[] }, { accessFlags := 26, nameIndex := 109, descriptorIndex := 110, attributes := #[] }, { accessFlags := 24, nameIndex := 62, descriptorIndex := 63, attributes := #[] }, { accessFlags := 24, nameIndex := 72, descriptorIndex := 63, attributes := #[] }, { accessFlags := 24, nameIndex := 118, descriptorIndex := 119, attributes := #[] }, { accessFlags := 24, nameIndex := 125, descriptorIndex := 126, attributes := #[] }, { accessFlags := 24, nameIndex := 131, descriptorIndex := 132, attributes := #[] }, { accessFlags := 4120, nameIndex := 50, descriptorIndex := 17, attributes := #[] }])
  fields := #[{ name := "SALT32L", type := .long, accessFlags := 26, slot := 0, constantValue := 0 }, { name := "REVERSE", type := .boolean, accessFlags := 26, slot := 1, constantValue := 0 }, { name := "archivedObjects", type := (.array (.object "java/lang/Object")), accessFlags := 10, slot := 2, constantValue := 0 }, { name := "EMPTY", type := (.object "java/lang/Object"), accessFlags := 26, slot := 3, constantValue := 0 }, { name := "EMPTY_LIST", type := (.object "java/util/ImmutableCollections$ListN"), accessFlags := 24, slot := 4, constantValue := 0 }, { name := "EMPTY_LIST_NULLS", type := (.object "java/util/ImmutableCollections$ListN"), accessFlags := 24, slot := 5, constantValue := 0 }, { name := "EMPTY_SET", type := (.object "java/util/ImmutableCollections$SetN"), accessFlags := 24, slot := 6, constantValue := 0 }, { name := "EMPTY_MAP", type := (.object "java/util/ImmutableCollections$MapN"), accessFlags := 24, slot := 7, constantValue := 0 }, { name := "EXPAND_FACTOR", type := .int, accessFlags := 24, slot := 8, constantValue := 0 }, { name := "$assertionsDisabled", type := .boolean, accessFlags := 4120, slot := 9, constantValue := 0 }]
  methods := #[k17m0]
  instanceTypes := #[]
  staticTypes := #[.long, .boolean, (.array (.object "java/lang/Object")), (.object "java/lang/Object"), (.object "java/util/ImmutableCollections$ListN"), (.object "java/util/ImmutableCollections$ListN"), (.object "java/util/ImmutableCollections$SetN"), (.object "java/util/ImmutableCollections$MapN"), .int, .boolean]
  resolved := Array.replicate 213 none
  statics := some 3 }

def pool18 : Array CpInfo := pool [(1, .methodref 2 3), (0, .class_ 4), (0, .nameAndType 5 6), (0, u "java/lang/Object"), (0, u "<init>"), (0, u "()V"), (1, .class_ 10), (1, u "java/util/AbstractCollection"), (66, .class_ 78), (0, u "java/util/Collection")] 81

def k18c0 : Code := { maxStack := 1, maxLocals := 1, code := jdk_22_method_1_code, exceptionTable := #[], attributes := #[] }
def k18m0 : Method := { name := "<init>", desc := "()V", sig := { parameters := [], returnType := none }, accessFlags := 4, code := some k18c0 }
/-- java/util/AbstractCollection -/
def k18 : Class := { plain "java/util/AbstractCollection" (some 0) with
  accessFlags := 1057
  interfaces := #[14]
  cf := some (fileOf pool18 8 #[] #[{ accessFlags := 4, nameIndex := 5, descriptorIndex := 6, attributes := #[] }] 1057 2 #[77] #[])
  fields := #[]
  methods := #[k18m0]
  instanceTypes := #[]
  staticTypes := #[]
  resolved := Array.replicate 160 none
  statics := none }

def pool19 : Array CpInfo := pool [(1, .methodref 2 3), (0, .class_ 4), (0, .nameAndType 5 6), (0, u "java/util/AbstractCollection"), (0, u "<init>"), (0, u "()V"), (0, .fieldref 8 9), (0, .class_ 10), (0, .nameAndType 11 12), (0, u "java/util/AbstractList"), (0, u "modCount"), (0, u "I"), (64, .class_ 78), (0, u "java/util/AbstractList$Itr"), (3, .class_ 83), (0, u "java/util/AbstractList$ListItr"), (9, .class_ 94), (0, u "java/util/AbstractList$RandomAccessSubList"), (3, .class_ 99), (0, u "java/util/AbstractList$SubList"), (33, .class_ 134), (0, u "java/util/List"), (73, .class_ 209), (0, u "java/util/AbstractList$SubList$1"), (0, .class_ 211), (0, u "java/util/AbstractList$RandomAccessSpliterator")] 6

def k19c0 : Code := { maxStack := 2, maxLocals := 1, code := jdk_39_method_1_code, exceptionTable := #[], attributes := #[] }
def k19m0 : Method := { name := "<init>", desc := "()V", sig := { parameters := [], returnType := none }, accessFlags := 4, code := some k19c0 }
/-- java/util/AbstractList -/
def k19 : Class := { plain "java/util/AbstractList" (some 18) with
  accessFlags := 1057
  interfaces := #[16]
  cf := some (fileOf pool19 8 #[.nestMembers #[93, 98, 208, 210, 82, 77]] #[{ accessFlags := 4, nameIndex := 5, descriptorIndex := 6, attributes := #[] }] 1057 2 #[133] #[{ accessFlags := 132, nameIndex := 11, descriptorIndex := 12, attributes := #[] }])
  fields := #[{ name := "modCount", type := .int, accessFlags := 132, slot := 0, constantValue := 0 }]
  methods := #[k19m0]
  instanceTypes := #[.int]
  staticTypes := #[]
  resolved := Array.replicate 218 none
  statics := none }

def pool20 : Array CpInfo := pool [(1, .class_ 2), (0, u "java/util/RandomAccess"), (0, .class_ 4), (0, u "java/lang/Object")] 2

/-- java/util/RandomAccess -/
def k20 : Class := { plain "java/util/RandomAccess" (some 0) with
  accessFlags := 1537
  interfaces := #[]
  cf := some (fileOf pool20 1 #[] #[] 1537 3 #[] #[])
  fields := #[]
  methods := #[]
  instanceTypes := #[]
  staticTypes := #[]
  resolved := Array.replicate 7 none
  statics := none }

def pool21 : Array CpInfo := pool [(1, .class_ 2), (0, u "java/lang/Cloneable"), (0, .class_ 4), (0, u "java/lang/Object")] 2

/-- java/lang/Cloneable -/
def k21 : Class := { plain "java/lang/Cloneable" (some 0) with
  accessFlags := 1537
  interfaces := #[]
  cf := some (fileOf pool21 1 #[] #[] 1537 3 #[] #[])
  fields := #[]
  methods := #[]
  instanceTypes := #[]
  staticTypes := #[]
  resolved := Array.replicate 7 none
  statics := none }

def pool22 : Array CpInfo := pool [(1, .methodref 2 3), (0, .class_ 4), (0, .nameAndType 5 6), (0, u "java/util/AbstractList"), (0, u "<init>"), (0, u "()V"), (2, .fieldref 10 11), (0, .class_ 12), (0, .nameAndType 13 14), (0, u "java/util/ArrayList"), (0, u "elementData"), (0, u "[Ljava/lang/Object;"), (0, .fieldref 10 16), (0, .nameAndType 17 14), (0, u "EMPTY_ELEMENTDATA"), (23, u "DEFAULTCAPACITY_EMPTY_ELEMENTDATA"), (0, .interfaceMethodref 43 44), (0, .class_ 45), (0, .nameAndType 46 47), (0, u "java/util/Collection"), (0, u "toArray"), (0, u "()[Ljava/lang/Object;"), (0, .fieldref 10 49), (0, .nameAndType 50 51), (0, u "size"), (0, u "I"), (96, .class_ 149), (0, u "java/util/List"), (112, .class_ 263), (0, u "java/util/ArrayList$ListItr"), (3, .class_ 268), (0, u "java/util/ArrayList$Itr"), (7, .class_ 277), (0, u "java/util/ArrayList$SubList"), (12, .class_ 291), (0, u "java/util/ArrayList$ArrayListSpliterator"), (37, .class_ 330), (0, u "java/util/RandomAccess"), (0, .class_ 332), (0, u "java/lang/Cloneable"), (0, .class_ 334), (0, u "java/io/Serializable"), (0, u "serialVersionUID"), (0, u "J"), (3, u "DEFAULT_CAPACITY"), (10, u "(Ljava/util/Collection;)V"), (148, .class_ 501), (0, u "java/util/ArrayList$SubList$2"), (0, .class_ 503), (0, u "java/util/ArrayList$SubList$1")] 5

def k22m0 : Method := { name := "<init>", desc := "()V", sig := { parameters := [], returnType := none }, accessFlags := 1, code := none }
def k22c1 : Code := { maxStack := 4, maxLocals := 3, code := jdk_38_method_3_code, exceptionTable := #[], attributes := #[] }
def k22m1 : Method := { name := "<init>", desc := "(Ljava/util/Collection;)V", sig := { parameters := [(.object "java/util/Collection")], returnType := none }, accessFlags := 1, code := some k22c1 }
/-- java/util/ArrayList -/
def k22 : Class := { plain "java/util/ArrayList" (some 19) with
  accessFlags := 33
  interfaces := #[16, 20, 21, 6]
  cf := some (fileOf pool22 10 #[.nestMembers #[290, 276, 500, 502, 262, 267]] #[{ accessFlags := 1, nameIndex := 5, descriptorIndex := 6, attributes := #[] }, { accessFlags := 1, nameIndex := 5, descriptorIndex := 351, attributes := #[] }] 33 2 #[148, 329, 331, 333] #[{ accessFlags := 26, nameIndex := 335, descriptorIndex := 336, attributes := #[] }, { accessFlags := 26, nameIndex := 340, descriptorIndex := 51, attributes := #[] }, { accessFlags := 26, nameIndex := 17, descriptorIndex := 14, attributes := #[] }, { accessFlags := 26, nameIndex := 41, descriptorIndex := 14, attributes := #[] }, { accessFlags := 128, nameIndex := 13, descriptorIndex := 14, attributes := #[] }, { accessFlags := 2, nameIndex := 50, descriptorIndex := 51, attributes := #[] }])
  fields := #[{ name := "serialVersionUID", type := .long, accessFlags := 26, slot := 0, constantValue := 0 }, { name := "DEFAULT_CAPACITY", type := .int, accessFlags := 26, slot := 1, constantValue := 0 }, { name := "EMPTY_ELEMENTDATA", type := (.array (.object "java/lang/Object")), accessFlags := 26, slot := 2, constantValue := 0 }, { name := "DEFAULTCAPACITY_EMPTY_ELEMENTDATA", type := (.array (.object "java/lang/Object")), accessFlags := 26, slot := 3, constantValue := 0 }, { name := "elementData", type := (.array (.object "java/lang/Object")), accessFlags := 128, slot := 1, constantValue := 0 }, { name := "size", type := .int, accessFlags := 2, slot := 2, constantValue := 0 }]
  methods := #[k22m0, k22m1]
  instanceTypes := #[.int, (.array (.object "java/lang/Object")), .int]
  staticTypes := #[.long, .int, (.array (.object "java/lang/Object")), (.array (.object "java/lang/Object"))]
  resolved := Array.replicate 509 none
  mirror := some 7
  statics := some 4 }

def pool23 : Array CpInfo := pool [(2, .class_ 4), (1, u "java/util/AbstractCollection"), (0, u "<init>"), (0, u "()V"), (1, .class_ 10), (1, u "java/util/ImmutableCollections"), (2, .class_ 14), (0, u "java/util/ImmutableCollections$AbstractImmutableCollection")] 41

def k23m0 : Method := { name := "<init>", desc := "()V", sig := { parameters := [], returnType := none }, accessFlags := 0, code := none }
/-- java/util/ImmutableCollections$AbstractImmutableCollection -/
def k23 : Class := { plain "java/util/ImmutableCollections$AbstractImmutableCollection" (some 18) with
  accessFlags := 1056
  interfaces := #[]
  cf := some (fileOf pool23 13 #[.nestHost 8] #[{ accessFlags := 0, nameIndex := 5, descriptorIndex := 6, attributes := #[] }] 1056 2 #[] #[])
  fields := #[]
  methods := #[k23m0]
  instanceTypes := #[]
  staticTypes := #[]
  resolved := Array.replicate 56 none
  statics := none }

def pool24 : Array CpInfo := pool [(2, .class_ 4), (1, u "java/util/ImmutableCollections$AbstractImmutableCollection"), (0, u "<init>"), (0, u "()V"), (1, .class_ 10), (1, u "java/util/ImmutableCollections"), (3, .class_ 16), (1, u "java/util/ImmutableCollections$AbstractImmutableList"), (60, .class_ 78), (0, u "java/util/List"), (45, .class_ 125), (0, u "java/util/RandomAccess")] 70

def k24m0 : Method := { name := "<init>", desc := "()V", sig := { parameters := [], returnType := none }, accessFlags := 0, code := none }
/-- java/util/ImmutableCollections$AbstractImmutableList -/
def k24 : Class := { plain "java/util/ImmutableCollections$AbstractImmutableList" (some 23) with
  accessFlags := 1056
  interfaces := #[16, 20]
  cf := some (fileOf pool24 14 #[.nestHost 8] #[{ accessFlags := 0, nameIndex := 5, descriptorIndex := 6, attributes := #[] }] 1056 2 #[77, 124] #[])
  fields := #[]
  methods := #[k24m0]
  instanceTypes := #[]
  staticTypes := #[]
  resolved := Array.replicate 196 none
  statics := none }

def pool25 : Array CpInfo := pool [(2, .class_ 4), (1, u "java/util/ImmutableCollections$AbstractImmutableList"), (2, .fieldref 8 9), (0, .class_ 10), (0, .nameAndType 11 12), (0, u "java/util/ImmutableCollections$ListN"), (0, u "elements"), (0, u "[Ljava/lang/Object;"), (2, u "allowNulls"), (0, u "Z"), (12, .methodref 30 31), (0, .class_ 32), (0, .nameAndType 33 34), (0, u "java/util/Arrays"), (0, u "copyOf"), (0, u "([Ljava/lang/Object;I)[Ljava/lang/Object;"), (24, .class_ 60), (0, u "java/io/Serializable"), (34, u "toArray"), (0, u "()[Ljava/lang/Object;"), (17, .class_ 115), (0, u "java/util/ImmutableCollections")] 3

def k25c0 : Code := { maxStack := 2, maxLocals := 1, code := jdk_45_method_7_code, exceptionTable := #[], attributes := #[] }
def k25m0 : Method := { name := "toArray", desc := "()[Ljava/lang/Object;", sig := { parameters := [], returnType := some (.array (.object "java/lang/Object")) }, accessFlags := 1, code := some k25c0 }
/-- java/util/ImmutableCollections$ListN -/
def k25 : Class := { plain "java/util/ImmutableCollections$ListN" (some 24) with
  accessFlags := 48
  interfaces := #[6]
  cf := some (fileOf pool25 8 #[.nestHost 114] #[{ accessFlags := 1, nameIndex := 95, descriptorIndex := 96, attributes := #[] }] 48 2 #[59] #[{ accessFlags := 18, nameIndex := 11, descriptorIndex := 12, attributes := #[] }, { accessFlags := 18, nameIndex := 15, descriptorIndex := 16, attributes := #[] }])
  fields := #[{ name := "elements", type := (.array (.object "java/lang/Object")), accessFlags := 18, slot := 0, constantValue := 0 }, { name := "allowNulls", type := .boolean, accessFlags := 18, slot := 1, constantValue := 0 }]
  methods := #[k25m0]
  instanceTypes := #[(.array (.object "java/lang/Object")), .boolean]
  staticTypes := #[]
  resolved := Array.replicate 119 none
  statics := none }

def pool26 : Array CpInfo := pool [(2, .class_ 4), (1, u "java/lang/Object"), (0, u "<init>"), (0, u "()V"), (7, .class_ 16), (1, u "java/util/Arrays"), (57, .class_ 76), (1, u "java/util/Arrays$NaturalOrder"), (9, .methodref 2 87), (0, .nameAndType 88 89), (0, u "getClass"), (0, u "()Ljava/lang/Class;"), (20, .class_ 111), (0, u "[Ljava/lang/Object;"), (1, .class_ 115), (1, u "java/util/Arrays$LegacyMergeSort"), (1, u "Z"), (32, .methodref 151 152), (0, .class_ 153), (0, .nameAndType 154 155), (0, u "java/lang/System"), (0, u "arraycopy"), (0, u "(Ljava/lang/Object;ILjava/lang/Object;II)V"), (144, .methodref 14 301), (0, .nameAndType 302 303), (0, u "copyOf"), (0, u "([Ljava/lang/Object;ILjava/lang/Class;)[Ljava/lang/Object;"), (0, .methodref 305 306), (0, .class_ 307), (0, .nameAndType 308 309), (0, u "java/lang/Math"), (0, u "min"), (0, u "(II)I"), (65, .class_ 376), (0, u "java/util/Arrays$ArrayList"), (68, u "$assertionsDisabled"), (269, u "MIN_ARRAY_SORT_GRAN"), (0, u "I"), (2, u "INSERTIONSORT_THRESHOLD"), (140, u "([Ljava/lang/Object;I)[Ljava/lang/Object;"), (114, .class_ 976), (0, u "java/util/Arrays$ArrayItr")] 52

def k26m0 : Method := { name := "<init>", desc := "()V", sig := { parameters := [], returnType := none }, accessFlags := 2, code := none }
def k26c1 : Code := { maxStack := 3, maxLocals := 2, code := jdk_65_method_119_code, exceptionTable := #[], attributes := #[] }
def k26m1 : Method := { name := "copyOf", desc := "([Ljava/lang/Object;I)[Ljava/lang/Object;", sig := { parameters := [(.array (.object "java/lang/Object")), .int], returnType := some (.array (.object "java/lang/Object")) }, accessFlags := 9, code := some k26c1 }
def k26c2 : Code := { maxStack := 6, maxLocals := 4, code := jdk_65_method_120_code, exceptionTable := #[], attributes := #[] }
def k26m2 : Method := { name := "copyOf", desc := "([Ljava/lang/Object;ILjava/lang/Class;)[Ljava/lang/Object;", sig := { parameters := [(.array (.object "java/lang/Object")), .int, (.object "java/lang/Class")], returnType := some (.array (.object "java/lang/Object")) }, accessFlags := 9, code := some k26c2 }
/-- java/util/Arrays -/
def k26 : Class := { plain "java/util/Arrays" (some 0) with
  accessFlags := 49
  interfaces := #[]
  cf := some (fileOf pool26 14 #[.nestMembers #[975, 375, 113, 74]] #[{ accessFlags := 2, nameIndex := 5, descriptorIndex := 6, attributes := #[] }, { accessFlags := 9, nameIndex := 302, descriptorIndex := 860, attributes := #[] }, { accessFlags := 9, nameIndex := 302, descriptorIndex := 303, attributes := #[] }] 49 2 #[] #[{ accessFlags := 26, nameIndex := 715, descriptorIndex := 716, attributes := #[] }, { accessFlags := 26, nameIndex := 719, descriptorIndex := 716, attributes := #[] }, { accessFlags := 4120, nameIndex := 445, descriptorIndex := 117, attributes := #[] }])
  fields := #[{ name := "MIN_ARRAY_SORT_GRAN", type := .int, accessFlags := 26, slot := 0, constantValue := 0 }, { name := "INSERTIONSORT_THRESHOLD", type := .int, accessFlags := 26, slot := 1, constantValue := 0 }, { name := "$assertionsDisabled", type := .boolean, accessFlags := 4120, slot := 2, constantValue := 0 }]
  methods := #[k26m0, k26m1, k26m2]
  instanceTypes := #[]
  staticTypes := #[.int, .int, .boolean]
  resolved := Array.replicate 1029 none
  statics := none }

def pool27 : Array CpInfo := pool [(1, .class_ 2), (0, u "java/lang/Math"), (1, .class_ 6), (1, u "java/lang/Object"), (0, u "<init>"), (0, u "()V"), (89, .class_ 100), (1, u "java/lang/Math$RandomNumberGeneratorHolder"), (71, u "negativeZeroFloatBits"), (0, u "J"), (2, u "negativeZeroDoubleBits"), (24, u "min"), (43, u "$assertionsDisabled"), (0, u "Z"), (88, u "(II)I"), (2, u "twoToTheDoubleScaleDown"), (0, u "D"), (4, u "twoToTheDoubleScaleUp"), (9, u "E"), (3, u "PI"), (2, u "TAU"), (2, u "DEGREES_TO_RADIANS"), (0, u "RADIANS_TO_DEGREES")] 94

def k27m0 : Method := { name := "<init>", desc := "()V", sig := { parameters := [], returnType := none }, accessFlags := 2, code := none }
def k27c1 : Code := { maxStack := 2, maxLocals := 2, code := jdk_29_method_69_code, exceptionTable := #[], attributes := #[] }
def k27m1 : Method := { name := "min", desc := "(II)I", sig := { parameters := [.int, .int], returnType := some .int }, accessFlags := 9, code := some k27c1 }
/-- java/lang/Math -/
def k27 : Class := { plain "java/lang/Math" (some 0) with
  accessFlags := 49
  interfaces := #[]
  cf := some (fileOf pool27 1 #[.nestMembers #[98]] #[{ accessFlags := 2, nameIndex := 7, descriptorIndex := 8, attributes := #[] }, { accessFlags := 9, nameIndex := 201, descriptorIndex := 335, attributes := #[] }] 49 4 #[] #[{ accessFlags := 25, nameIndex := 354, descriptorIndex := 339, attributes := #[] }, { accessFlags := 25, nameIndex := 358, descriptorIndex := 339, attributes := #[] }, { accessFlags := 25, nameIndex := 361, descriptorIndex := 339, attributes := #[] }, { accessFlags := 26, nameIndex := 364, descriptorIndex := 339, attributes := #[] }, { accessFlags := 26, nameIndex := 365, descriptorIndex := 339, attributes := #[] }, { accessFlags := 26, nameIndex := 172, descriptorIndex := 173, attributes := #[] }, { accessFlags := 26, nameIndex := 176, descriptorIndex := 173, attributes := #[] }, { accessFlags := 8, nameIndex := 344, descriptorIndex := 339, attributes := #[] }, { accessFlags := 8, nameIndex := 338, descriptorIndex := 339, attributes := #[] }, { accessFlags := 4120, nameIndex := 245, descriptorIndex := 246, attributes := #[] }])
  fields := #[{ name := "E", type := .double, accessFlags := 25, slot := 0, constantValue := 0 }, { name := "PI", type := .double, accessFlags := 25, slot := 1, constantValue := 0 }, { name := "TAU", type := .double, accessFlags := 25, slot := 2, constantValue := 0 }, { name := "DEGREES_TO_RADIANS", type := .double, accessFlags := 26, slot := 3, constantValue := 0 }, { name := "RADIANS_TO_DEGREES", type := .double, accessFlags := 26, slot := 4, constantValue := 0 }, { name := "negativeZeroFloatBits", type := .long, accessFlags := 26, slot := 5, constantValue := 0 }, { name := "negativeZeroDoubleBits", type := .long, accessFlags := 26, slot := 6, constantValue := 0 }, { name := "twoToTheDoubleScaleUp", type := .double, accessFlags := 8, slot := 7, constantValue := 0 }, { name := "twoToTheDoubleScaleDown", type := .double, accessFlags := 8, slot := 8, constantValue := 0 }, { name := "$assertionsDisabled", type := .boolean, accessFlags := 4120, slot := 9, constantValue := 0 }]
  methods := #[k27m0, k27m1]
  instanceTypes := #[]
  staticTypes := #[.double, .double, .double, .double, .double, .long, .long, .double, .double, .boolean]
  resolved := Array.replicate 460 none
  statics := none }

def pool28 : Array CpInfo := pool [(2, .class_ 4), (1, u "java/lang/Object"), (0, u "<init>"), (0, u "()V"), (1, .class_ 10), (1, u "java/lang/System"), (0, u "allowSecurityManager"), (0, u "I"), (16, u "cons"), (0, u "Ljava/io/Console;"), (77, .class_ 110), (1, u "java/lang/System$CallersHolder"), (43, u "initialErrStream"), (0, u "Ljava/io/PrintStream;"), (19, u "security"), (0, u "Ljava/lang/SecurityManager;"), (31, .class_ 209), (0, u "java/lang/System$1"), (7, u "props"), (0, u "Ljava/util/Properties;"), (2, u "lineSeparator"), (0, u "Ljava/lang/String;"), (96, .class_ 321), (1, u "java/lang/System$LoggerFinder"), (5, .class_ 328), (0, u "java/lang/System$Logger"), (67, u "err"), (2, u "out"), (91, u "notSupportedJnuEncoding"), (15, u "in"), (17, u "initialIn"), (0, u "Ljava/io/InputStream;"), (35, u "bootLayer"), (0, u "Ljava/lang/ModuleLayer;"), (99, .class_ 664), (0, u "java/lang/System$2"), (9, u "NEVER"), (2, u "MAYBE"), (49, u "arraycopy"), (0, u "(Ljava/lang/Object;ILjava/lang/Object;II)V"), (72, .class_ 802), (0, u "java/lang/System$Logger$Level")] 31

def k28m0 : Method := { name := "<init>", desc := "()V", sig := { parameters := [], returnType := none }, accessFlags := 2, code := none }
def k28m1 : Method := { name := "arraycopy", desc := "(Ljava/lang/Object;ILjava/lang/Object;II)V", sig := { parameters := [(.object "java/lang/Object"), .int, (.object "java/lang/Object"), .int, .int], returnType := none }, accessFlags := 265, code := none }
/-- java/lang/System -/
def k28 : Class := { plain "java/lang/System" (some 0) with
  accessFlags := 49
  interfaces := #[]
  cf := some (fileOf pool28 8 #[.nestMembers #[319, 327, 801, 108, 663, 208]] #[{ accessFlags := 2, nameIndex := 5, descriptorIndex := 6, attributes := #[] }, { accessFlags := 265, nameIndex := 727, descriptorIndex := 728, attributes := #[] }] 49 2 #[] #[{ accessFlags := 25, nameIndex := 507, descriptorIndex := 526, attributes := #[] }, { accessFlags := 25, nameIndex := 399, descriptorIndex := 155, attributes := #[] }, { accessFlags := 25, nameIndex := 396, descriptorIndex := 155, attributes := #[] }, { accessFlags := 10, nameIndex := 525, descriptorIndex := 526, attributes := #[] }, { accessFlags := 26, nameIndex := 674, descriptorIndex := 12, attributes := #[] }, { accessFlags := 26, nameIndex := 677, descriptorIndex := 12, attributes := #[] }, { accessFlags := 10, nameIndex := 11, descriptorIndex := 12, attributes := #[] }, { accessFlags := 74, nameIndex := 175, descriptorIndex := 176, attributes := #[] }, { accessFlags := 10, nameIndex := 491, descriptorIndex := 222, attributes := #[] }, { accessFlags := 74, nameIndex := 29, descriptorIndex := 30, attributes := #[] }, { accessFlags := 74, nameIndex := 154, descriptorIndex := 155, attributes := #[] }, { accessFlags := 10, nameIndex := 217, descriptorIndex := 218, attributes := #[] }, { accessFlags := 10, nameIndex := 221, descriptorIndex := 222, attributes := #[] }, { accessFlags := 8, nameIndex := 562, descriptorIndex := 563, attributes := #[] }])
  fields := #[{ name := "in", type := (.object "java/io/InputStream"), accessFlags := 25, slot := 0, constantValue := 0 }, { name := "out", type := (.object "java/io/PrintStream"), accessFlags := 25, slot := 1, constantValue := 0 }, { name := "err", type := (.object "java/io/PrintStream"), accessFlags := 25, slot := 2, constantValue := 0 }, { name := "initialIn", type := (.object "java/io/InputStream"), accessFlags := 10, slot := 3, constantValue := 0 }, { name := "NEVER", type := .int, accessFlags := 26, slot := 4, constantValue := 0 }, { name := "MAYBE", type := .int, accessFlags := 26, slot := 5, constantValue := 0 }, { name := "allowSecurityManager", type := .int, accessFlags := 10, slot := 6, constantValue := 0 }, { name := "security", type := (.object "java/lang/SecurityManager"), accessFlags := 74, slot := 7, constantValue := 0 }, { name := "notSupportedJnuEncoding", type := (.object "java/lang/String"), accessFlags := 10, slot := 8, constantValue := 0 }, { name := "cons", type := (.object "java/io/Console"), accessFlags := 74, slot := 9, constantValue := 0 }, { name := "initialErrStream", type := (.object "java/io/PrintStream"), accessFlags := 74, slot := 10, constantValue := 0 }, { name := "props", type := (.object "java/util/Properties"), accessFlags := 10, slot := 11, constantValue := 0 }, { name := "lineSeparator", type := (.object "java/lang/String"), accessFlags := 10, slot := 12, constantValue := 0 }, { name := "bootLayer", type := (.object "java/lang/ModuleLayer"), accessFlags := 8, slot := 13, constantValue := 0 }]
  methods := #[k28m0, k28m1]
  instanceTypes := #[]
  staticTypes := #[(.object "java/io/InputStream"), (.object "java/io/PrintStream"), (.object "java/io/PrintStream"), (.object "java/io/InputStream"), .int, .int, .int, (.object "java/lang/SecurityManager"), (.object "java/lang/String"), (.object "java/io/Console"), (.object "java/io/PrintStream"), (.object "java/util/Properties"), (.object "java/lang/String"), (.object "java/lang/ModuleLayer")]
  resolved := Array.replicate 834 none
  statics := none }

def pool29 : Array CpInfo := pool [(2, .class_ 4), (1, u "java/lang/Object"), (0, u "<init>"), (0, u "()V"), (1, .class_ 10), (1, u "java/util/List"), (2, .class_ 14), (0, u "java/util/RandomAccess"), (4, .class_ 20), (0, u "java/util/Collections"), (63, u "r"), (0, u "Ljava/util/Random;"), (67, u "(Ljava/util/List;)V"), (9, .nameAndType 164 165), (0, u "getClass"), (0, u "()Ljava/lang/Class;"), (0, .class_ 167), (0, u "java/util/Collections$UnmodifiableCollection"), (6, .class_ 175), (0, u "java/util/Collections$UnmodifiableSequencedCollection"), (6, .class_ 183), (0, u "java/util/Collections$UnmodifiableSet"), (6, .class_ 191), (0, u "java/util/Collections$UnmodifiableSequencedSet"), (6, .class_ 199), (0, u "java/util/Collections$UnmodifiableSortedSet"), (6, .class_ 207), (0, u "java/util/Collections$UnmodifiableNavigableSet"), (3, .interfaceMethodref 8 163), (0, .class_ 213), (0, u "java/util/Collections$UnmodifiableList"), (0, .interfaceMethodref 8 163), (0, .class_ 216), (0, u "java/util/Collections$UnmodifiableRandomAccessList"), (0, .methodref 215 218), (0, .nameAndType 5 153), (4, .class_ 224), (0, u "java/util/Collections$UnmodifiableMap"), (6, .class_ 232), (0, u "java/util/Collections$UnmodifiableSequencedMap"), (4, .class_ 238), (0, u "java/util/Collections$UnmodifiableSortedMap"), (6, .class_ 246), (0, u "java/util/Collections$UnmodifiableNavigableMap"), (3, .class_ 251), (0, u "java/util/Collections$SynchronizedCollection"), (4, .class_ 257), (0, u "java/util/Collections$SynchronizedSet"), (4, .class_ 263), (0, u "java/util/Collections$SynchronizedSortedSet"), (1, .class_ 266), (0, u "java/util/Collections$SynchronizedNavigableSet"), (1, .class_ 269), (0, u "java/util/Collections$SynchronizedRandomAccessList"), (1, .class_ 272), (0, u "java/util/Collections$SynchronizedList"), (5, .class_ 279), (0, u "java/util/Collections$SynchronizedMap"), (1, .class_ 282), (0, u "java/util/Collections$SynchronizedSortedMap"), (1, .class_ 285), (0, u "java/util/Collections$SynchronizedNavigableMap"), (1, .class_ 288), (0, u "java/util/Collections$CheckedCollection"), (11, .class_ 301), (0, u "java/util/Collections$CheckedQueue"), (3, .class_ 306), (0, u "java/util/Collections$CheckedSet"), (3, .class_ 311), (0, u "java/util/Collections$CheckedSortedSet"), (3, .class_ 316), (0, u "java/util/Collections$CheckedNavigableSet"), (3, .class_ 321), (0, u "java/util/Collections$CheckedRandomAccessList"), (3, .class_ 326), (0, u "java/util/Collections$CheckedList"), (1, .class_ 329), (0, u "java/util/Collections$CheckedMap"), (3, .class_ 334), (0, u "java/util/Collections$CheckedSortedMap"), (3, .class_ 339), (0, u "java/util/Collections$CheckedNavigableMap"), (4, .class_ 346), (1, u "java/util/Collections$EmptyIterator"), (3, .class_ 352), (1, u "java/util/Collections$EmptyListIterator"), (2, .class_ 357), (1, u "java/util/Collections$EmptyEnumeration"), (4, u "EMPTY_SET"), (0, u "Ljava/util/Set;"), (6, u "EMPTY_LIST"), (0, u "Ljava/util/List;"), (2, u "EMPTY_MAP"), (0, u "Ljava/util/Map;"), (4, .class_ 381), (0, u "java/util/Collections$SingletonSet"), (2, .class_ 385), (0, u "java/util/Collections$1"), (1, .class_ 388), (0, u "java/util/Collections$2"), (1, .class_ 391), (0, u "java/util/Collections$SingletonList"), (1, .class_ 394), (0, u "java/util/Collections$SingletonMap"), (22, .class_ 418), (0, u "java/util/Collections$CopiesList"), (4, .class_ 425), (1, u "java/util/Collections$ReverseComparator"), (8, .class_ 435), (0, u "java/util/Collections$ReverseComparator2"), (6, .class_ 443), (0, u "java/util/Collections$3"), (25, .class_ 470), (0, u "java/util/Collections$SetFromMap"), (2, .class_ 474), (0, u "java/util/Collections$SequencedSetFromMap"), (3, .class_ 479), (0, u "java/util/Collections$AsLIFOQueue"), (11, .class_ 492), (0, u "java/util/Collections$EmptySet"), (1, .class_ 495), (0, u "java/util/Collections$EmptyList"), (1, .class_ 498), (0, u "java/util/Collections$EmptyMap"), (1, u "BINARYSEARCH_THRESHOLD"), (0, u "I"), (2, u "REVERSE_THRESHOLD"), (1, u "SHUFFLE_THRESHOLD"), (1, u "FILL_THRESHOLD"), (1, u "ROTATE_THRESHOLD"), (1, u "COPY_THRESHOLD"), (1, u "REPLACEALL_THRESHOLD"), (1, u "INDEXOFSUBLIST_THRESHOLD"), (129, u "unmodifiableList"), (0, u "(Ljava/util/List;)Ljava/util/List;"), (202, .class_ 851), (0, u "java/util/Collections$CheckedMap$CheckedEntrySet"), (0, .class_ 853), (0, u "java/util/Collections$CheckedMap$CheckedEntrySet$CheckedEntry"), (0, .class_ 855), (0, u "java/util/Collections$CheckedMap$CheckedEntrySet$1"), (0, .class_ 857), (0, u "java/util/Collections$CheckedList$1"), (0, .class_ 859), (0, u "java/util/Collections$CheckedCollection$1"), (0, .class_ 861), (0, u "java/util/Collections$UnmodifiableNavigableMap$EmptyNavigableMap"), (0, .class_ 863), (0, u "java/util/Collections$UnmodifiableMap$UnmodifiableEntrySet"), (0, .class_ 865), (0, u "java/util/Collections$UnmodifiableMap$UnmodifiableEntrySet$UnmodifiableEntry"), (0, .class_ 867), (0, u "java/util/Collections$UnmodifiableMap$UnmodifiableEntrySet$UnmodifiableEntrySetSpliterator"), (0, .class_ 869), (0, u "java/util/Collections$UnmodifiableMap$UnmodifiableEntrySet$1"), (0, .class_ 871), (0, u "java/util/Collections$UnmodifiableList$1"), (0, .class_ 873), (0, u "java/util/Collections$UnmodifiableNavigableSet$EmptyNavigableSet"), (0, .class_ 875), (0, u "java/util/Collections$UnmodifiableCollection$1")] 57

def k29m0 : Method := { name := "<init>", desc := "()V", sig := { parameters := [], returnType := none }, accessFlags := 2, code := none }
def k29c1 : Code := { maxStack := 3, maxLocals := 1, code := jdk_79_method_35_code, exceptionTable := #[], attributes := #[] }
def k29m1 : Method := { name := "unmodifiableList", desc := "(Ljava/util/List;)Ljava/util/List;", sig := { parameters := [(.object "java/util/List")], returnType := some (.object "java/util/List") }, accessFlags := 9, code := some k29c1 }
/-- java/util/Collections -/
def k29 : Class := { plain "java/util/Collections" (some 0) with
  accessFlags := 33
  interfaces := #[]
  cf := some (fileOf pool29 19 #[.nestMembers #[478, 473, 469, 434, 423, 417, 393, 390, 380, 497, 494, 491, 355, 350, 344, 338, 333, 328, 850, 852, 854, 320, 325, 856, 315, 310, 305, 300, 287, 858, 284, 281, 278, 268, 271, 265, 262, 256, 250, 245, 860, 237, 231, 223, 862, 864, 866, 868, 215, 212, 870, 206, 872, 198, 190, 182, 174, 166, 874, 442, 387, 384]] #[{ accessFlags := 2, nameIndex := 5, descriptorIndex := 6, attributes := #[] }, { accessFlags := 9, nameIndex := 646, descriptorIndex := 647, attributes := #[] }] 33 2 #[] #[{ accessFlags := 26, nameIndex := 500, descriptorIndex := 501, attributes := #[] }, { accessFlags := 26, nameIndex := 504, descriptorIndex := 501, attributes := #[] }, { accessFlags := 26, nameIndex := 506, descriptorIndex := 501, attributes := #[] }, { accessFlags := 26, nameIndex := 508, descriptorIndex := 501, attributes := #[] }, { accessFlags := 26, nameIndex := 510, descriptorIndex := 501, attributes := #[] }, { accessFlags := 26, nameIndex := 512, descriptorIndex := 501, attributes := #[] }, { accessFlags := 26, nameIndex := 514, descriptorIndex := 501, attributes := #[] }, { accessFlags := 26, nameIndex := 516, descriptorIndex := 501, attributes := #[] }, { accessFlags := 10, nameIndex := 84, descriptorIndex := 85, attributes := #[] }, { accessFlags := 25, nameIndex := 362, descriptorIndex := 363, attributes := #[] }, { accessFlags := 25, nameIndex := 370, descriptorIndex := 371, attributes := #[] }, { accessFlags := 25, nameIndex := 374, descriptorIndex := 375, attributes := #[] }])
  fields := #[{ name := "BINARYSEARCH_THRESHOLD", type := .int, accessFlags := 26, slot := 0, constantValue := 0 }, { name := "REVERSE_THRESHOLD", type := .int, accessFlags := 26, slot := 1, constantValue := 0 }, { name := "SHUFFLE_THRESHOLD", type := .int, accessFlags := 26, slot := 2, constantValue := 0 }, { name := "FILL_THRESHOLD", type := .int, accessFlags := 26, slot := 3, constantValue := 0 }, { name := "ROTATE_THRESHOLD", type := .int, accessFlags := 26, slot := 4, constantValue := 0 }, { name := "COPY_THRESHOLD", type := .int, accessFlags := 26, slot := 5, constantValue := 0 }, { name := "REPLACEALL_THRESHOLD", type := .int, accessFlags := 26, slot := 6, constantValue := 0 }, { name := "INDEXOFSUBLIST_THRESHOLD", type := .int, accessFlags := 26, slot := 7, constantValue := 0 }, { name := "r", type := (.object "java/util/Random"), accessFlags := 10, slot := 8, constantValue := 0 }, { name := "EMPTY_SET", type := (.object "java/util/Set"), accessFlags := 25, slot := 9, constantValue := 0 }, { name := "EMPTY_LIST", type := (.object "java/util/List"), accessFlags := 25, slot := 10, constantValue := 0 }, { name := "EMPTY_MAP", type := (.object "java/util/Map"), accessFlags := 25, slot := 11, constantValue := 0 }]
  methods := #[k29m0, k29m1]
  instanceTypes := #[]
  staticTypes := #[.int, .int, .int, .int, .int, .int, .int, .int, (.object "java/util/Random"), (.object "java/util/Set"), (.object "java/util/List"), (.object "java/util/Map")]
  resolved := Array.replicate 933 none
  statics := none }

def pool30 : Array CpInfo := pool [(1, .methodref 2 3), (0, .class_ 4), (0, .nameAndType 5 6), (0, u "java/lang/Object"), (0, u "<init>"), (0, u "()V"), (3, .fieldref 11 12), (0, .class_ 13), (0, .nameAndType 14 15), (0, u "java/util/Collections$UnmodifiableCollection"), (0, u "c"), (0, u "Ljava/util/Collection;"), (1, .class_ 19), (1, u "java/util/Collection"), (51, .class_ 72), (0, u "java/io/Serializable"), (0, u "serialVersionUID"), (0, u "J"), (5, u "(Ljava/util/Collection;)V"), (51, .class_ 133), (0, u "java/util/Collections")] 2

def k30c0 : Code := { maxStack := 2, maxLocals := 2, code := jdk_119_method_1_code, exceptionTable := #[], attributes := #[] }
def k30m0 : Method := { name := "<init>", desc := "(Ljava/util/Collection;)V", sig := { parameters := [(.object "java/util/Collection")], returnType := none }, accessFlags := 0, code := some k30c0 }
/-- java/util/Collections$UnmodifiableCollection -/
def k30 : Class := { plain "java/util/Collections$UnmodifiableCollection" (some 0) with
  accessFlags := 32
  interfaces := #[14, 6]
  cf := some (fileOf pool30 11 #[.nestHost 132] #[{ accessFlags := 0, nameIndex := 5, descriptorIndex := 80, attributes := #[] }] 32 2 #[17, 71] #[{ accessFlags := 26, nameIndex := 73, descriptorIndex := 74, attributes := #[] }, { accessFlags := 16, nameIndex := 14, descriptorIndex := 15, attributes := #[] }])
  fields := #[{ name := "serialVersionUID", type := .long, accessFlags := 26, slot := 0, constantValue := 0 }, { name := "c", type := (.object "java/util/Collection"), accessFlags := 16, slot := 0, constantValue := 0 }]
  methods := #[k30m0]
  instanceTypes := #[(.object "java/util/Collection")]
  staticTypes := #[.long]
  resolved := Array.replicate 136 none
  statics := none }

def pool31 : Array CpInfo := pool [(1, .methodref 2 3), (0, .class_ 4), (0, .nameAndType 5 6), (0, u "java/util/Collections$UnmodifiableCollection"), (0, u "<init>"), (0, u "(Ljava/util/Collection;)V"), (0, .fieldref 8 9), (0, .class_ 10), (0, .nameAndType 11 12), (0, u "java/util/Collections$UnmodifiableList"), (0, u "list"), (0, u "Ljava/util/List;"), (1, .class_ 16), (1, u "java/util/List"), (37, u "(Ljava/util/List;)V"), (5, u "serialVersionUID"), (0, u "J"), (59, .class_ 122), (0, u "java/util/Collections")] 4

def k31c0 : Code := { maxStack := 2, maxLocals := 2, code := jdk_120_method_1_code, exceptionTable := #[], attributes := #[] }
def k31m0 : Method := { name := "<init>", desc := "(Ljava/util/List;)V", sig := { parameters := [(.object "java/util/List")], returnType := none }, accessFlags := 0, code := some k31c0 }
/-- java/util/Collections$UnmodifiableList -/
def k31 : Class := { plain "java/util/Collections$UnmodifiableList" (some 30) with
  accessFlags := 32
  interfaces := #[16]
  cf := some (fileOf pool31 8 #[.nestHost 121] #[{ accessFlags := 0, nameIndex := 5, descriptorIndex := 54, attributes := #[] }] 32 2 #[14] #[{ accessFlags := 26, nameIndex := 60, descriptorIndex := 61, attributes := #[] }, { accessFlags := 16, nameIndex := 11, descriptorIndex := 12, attributes := #[] }])
  fields := #[{ name := "serialVersionUID", type := .long, accessFlags := 26, slot := 0, constantValue := 0 }, { name := "list", type := (.object "java/util/List"), accessFlags := 16, slot := 1, constantValue := 0 }]
  methods := #[k31m0]
  instanceTypes := #[(.object "java/util/Collection"), (.object "java/util/List")]
  staticTypes := #[.long]
  resolved := Array.replicate 127 none
  mirror := some 8
  statics := none }

def pool32 : Array CpInfo := pool [(1, .methodref 2 3), (0, .class_ 4), (0, .nameAndType 5 6), (0, u "java/util/Collections$UnmodifiableList"), (0, u "<init>"), (0, u "(Ljava/util/List;)V"), (0, .class_ 8), (0, u "java/util/Collections$UnmodifiableRandomAccessList"), (11, .class_ 21), (0, u "java/util/RandomAccess"), (0, u "serialVersionUID"), (0, u "J"), (23, .class_ 48), (0, u "java/util/Collections")] 3

def k32c0 : Code := { maxStack := 2, maxLocals := 2, code := jdk_121_method_1_code, exceptionTable := #[], attributes := #[] }
def k32m0 : Method := { name := "<init>", desc := "(Ljava/util/List;)V", sig := { parameters := [(.object "java/util/List")], returnType := none }, accessFlags := 0, code := some k32c0 }
/-- java/util/Collections$UnmodifiableRandomAccessList -/
def k32 : Class := { plain "java/util/Collections$UnmodifiableRandomAccessList" (some 31) with
  accessFlags := 32
  interfaces := #[20]
  cf := some (fileOf pool32 7 #[.nestHost 47] #[{ accessFlags := 0, nameIndex := 5, descriptorIndex := 6, attributes := #[] }] 32 2 #[20] #[{ accessFlags := 26, nameIndex := 22, descriptorIndex := 23, attributes := #[] }])
  fields := #[{ name := "serialVersionUID", type := .long, accessFlags := 26, slot := 0, constantValue := 0 }]
  methods := #[k32m0]
  instanceTypes := #[(.object "java/util/Collection"), (.object "java/util/List")]
  staticTypes := #[.long]
  resolved := Array.replicate 52 none
  mirror := some 9
  statics := none }

def pool33 : Array CpInfo := pool [(6, .class_ 8), (1, u "java/lang/Object"), (0, u "<init>"), (0, u "()V"), (1, .class_ 14), (1, u "java/lang/StringUTF16"), (31, u "$assertionsDisabled"), (0, u "Z"), (13, u "HI_BYTE_SHIFT"), (0, u "I"), (2, u "LO_BYTE_SHIFT"), (49, .methodref 12 116), (0, .nameAndType 117 118), (0, u "compress"), (0, u "([CI[BII)I"), (3, u "([CII)[B"), (138, u "coderFromArrayLen"), (0, u "([BI)B"), (106, .class_ 371), (1, u "java/lang/StringUTF16$LinesSpliterator"), (58, u "MAX_LENGTH"), (196, .class_ 628), (0, u "java/lang/StringUTF16$CodePointsSpliterator"), (0, .class_ 630), (0, u "java/lang/StringUTF16$CharsSpliterator")] 4

def k33m0 : Method := { name := "<init>", desc := "()V", sig := { parameters := [], returnType := none }, accessFlags := 0, code := none }
def k33c1 : Code := { maxStack := 2, maxLocals := 2, code := jdk_52_method_15_code, exceptionTable := #[], attributes := #[] }
def k33m1 : Method := { name := "coderFromArrayLen", desc := "([BI)B", sig := { parameters := [(.array .byte), .int], returnType := some .byte }, accessFlags := 8, code := some k33c1 }
def k33c2 : Code := { maxStack := 5, maxLocals := 6, code := jdk_52_method_16_code, exceptionTable := #[], attributes := #[] }
def k33m2 : Method := { name := "compress", desc := "([CII)[B", sig := { parameters := [(.array .char), .int, .int], returnType := some (.array .byte) }, accessFlags := 9, code := some k33c2 }
def k33c3 : Code := { maxStack := 3, maxLocals := 7, code := jdk_52_method_21_code, exceptionTable := #[], attributes := #[] }
def k33m3 : Method := { name := "compress", desc := "([CI[BII)I", sig := { parameters := [(.array .char), .int, (.array .byte), .int, .int], returnType := some .int }, accessFlags := 9, code := some k33c3 }
/-- java/lang/StringUTF16 -/
def k33 : Class := { plain "java/lang/StringUTF16" (some 0) with
  accessFlags := 48
  interfaces := #[]
  cf := some (fileOf pool33 12 #[.nestMembers #[627, 629, 369]] #[{ accessFlags := 0, nameIndex := 9, descriptorIndex := 10, attributes := #[] }, { accessFlags := 8, nameIndex := 261, descriptorIndex := 262, attributes := #[] }, { accessFlags := 9, nameIndex := 117, descriptorIndex := 122, attributes := #[] }, { accessFlags := 9, nameIndex := 117, descriptorIndex := 118, attributes := #[] }] 48 6 #[] #[{ accessFlags := 26, nameIndex := 61, descriptorIndex := 62, attributes := #[] }, { accessFlags := 26, nameIndex := 65, descriptorIndex := 62, attributes := #[] }, { accessFlags := 24, nameIndex := 430, descriptorIndex := 62, attributes := #[] }, { accessFlags := 4120, nameIndex := 46, descriptorIndex := 47, attributes := #[] }])
  fields := #[{ name := "HI_BYTE_SHIFT", type := .int, accessFlags := 26, slot := 0, constantValue := 0 }, { name := "LO_BYTE_SHIFT", type := .int, accessFlags := 26, slot := 1, constantValue := 0 }, { name := "MAX_LENGTH", type := .int, accessFlags := 24, slot := 2, constantValue := 0 }, { name := "$assertionsDisabled", type := .boolean, accessFlags := 4120, slot := 3, constantValue := 0 }]
  methods := #[k33m0, k33m1, k33m2, k33m3]
  instanceTypes := #[]
  staticTypes := #[.int, .int, .int, .boolean]
  resolved := Array.replicate 635 none
  statics := none }

def pool34 : Array CpInfo := pool [(4, .class_ 6), (1, u "java/lang/Object"), (0, u "<init>"), (0, u "()V"), (5, .class_ 16), (1, u "java/lang/StringLatin1"), (104, u "$assertionsDisabled"), (0, u "Z"), (98, .class_ 223), (1, u "java/lang/StringLatin1$LinesSpliterator"), (166, .class_ 391), (0, u "java/lang/StringLatin1$CharsSpliterator")] 3

def k34m0 : Method := { name := "<init>", desc := "()V", sig := { parameters := [], returnType := none }, accessFlags := 0, code := none }
/-- java/lang/StringLatin1 -/
def k34 : Class := { plain "java/lang/StringLatin1" (some 0) with
  accessFlags := 48
  interfaces := #[]
  cf := some (fileOf pool34 14 #[.nestMembers #[390, 221]] #[{ accessFlags := 0, nameIndex := 7, descriptorIndex := 8, attributes := #[] }] 48 4 #[] #[{ accessFlags := 4120, nameIndex := 121, descriptorIndex := 122, attributes := #[] }])
  fields := #[{ name := "$assertionsDisabled", type := .boolean, accessFlags := 4120, slot := 0, constantValue := 0 }]
  methods := #[k34m0]
  instanceTypes := #[]
  staticTypes := #[.boolean]
  resolved := Array.replicate 395 none
  statics := none }

def pool35 : Array CpInfo := pool [(2, .class_ 4), (1, u "java/lang/Object"), (0, u "<init>"), (0, u "()V"), (17, .class_ 26), (1, u "jdk/internal/util/Preconditions"), (28, .class_ 56), (0, u "jdk/internal/util/Preconditions$4"), (57, .class_ 115), (0, u "jdk/internal/util/Preconditions$1"), (7, u "SIOOBE_FORMATTER"), (0, u "Ljava/util/function/BiFunction;"), (0, .class_ 126), (0, u "jdk/internal/util/Preconditions$2"), (3, u "AIOOBE_FORMATTER"), (0, .class_ 132), (0, u "jdk/internal/util/Preconditions$3"), (3, u "IOOBE_FORMATTER")] 57

def k35m0 : Method := { name := "<init>", desc := "()V", sig := { parameters := [], returnType := none }, accessFlags := 1, code := none }
/-- jdk/internal/util/Preconditions -/
def k35 : Class := { plain "jdk/internal/util/Preconditions" (some 0) with
  accessFlags := 33
  interfaces := #[]
  cf := some (fileOf pool35 24 #[.nestMembers #[55, 131, 125, 114]] #[{ accessFlags := 1, nameIndex := 5, descriptorIndex := 6, attributes := #[] }] 33 2 #[] #[{ accessFlags := 25, nameIndex := 123, descriptorIndex := 124, attributes := #[] }, { accessFlags := 25, nameIndex := 130, descriptorIndex := 124, attributes := #[] }, { accessFlags := 25, nameIndex := 136, descriptorIndex := 124, attributes := #[] }])
  fields := #[{ name := "SIOOBE_FORMATTER", type := (.object "java/util/function/BiFunction"), accessFlags := 25, slot := 0, constantValue := 0 }, { name := "AIOOBE_FORMATTER", type := (.object "java/util/function/BiFunction"), accessFlags := 25, slot := 1, constantValue := 0 }, { name := "IOOBE_FORMATTER", type := (.object "java/util/function/BiFunction"), accessFlags := 25, slot := 2, constantValue := 0 }]
  methods := #[k35m0]
  instanceTypes := #[]
  staticTypes := #[(.object "java/util/function/BiFunction"), (.object "java/util/function/BiFunction"), (.object "java/util/function/BiFunction")]
  resolved := Array.replicate 194 none
  statics := some 5 }

def pool36 : Array CpInfo := pool [(9, u "<init>"), (6, .class_ 18), (1, u "java/lang/Object"), (0, u "()V"), (1, .class_ 23), (1, u "jdk/internal/util/ArraysSupport"), (0, u "LOG2_ARRAY_LONG_INDEX_SCALE"), (0, u "I"), (2, u "U"), (0, u "Ljdk/internal/misc/Unsafe;"), (8, u "BIG_ENDIAN"), (0, u "Z"), (8, u "LOG2_BYTE_BIT_SIZE"), (4, u "LOG2_ARRAY_INT_INDEX_SCALE"), (54, u "JLA"), (0, u "Ljdk/internal/access/JavaLangAccess;"), (11, u "LOG2_ARRAY_BOOLEAN_INDEX_SCALE"), (9, u "LOG2_ARRAY_BYTE_INDEX_SCALE"), (5, u "LOG2_ARRAY_CHAR_INDEX_SCALE"), (5, u "LOG2_ARRAY_SHORT_INDEX_SCALE"), (18, u "LOG2_ARRAY_FLOAT_INDEX_SCALE"), (24, u "LOG2_ARRAY_DOUBLE_INDEX_SCALE"), (89, u "T_BOOLEAN"), (2, u "T_CHAR"), (1, u "T_FLOAT"), (1, u "T_DOUBLE"), (1, u "T_BYTE"), (1, u "T_SHORT"), (1, u "T_INT"), (1, u "T_LONG"), (1, u "SOFT_MAX_ARRAY_LENGTH")] 83

def k36m0 : Method := { name := "<init>", desc := "()V", sig := { parameters := [], returnType := none }, accessFlags := 2, code := none }
/-- jdk/internal/util/ArraysSupport -/
def k36 : Class := { plain "jdk/internal/util/ArraysSupport" (some 0) with
  accessFlags := 33
  interfaces := #[]
  cf := some (fileOf pool36 21 #[] #[{ accessFlags := 2, nameIndex := 9, descriptorIndex := 19, attributes := #[] }] 33 16 #[] #[{ accessFlags := 24, nameIndex := 28, descriptorIndex := 29, attributes := #[] }, { accessFlags := 26, nameIndex := 38, descriptorIndex := 39, attributes := #[] }, { accessFlags := 25, nameIndex := 121, descriptorIndex := 25, attributes := #[] }, { accessFlags := 25, nameIndex := 131, descriptorIndex := 25, attributes := #[] }, { accessFlags := 25, nameIndex := 137, descriptorIndex := 25, attributes := #[] }, { accessFlags := 25, nameIndex := 143, descriptorIndex := 25, attributes := #[] }, { accessFlags := 25, nameIndex := 53, descriptorIndex := 25, attributes := #[] }, { accessFlags := 25, nameIndex := 24, descriptorIndex := 25, attributes := #[] }, { accessFlags := 25, nameIndex := 162, descriptorIndex := 25, attributes := #[] }, { accessFlags := 25, nameIndex := 187, descriptorIndex := 25, attributes := #[] }, { accessFlags := 26, nameIndex := 48, descriptorIndex := 25, attributes := #[] }, { accessFlags := 25, nameIndex := 277, descriptorIndex := 25, attributes := #[] }, { accessFlags := 25, nameIndex := 280, descriptorIndex := 25, attributes := #[] }, { accessFlags := 25, nameIndex := 282, descriptorIndex := 25, attributes := #[] }, { accessFlags := 25, nameIndex := 284, descriptorIndex := 25, attributes := #[] }, { accessFlags := 25, nameIndex := 286, descriptorIndex := 25, attributes := #[] }, { accessFlags := 25, nameIndex := 288, descriptorIndex := 25, attributes := #[] }, { accessFlags := 25, nameIndex := 290, descriptorIndex := 25, attributes := #[] }, { accessFlags := 25, nameIndex := 292, descriptorIndex := 25, attributes := #[] }, { accessFlags := 26, nameIndex := 108, descriptorIndex := 109, attributes := #[] }, { accessFlags := 25, nameIndex := 294, descriptorIndex := 25, attributes := #[] }])
  fields := #[{ name := "U", type := (.object "jdk/internal/misc/Unsafe"), accessFlags := 24, slot := 0, constantValue := 0 }, { name := "BIG_ENDIAN", type := .boolean, accessFlags := 26, slot := 1, constantValue := 0 }, { name := "LOG2_ARRAY_BOOLEAN_INDEX_SCALE", type := .int, accessFlags := 25, slot := 2, constantValue := 0 }, { name := "LOG2_ARRAY_BYTE_INDEX_SCALE", type := .int, accessFlags := 25, slot := 3, constantValue := 0 }, { name := "LOG2_ARRAY_CHAR_INDEX_SCALE", type := .int, accessFlags := 25, slot := 4, constantValue := 0 }, { name := "LOG2_ARRAY_SHORT_INDEX_SCALE", type := .int, accessFlags := 25, slot := 5, constantValue := 0 }, { name := "LOG2_ARRAY_INT_INDEX_SCALE", type := .int, accessFlags := 25, slot := 6, constantValue := 0 }, { name := "LOG2_ARRAY_LONG_INDEX_SCALE", type := .int, accessFlags := 25, slot := 7, constantValue := 0 }, { name := "LOG2_ARRAY_FLOAT_INDEX_SCALE", type := .int, accessFlags := 25, slot := 8, constantValue := 0 }, { name := "LOG2_ARRAY_DOUBLE_INDEX_SCALE", type := .int, accessFlags := 25, slot := 9, constantValue := 0 }, { name := "LOG2_BYTE_BIT_SIZE", type := .int, accessFlags := 26, slot := 10, constantValue := 0 }, { name := "T_BOOLEAN", type := .int, accessFlags := 25, slot := 11, constantValue := 0 }, { name := "T_CHAR", type := .int, accessFlags := 25, slot := 12, constantValue := 0 }, { name := "T_FLOAT", type := .int, accessFlags := 25, slot := 13, constantValue := 0 }, { name := "T_DOUBLE", type := .int, accessFlags := 25, slot := 14, constantValue := 0 }, { name := "T_BYTE", type := .int, accessFlags := 25, slot := 15, constantValue := 0 }, { name := "T_SHORT", type := .int, accessFlags := 25, slot := 16, constantValue := 0 }, { name := "T_INT", type := .int, accessFlags := 25, slot := 17, constantValue := 0 }, { name := "T_LONG", type := .int, accessFlags := 25, slot := 18, constantValue := 0 }, { name := "JLA", type := (.object "jdk/internal/access/JavaLangAccess"), accessFlags := 26, slot := 19, constantValue := 0 }, { name := "SOFT_MAX_ARRAY_LENGTH", type := .int, accessFlags := 25, slot := 20, constantValue := 0 }]
  methods := #[k36m0]
  instanceTypes := #[]
  staticTypes := #[(.object "jdk/internal/misc/Unsafe"), .boolean, .int, .int, .int, .int, .int, .int, .int, .int, .int, .int, .int, .int, .int, .int, .int, .int, .int, (.object "jdk/internal/access/JavaLangAccess"), .int]
  resolved := Array.replicate 378 none
  statics := none }

def pool37 : Array CpInfo := pool [(1, u "java/lang/Class"), (0, .class_ 1), (0, u "java/lang/Object"), (0, .class_ 3)] 0

/-- java/lang/Class -/
def k37 : Class := { plain "java/lang/Class" (some 0) with
  accessFlags := 49
  interfaces := #[]
  cf := some (fileOf pool37 2 #[] #[] 49 4 #[] #[])
  fields := #[]
  methods := #[]
  instanceTypes := #[]
  staticTypes := #[]
  resolved := Array.replicate 5 none
  statics := none }

/-- the primitive byte -/
def k38 : Class := { plain "byte" none with kind := .primitive 'B', accessFlags := 0x411 }
/-- [B -/
def k39 : Class := { plain "[B" (some 0) with kind := .array 38 .byte, interfaces := #[21, 6], accessFlags := 1041 }

/-- the primitive char -/
def k40 : Class := { plain "char" none with kind := .primitive 'C', accessFlags := 0x411 }
/-- [C -/
def k41 : Class := { plain "[C" (some 0) with kind := .array 40 .char, interfaces := #[21, 6], accessFlags := 1041 }

/-- the primitive int -/
def k42 : Class := { plain "int" none with kind := .primitive 'I', accessFlags := 0x411 }
/-- [I -/
def k43 : Class := { plain "[I" (some 0) with kind := .array 42 .int, interfaces := #[21, 6], accessFlags := 1041 }

/-- [Ljava/lang/Object; -/
def k44 : Class := { plain "[Ljava/lang/Object;" (some 0) with kind := .array 0 (.object "java/lang/Object"), interfaces := #[21, 6], accessFlags := 1041, mirror := some 6 }

def heap : Heap := #[{ cls := 4, slots := #[.ref 10], vm := .statics 4 },
  { cls := 5, slots := #[.ref 11], vm := .statics 5 },
  { cls := 11, slots := #[.long 0, .int 1, .null, .int 0, .null, .int 0, .int 0], vm := .statics 11 },
  { cls := 17, slots := #[.long 0, .int 0, .null, .null, .ref 12, .null, .null, .null, .int 0, .int 0], vm := .statics 17 },
  { cls := 22, slots := #[.long 0, .int 0, .ref 13, .ref 14], vm := .statics 22 },
  { cls := 35, slots := #[.null, .null, .null], vm := .statics 35 },
  { cls := 37, slots := #[], vm := .mirror 44 },
  { cls := 37, slots := #[], vm := .mirror 22 },
  { cls := 37, slots := #[], vm := .mirror 31 },
  { cls := 37, slots := #[], vm := .mirror 32 },
  { cls := 4, slots := #[.null], vm := .none },
  { cls := 5, slots := #[.int 0, .long 0], vm := .none },
  { cls := 25, slots := #[.ref 13, .int 0], vm := .none },
  { cls := 44, slots := #[], vm := .none },
  { cls := 44, slots := #[], vm := .none }]
def classes : Array Class := #[k0, k1, k2, k3, k4, k5, k6, k7, k8, k9, k10, k11, k12, k13, k14, k15, k16, k17, k18, k19, k20, k21, k22, k23, k24, k25, k26, k27, k28, k29, k30, k31, k32, k33, k34, k35, k36, k37, k38, k39, k40, k41, k42, k43, k44]
def interned : List (Array UInt16 × Addr) := []
def slotsUsed : Nat := 31
def theMethod : MethodId := ⟨1, 2⟩
def args0 : Array Value := #[.int 3, .int 5, .int 6, .int 7, .int 8]
def aboutOver (below : List Frame) : State where
  vm := { classes := classes, interned := interned.toArray }
  heap := heap
  slotsUsed := slotsUsed
  threads := #[{ frames := .invoking theMethod args0 :: below }]
def below0 : List Frame := [.native { method := ⟨0, 0⟩, args := #[] }]
def about1 : State := aboutOver below0
def p0 : Program := .bare "" "" ""
def e0 : Env := launch0.env 0 0 0
theorem w_frames : about1.frames = Frame.invoking theMethod args0 :: below0 := rfl
set_option maxRecDepth 65536 in
theorem w_args : argsFit about1.vm theMethod args0 = true := by decide +kernel
set_option maxRecDepth 65536 in
theorem w_heap : heapFits about1 = true := by decide +kernel
set_option maxRecDepth 65536 in
theorem w_runnable : about1.curStatus? = some .runnable := by decide +kernel
set_option maxRecDepth 65536 in
theorem w_alone : about1.alone = true := by decide +kernel
set_option maxRecDepth 65536 in
theorem w_named : about1.methodNamed? x = some theMethod := by decide +kernel
set_option maxRecDepth 65536 in
theorem w_hears : about1.hears theMethod below0 = true := by decide +kernel
set_option maxRecDepth 65536 in
theorem w_ripe : about1.ripe theMethod args0 below0 = true := by decide +kernel
theorem w_running : about1.status = .running := rfl
set_option maxRecDepth 65536 in
theorem w_room : about1.hasRoom e0.platform room_1 = true :=
  launch0.hasRoom_least _ room_1 (by decide +kernel) (by decide +kernel) (by decide +kernel) (by decide +kernel) (by decide +kernel) (by decide +kernel)
theorem allAtoms_all (ts : List Jvm.Cond) (a : Array Jvm.Value) (st : Jvm.State) : (allAtoms ts).before a st = ts.all (fun c => c.before a st) := by
  induction ts with
  | nil => rfl
  | cons c t ih =>
    show (Jvm.Cond.and c (allAtoms t)).before a st = _
    rw [Jvm.Cond.before_and, ih, List.all_cons]
def words1 : List Jvm.Cond := Jvm.Cond.code x code maxLocals ret :: tables_1
/-- a 'code' word, met by the world's own term for the bytes: nothing is compared byte by byte -/
theorem code_word {y : MethodName} {bytes : ByteArray} {mx : Nat} {rt : Option FieldType} {a : Array Value} {s : State} {m : MethodId} {meth : Method} {c : Code} (h1 : s.methodNamed? y = some m) (h2 : s.vm.method? m = some meth) (h3 : meth.code = some c) (h4 : c.code = bytes)
    (h5 : (c.maxLocals == mx && c.exceptionTable.isEmpty && decide (c.maxStack ≤ mostOperands) && decide (meth.sig.returnType = rt) && !meth.locks && decide (parseMethodDescriptor y.desc = some meth.sig)) = true) : (Jvm.Cond.code y bytes mx rt).before a s = true := by
  simp only [Bool.and_eq_true, beq_iff_eq, Bool.not_eq_true', decide_eq_true_eq] at h5
  obtain ⟨⟨⟨⟨⟨g1, g2⟩, g3⟩, g4⟩, g5⟩, g6⟩ := h5
  simp [Cond.before, Cond.holds, Cond.value, h1, h2, h3, h4, g1, g2, g3, g4, g5, g6]
def isCode : Jvm.Cond → Bool
  | .code _ _ _ _ => true
  | _ => false
theorem all_split {L : List Jvm.Cond} {P : Jvm.Cond → Bool} (h1 : L.all (fun c => isCode c || P c) = true) (h2 : ∀ c ∈ L.filter isCode, P c = true) : L.all P = true := by
  refine List.all_eq_true.mpr fun c hc => ?_
  have h := List.all_eq_true.mp h1 c hc
  rcases Bool.eq_false_or_eq_true (isCode c) with hi | hi
  · exact h2 c (List.mem_filter.mpr ⟨hc, hi⟩)
  · simpa [hi] using h
set_option maxRecDepth 65536 in
theorem w_c0 : (Jvm.Cond.code x code maxLocals ret).before args0 about1 = true := code_word (m := ⟨1, 2⟩) (meth := k1m2) (c := k1c2) (by decide +kernel) rfl rfl rfl (by decide +kernel)
set_option maxRecDepth 65536 in
theorem w_c1 : (Jvm.Cond.code ({ cls := "com/example/binfold/binfold/PackageParts$Part", name := "<init>", desc := "(Ljava/lang/String;Lcom/example/binfold/binfold/mime/Headers;)V" } : Jvm.MethodName) prog_24_method_1_code (3 : Nat) (Option.none : Option Jvm.ClassFile.FieldType)).before args0 about1 = true := code_word (m := ⟨2, 0⟩) (meth := k2m0) (c := k2c0) (by decide +kernel) rfl rfl rfl (by decide +kernel)
set_option maxRecDepth 65536 in
theorem w_c2 : (Jvm.Cond.code ({ cls := "java/lang/Object", name := "<init>", desc := "()V" } : Jvm.MethodName) object_method_1_code (1 : Nat) (Option.none : Option Jvm.ClassFile.FieldType)).before args0 about1 = true := code_word (m := ⟨0, 0⟩) (meth := k0m0) (c := k0c0) (by decide +kernel) rfl rfl rfl (by decide +kernel)
set_option maxRecDepth 65536 in
theorem w_c3 : (Jvm.Cond.code ({ cls := "com/example/binfold/binfold/PackageParts$Part", name := "description", desc := "()Lcom/example/binfold/binfold/PackagePart;" } : Jvm.MethodName) prog_24_method_5_code (1 : Nat) (Option.some (Jvm.ClassFile.FieldType.object "com/example/binfold/binfold/PackagePart"))).before args0 about1 = true := code_word (m := ⟨2, 1⟩) (meth := k2m1) (c := k2c1) (by decide +kernel) rfl rfl rfl (by decide +kernel)
set_option maxRecDepth 65536 in
theorem w_c4 : (Jvm.Cond.code ({ cls := "com/example/binfold/binfold/PackagePart", name := "<init>", desc := "(Ljava/lang/String;Lcom/example/binfold/binfold/mime/Headers;J)V" } : Jvm.MethodName) prog_22_method_1_code (5 : Nat) (Option.none : Option Jvm.ClassFile.FieldType)).before args0 about1 = true := code_word (m := ⟨3, 0⟩) (meth := k3m0) (c := k3c0) (by decide +kernel) rfl rfl rfl (by decide +kernel)
set_option maxRecDepth 65536 in
theorem w_c5 : (Jvm.Cond.code ({ cls := "com/example/binfold/binfold/PackagePart", name := "contentId", desc := "()Ljava/util/Optional;" } : Jvm.MethodName) prog_22_method_2_code (1 : Nat) (Option.some (Jvm.ClassFile.FieldType.object "java/util/Optional"))).before args0 about1 = true := code_word (m := ⟨3, 1⟩) (meth := k3m1) (c := k3c1) (by decide +kernel) rfl rfl rfl (by decide +kernel)
set_option maxRecDepth 65536 in
theorem w_c6 : (Jvm.Cond.code ({ cls := "java/util/Optional", name := "ofNullable", desc := "(Ljava/lang/Object;)Ljava/util/Optional;" } : Jvm.MethodName) jdk_32_method_4_code (1 : Nat) (Option.some (Jvm.ClassFile.FieldType.object "java/util/Optional"))).before args0 about1 = true := code_word (m := ⟨4, 1⟩) (meth := k4m1) (c := k4c1) (by decide +kernel) rfl rfl rfl (by decide +kernel)
set_option maxRecDepth 65536 in
theorem w_c7 : (Jvm.Cond.code ({ cls := "java/util/Optional", name := "isPresent", desc := "()Z" } : Jvm.MethodName) jdk_32_method_6_code (1 : Nat) (Option.some Jvm.ClassFile.FieldType.boolean)).before args0 about1 = true := code_word (m := ⟨4, 3⟩) (meth := k4m3) (c := k4c3) (by decide +kernel) rfl rfl rfl (by decide +kernel)
set_option maxRecDepth 65536 in
theorem w_c8 : (Jvm.Cond.code ({ cls := "com/example/binfold/binfold/PackagePart", name := "headers", desc := "()Lcom/example/binfold/binfold/mime/Headers;" } : Jvm.MethodName) prog_22_method_3_code (1 : Nat) (Option.some (Jvm.ClassFile.FieldType.object "com/example/binfold/binfold/mime/Headers"))).before args0 about1 = true := code_word (m := ⟨3, 2⟩) (meth := k3m2) (c := k3c2) (by decide +kernel) rfl rfl rfl (by decide +kernel)
set_option maxRecDepth 65536 in
theorem w_c9 : (Jvm.Cond.code ({ cls := "com/example/binfold/binfold/PackagePart", name := "decodedLength", desc := "()Ljava/util/OptionalLong;" } : Jvm.MethodName) prog_22_method_7_code (1 : Nat) (Option.some (Jvm.ClassFile.FieldType.object "java/util/OptionalLong"))).before args0 about1 = true := code_word (m := ⟨3, 3⟩) (meth := k3m3) (c := k3c3) (by decide +kernel) rfl rfl rfl (by decide +kernel)
set_option maxRecDepth 65536 in
theorem w_c10 : (Jvm.Cond.code ({ cls := "java/util/OptionalLong", name := "empty", desc := "()Ljava/util/OptionalLong;" } : Jvm.MethodName) jdk_2650_method_2_code (0 : Nat) (Option.some (Jvm.ClassFile.FieldType.object "java/util/OptionalLong"))).before args0 about1 = true := code_word (m := ⟨5, 1⟩) (meth := k5m1) (c := k5c1) (by decide +kernel) rfl rfl rfl (by decide +kernel)
set_option maxRecDepth 65536 in
theorem w_c11 : (Jvm.Cond.code ({ cls := "java/util/OptionalLong", name := "isPresent", desc := "()Z" } : Jvm.MethodName) jdk_2650_method_6_code (1 : Nat) (Option.some Jvm.ClassFile.FieldType.boolean)).before args0 about1 = true := code_word (m := ⟨5, 2⟩) (meth := k5m2) (c := k5c2) (by decide +kernel) rfl rfl rfl (by decide +kernel)
set_option maxRecDepth 65536 in
theorem w_c12 : (Jvm.Cond.code ({ cls := "com/example/binfold/binfold/PartDescriptionPinLaw", name := "drawn", desc := "(IIII)Ljava/lang/String;" } : Jvm.MethodName) method_2_code (7 : Nat) (Option.some (Jvm.ClassFile.FieldType.object "java/lang/String"))).before args0 about1 = true := code_word (m := ⟨1, 1⟩) (meth := k1m1) (c := k1c1) (by decide +kernel) rfl rfl rfl (by decide +kernel)
set_option maxRecDepth 65536 in
theorem w_c13 : (Jvm.Cond.code ({ cls := "java/lang/String", name := "<init>", desc := "([C)V" } : Jvm.MethodName) jdk_42_method_3_code (2 : Nat) (Option.none : Option Jvm.ClassFile.FieldType)).before args0 about1 = true := code_word (m := ⟨11, 1⟩) (meth := k11m1) (c := k11c1) (by decide +kernel) rfl rfl rfl (by decide +kernel)
set_option maxRecDepth 65536 in
theorem w_c14 : (Jvm.Cond.code ({ cls := "java/lang/String", name := "<init>", desc := "([CIILjava/lang/Void;)V" } : Jvm.MethodName) jdk_42_method_149_code (6 : Nat) (Option.none : Option Jvm.ClassFile.FieldType)).before args0 about1 = true := code_word (m := ⟨11, 3⟩) (meth := k11m3) (c := k11c3) (by decide +kernel) rfl rfl rfl (by decide +kernel)
set_option maxRecDepth 65536 in
theorem w_c15 : (Jvm.Cond.code ({ cls := "com/example/binfold/binfold/mime/Headers", name := "<init>", desc := "()V" } : Jvm.MethodName) prog_55_method_1_code (1 : Nat) (Option.none : Option Jvm.ClassFile.FieldType)).before args0 about1 = true := code_word (m := ⟨12, 0⟩) (meth := k12m0) (c := k12c0) (by decide +kernel) rfl rfl rfl (by decide +kernel)
set_option maxRecDepth 65536 in
theorem w_c16 : (Jvm.Cond.code ({ cls := "java/util/List", name := "of", desc := "()Ljava/util/List;" } : Jvm.MethodName) jdk_40_method_36_code (0 : Nat) (Option.some (Jvm.ClassFile.FieldType.object "java/util/List"))).before args0 about1 = true := code_word (m := ⟨16, 0⟩) (meth := k16m0) (c := k16c0) (by decide +kernel) rfl rfl rfl (by decide +kernel)
set_option maxRecDepth 65536 in
theorem w_c17 : (Jvm.Cond.code ({ cls := "com/example/binfold/binfold/mime/Headers", name := "<init>", desc := "(Ljava/util/List;)V" } : Jvm.MethodName) prog_55_method_2_code (2 : Nat) (Option.none : Option Jvm.ClassFile.FieldType)).before args0 about1 = true := code_word (m := ⟨12, 1⟩) (meth := k12m1) (c := k12c1) (by decide +kernel) rfl rfl rfl (by decide +kernel)
set_option maxRecDepth 65536 in
theorem w_c18 : (Jvm.Cond.code ({ cls := "java/util/ArrayList", name := "<init>", desc := "(Ljava/util/Collection;)V" } : Jvm.MethodName) jdk_38_method_3_code (3 : Nat) (Option.none : Option Jvm.ClassFile.FieldType)).before args0 about1 = true := code_word (m := ⟨22, 1⟩) (meth := k22m1) (c := k22c1) (by decide +kernel) rfl rfl rfl (by decide +kernel)
set_option maxRecDepth 65536 in
theorem w_c19 : (Jvm.Cond.code ({ cls := "java/util/AbstractList", name := "<init>", desc := "()V" } : Jvm.MethodName) jdk_39_method_1_code (1 : Nat) (Option.none : Option Jvm.ClassFile.FieldType)).before args0 about1 = true := code_word (m := ⟨19, 0⟩) (meth := k19m0) (c := k19c0) (by decide +kernel) rfl rfl rfl (by decide +kernel)
set_option maxRecDepth 65536 in
theorem w_c20 : (Jvm.Cond.code ({ cls := "java/util/AbstractCollection", name := "<init>", desc := "()V" } : Jvm.MethodName) jdk_22_method_1_code (1 : Nat) (Option.none : Option Jvm.ClassFile.FieldType)).before args0 about1 = true := code_word (m := ⟨18, 0⟩) (meth := k18m0) (c := k18c0) (by decide +kernel) rfl rfl rfl (by decide +kernel)
set_option maxRecDepth 65536 in
theorem w_c21 : (Jvm.Cond.code ({ cls := "java/util/ImmutableCollections$ListN", name := "toArray", desc := "()[Ljava/lang/Object;" } : Jvm.MethodName) jdk_45_method_7_code (1 : Nat) (Option.some (Jvm.ClassFile.FieldType.array (Jvm.ClassFile.FieldType.object "java/lang/Object")))).before args0 about1 = true := code_word (m := ⟨25, 0⟩) (meth := k25m0) (c := k25c0) (by decide +kernel) rfl rfl rfl (by decide +kernel)
set_option maxRecDepth 65536 in
theorem w_c22 : (Jvm.Cond.code ({ cls := "java/util/Arrays", name := "copyOf", desc := "([Ljava/lang/Object;I)[Ljava/lang/Object;" } : Jvm.MethodName) jdk_65_method_119_code (2 : Nat) (Option.some (Jvm.ClassFile.FieldType.array (Jvm.ClassFile.FieldType.object "java/lang/Object")))).before args0 about1 = true := code_word (m := ⟨26, 1⟩) (meth := k26m1) (c := k26c1) (by decide +kernel) rfl rfl rfl (by decide +kernel)
set_option maxRecDepth 65536 in
theorem w_c23 : (Jvm.Cond.code ({ cls := "java/util/Arrays", name := "copyOf", desc := "([Ljava/lang/Object;ILjava/lang/Class;)[Ljava/lang/Object;" } : Jvm.MethodName) jdk_65_method_120_code (4 : Nat) (Option.some (Jvm.ClassFile.FieldType.array (Jvm.ClassFile.FieldType.object "java/lang/Object")))).before args0 about1 = true := code_word (m := ⟨26, 2⟩) (meth := k26m2) (c := k26c2) (by decide +kernel) rfl rfl rfl (by decide +kernel)
set_option maxRecDepth 65536 in
theorem w_c24 : (Jvm.Cond.code ({ cls := "java/lang/Math", name := "min", desc := "(II)I" } : Jvm.MethodName) jdk_29_method_69_code (2 : Nat) (Option.some Jvm.ClassFile.FieldType.int)).before args0 about1 = true := code_word (m := ⟨27, 1⟩) (meth := k27m1) (c := k27c1) (by decide +kernel) rfl rfl rfl (by decide +kernel)
set_option maxRecDepth 65536 in
theorem w_c25 : (Jvm.Cond.code ({ cls := "java/util/Collections", name := "unmodifiableList", desc := "(Ljava/util/List;)Ljava/util/List;" } : Jvm.MethodName) jdk_79_method_35_code (1 : Nat) (Option.some (Jvm.ClassFile.FieldType.object "java/util/List"))).before args0 about1 = true := code_word (m := ⟨29, 1⟩) (meth := k29m1) (c := k29c1) (by decide +kernel) rfl rfl rfl (by decide +kernel)
set_option maxRecDepth 65536 in
theorem w_c26 : (Jvm.Cond.code ({ cls := "java/util/Collections$UnmodifiableRandomAccessList", name := "<init>", desc := "(Ljava/util/List;)V" } : Jvm.MethodName) jdk_121_method_1_code (2 : Nat) (Option.none : Option Jvm.ClassFile.FieldType)).before args0 about1 = true := code_word (m := ⟨32, 0⟩) (meth := k32m0) (c := k32c0) (by decide +kernel) rfl rfl rfl (by decide +kernel)
set_option maxRecDepth 65536 in
theorem w_c27 : (Jvm.Cond.code ({ cls := "java/util/Collections$UnmodifiableList", name := "<init>", desc := "(Ljava/util/List;)V" } : Jvm.MethodName) jdk_120_method_1_code (2 : Nat) (Option.none : Option Jvm.ClassFile.FieldType)).before args0 about1 = true := code_word (m := ⟨31, 0⟩) (meth := k31m0) (c := k31c0) (by decide +kernel) rfl rfl rfl (by decide +kernel)
set_option maxRecDepth 65536 in
theorem w_c28 : (Jvm.Cond.code ({ cls := "java/util/Collections$UnmodifiableCollection", name := "<init>", desc := "(Ljava/util/Collection;)V" } : Jvm.MethodName) jdk_119_method_1_code (2 : Nat) (Option.none : Option Jvm.ClassFile.FieldType)).before args0 about1 = true := code_word (m := ⟨30, 0⟩) (meth := k30m0) (c := k30c0) (by decide +kernel) rfl rfl rfl (by decide +kernel)
set_option maxRecDepth 65536 in
theorem w_c29 : (Jvm.Cond.code ({ cls := "java/util/Optional", name := "<init>", desc := "(Ljava/lang/Object;)V" } : Jvm.MethodName) jdk_32_method_2_code (2 : Nat) (Option.none : Option Jvm.ClassFile.FieldType)).before args0 about1 = true := code_word (m := ⟨4, 0⟩) (meth := k4m0) (c := k4c0) (by decide +kernel) rfl rfl rfl (by decide +kernel)
set_option maxRecDepth 65536 in
theorem w_c30 : (Jvm.Cond.code ({ cls := "java/util/Optional", name := "get", desc := "()Ljava/lang/Object;" } : Jvm.MethodName) jdk_32_method_5_code (1 : Nat) (Option.some (Jvm.ClassFile.FieldType.object "java/lang/Object"))).before args0 about1 = true := code_word (m := ⟨4, 2⟩) (meth := k4m2) (c := k4c2) (by decide +kernel) rfl rfl rfl (by decide +kernel)
set_option maxRecDepth 65536 in
theorem w_c31 : (Jvm.Cond.code ({ cls := "java/lang/String", name := "equals", desc := "(Ljava/lang/Object;)Z" } : Jvm.MethodName) jdk_42_method_66_code (3 : Nat) (Option.some Jvm.ClassFile.FieldType.boolean)).before args0 about1 = true := code_word (m := ⟨11, 2⟩) (meth := k11m2) (c := k11c2) (by decide +kernel) rfl rfl rfl (by decide +kernel)
set_option maxRecDepth 65536 in
theorem w_c32 : (Jvm.Cond.code ({ cls := "java/lang/StringUTF16", name := "compress", desc := "([CII)[B" } : Jvm.MethodName) jdk_52_method_16_code (6 : Nat) (Option.some (Jvm.ClassFile.FieldType.array Jvm.ClassFile.FieldType.byte))).before args0 about1 = true := code_word (m := ⟨33, 2⟩) (meth := k33m2) (c := k33c2) (by decide +kernel) rfl rfl rfl (by decide +kernel)
set_option maxRecDepth 65536 in
theorem w_c33 : (Jvm.Cond.code ({ cls := "java/lang/StringUTF16", name := "compress", desc := "([CI[BII)I" } : Jvm.MethodName) jdk_52_method_21_code (7 : Nat) (Option.some Jvm.ClassFile.FieldType.int)).before args0 about1 = true := code_word (m := ⟨33, 3⟩) (meth := k33m3) (c := k33c3) (by decide +kernel) rfl rfl rfl (by decide +kernel)
set_option maxRecDepth 65536 in
theorem w_c34 : (Jvm.Cond.code ({ cls := "java/lang/StringUTF16", name := "coderFromArrayLen", desc := "([BI)B" } : Jvm.MethodName) jdk_52_method_15_code (2 : Nat) (Option.some Jvm.ClassFile.FieldType.byte)).before args0 about1 = true := code_word (m := ⟨33, 1⟩) (meth := k33m1) (c := k33c1) (by decide +kernel) rfl rfl rfl (by decide +kernel)
def codes1 : List Jvm.Cond := [Jvm.Cond.code x code maxLocals ret, Jvm.Cond.code ({ cls := "com/example/binfold/binfold/PackageParts$Part", name := "<init>", desc := "(Ljava/lang/String;Lcom/example/binfold/binfold/mime/Headers;)V" } : Jvm.MethodName) prog_24_method_1_code (3 : Nat) (Option.none : Option Jvm.ClassFile.FieldType), Jvm.Cond.code ({ cls := "java/lang/Object", name := "<init>", desc := "()V" } : Jvm.MethodName) object_method_1_code (1 : Nat) (Option.none : Option Jvm.ClassFile.FieldType), Jvm.Cond.code ({ cls := "com/example/binfold/binfold/PackageParts$Part", name := "description", desc := "()Lcom/example/binfold/binfold/PackagePart;" } : Jvm.MethodName) prog_24_method_5_code (1 : Nat) (Option.some (Jvm.ClassFile.FieldType.object "com/example/binfold/binfold/PackagePart")), Jvm.Cond.code ({ cls := "com/example/binfold/binfold/PackagePart", name := "<init>", desc := "(Ljava/lang/String;Lcom/example/binfold/binfold/mime/Headers;J)V" } : Jvm.MethodName) prog_22_method_1_code (5 : Nat) (Option.none : Option Jvm.ClassFile.FieldType), Jvm.Cond.code ({ cls := "com/example/binfold/binfold/PackagePart", name := "contentId", desc := "()Ljava/util/Optional;" } : Jvm.MethodName) prog_22_method_2_code (1 : Nat) (Option.some (Jvm.ClassFile.FieldType.object "java/util/Optional")), Jvm.Cond.code ({ cls := "java/util/Optional", name := "ofNullable", desc := "(Ljava/lang/Object;)Ljava/util/Optional;" } : Jvm.MethodName) jdk_32_method_4_code (1 : Nat) (Option.some (Jvm.ClassFile.FieldType.object "java/util/Optional")), Jvm.Cond.code ({ cls := "java/util/Optional", name := "isPresent", desc := "()Z" } : Jvm.MethodName) jdk_32_method_6_code (1 : Nat) (Option.some Jvm.ClassFile.FieldType.boolean), Jvm.Cond.code ({ cls := "com/example/binfold/binfold/PackagePart", name := "headers", desc := "()Lcom/example/binfold/binfold/mime/Headers;" } : Jvm.MethodName) prog_22_method_3_code (1 : Nat) (Option.some (Jvm.ClassFile.FieldType.object "com/example/binfold/binfold/mime/Headers")), Jvm.Cond.code ({ cls := "com/example/binfold/binfold/PackagePart", name := "decodedLength", desc := "()Ljava/util/OptionalLong;" } : Jvm.MethodName) prog_22_method_7_code (1 : Nat) (Option.some (Jvm.ClassFile.FieldType.object "java/util/OptionalLong")), Jvm.Cond.code ({ cls := "java/util/OptionalLong", name := "empty", desc := "()Ljava/util/OptionalLong;" } : Jvm.MethodName) jdk_2650_method_2_code (0 : Nat) (Option.some (Jvm.ClassFile.FieldType.object "java/util/OptionalLong")), Jvm.Cond.code ({ cls := "java/util/OptionalLong", name := "isPresent", desc := "()Z" } : Jvm.MethodName) jdk_2650_method_6_code (1 : Nat) (Option.some Jvm.ClassFile.FieldType.boolean), Jvm.Cond.code ({ cls := "com/example/binfold/binfold/PartDescriptionPinLaw", name := "drawn", desc := "(IIII)Ljava/lang/String;" } : Jvm.MethodName) method_2_code (7 : Nat) (Option.some (Jvm.ClassFile.FieldType.object "java/lang/String")), Jvm.Cond.code ({ cls := "java/lang/String", name := "<init>", desc := "([C)V" } : Jvm.MethodName) jdk_42_method_3_code (2 : Nat) (Option.none : Option Jvm.ClassFile.FieldType), Jvm.Cond.code ({ cls := "java/lang/String", name := "<init>", desc := "([CIILjava/lang/Void;)V" } : Jvm.MethodName) jdk_42_method_149_code (6 : Nat) (Option.none : Option Jvm.ClassFile.FieldType), Jvm.Cond.code ({ cls := "com/example/binfold/binfold/mime/Headers", name := "<init>", desc := "()V" } : Jvm.MethodName) prog_55_method_1_code (1 : Nat) (Option.none : Option Jvm.ClassFile.FieldType), Jvm.Cond.code ({ cls := "java/util/List", name := "of", desc := "()Ljava/util/List;" } : Jvm.MethodName) jdk_40_method_36_code (0 : Nat) (Option.some (Jvm.ClassFile.FieldType.object "java/util/List")), Jvm.Cond.code ({ cls := "com/example/binfold/binfold/mime/Headers", name := "<init>", desc := "(Ljava/util/List;)V" } : Jvm.MethodName) prog_55_method_2_code (2 : Nat) (Option.none : Option Jvm.ClassFile.FieldType), Jvm.Cond.code ({ cls := "java/util/ArrayList", name := "<init>", desc := "(Ljava/util/Collection;)V" } : Jvm.MethodName) jdk_38_method_3_code (3 : Nat) (Option.none : Option Jvm.ClassFile.FieldType), Jvm.Cond.code ({ cls := "java/util/AbstractList", name := "<init>", desc := "()V" } : Jvm.MethodName) jdk_39_method_1_code (1 : Nat) (Option.none : Option Jvm.ClassFile.FieldType), Jvm.Cond.code ({ cls := "java/util/AbstractCollection", name := "<init>", desc := "()V" } : Jvm.MethodName) jdk_22_method_1_code (1 : Nat) (Option.none : Option Jvm.ClassFile.FieldType), Jvm.Cond.code ({ cls := "java/util/ImmutableCollections$ListN", name := "toArray", desc := "()[Ljava/lang/Object;" } : Jvm.MethodName) jdk_45_method_7_code (1 : Nat) (Option.some (Jvm.ClassFile.FieldType.array (Jvm.ClassFile.FieldType.object "java/lang/Object"))), Jvm.Cond.code ({ cls := "java/util/Arrays", name := "copyOf", desc := "([Ljava/lang/Object;I)[Ljava/lang/Object;" } : Jvm.MethodName) jdk_65_method_119_code (2 : Nat) (Option.some (Jvm.ClassFile.FieldType.array (Jvm.ClassFile.FieldType.object "java/lang/Object"))), Jvm.Cond.code ({ cls := "java/util/Arrays", name := "copyOf", desc := "([Ljava/lang/Object;ILjava/lang/Class;)[Ljava/lang/Object;" } : Jvm.MethodName) jdk_65_method_120_code (4 : Nat) (Option.some (Jvm.ClassFile.FieldType.array (Jvm.ClassFile.FieldType.object "java/lang/Object"))), Jvm.Cond.code ({ cls := "java/lang/Math", name := "min", desc := "(II)I" } : Jvm.MethodName) jdk_29_method_69_code (2 : Nat) (Option.some Jvm.ClassFile.FieldType.int), Jvm.Cond.code ({ cls := "java/util/Collections", name := "unmodifiableList", desc := "(Ljava/util/List;)Ljava/util/List;" } : Jvm.MethodName) jdk_79_method_35_code (1 : Nat) (Option.some (Jvm.ClassFile.FieldType.object "java/util/List")), Jvm.Cond.code ({ cls := "java/util/Collections$UnmodifiableRandomAccessList", name := "<init>", desc := "(Ljava/util/List;)V" } : Jvm.MethodName) jdk_121_method_1_code (2 : Nat) (Option.none : Option Jvm.ClassFile.FieldType), Jvm.Cond.code ({ cls := "java/util/Collections$UnmodifiableList", name := "<init>", desc := "(Ljava/util/List;)V" } : Jvm.MethodName) jdk_120_method_1_code (2 : Nat) (Option.none : Option Jvm.ClassFile.FieldType), Jvm.Cond.code ({ cls := "java/util/Collections$UnmodifiableCollection", name := "<init>", desc := "(Ljava/util/Collection;)V" } : Jvm.MethodName) jdk_119_method_1_code (2 : Nat) (Option.none : Option Jvm.ClassFile.FieldType), Jvm.Cond.code ({ cls := "java/util/Optional", name := "<init>", desc := "(Ljava/lang/Object;)V" } : Jvm.MethodName) jdk_32_method_2_code (2 : Nat) (Option.none : Option Jvm.ClassFile.FieldType), Jvm.Cond.code ({ cls := "java/util/Optional", name := "get", desc := "()Ljava/lang/Object;" } : Jvm.MethodName) jdk_32_method_5_code (1 : Nat) (Option.some (Jvm.ClassFile.FieldType.object "java/lang/Object")), Jvm.Cond.code ({ cls := "java/lang/String", name := "equals", desc := "(Ljava/lang/Object;)Z" } : Jvm.MethodName) jdk_42_method_66_code (3 : Nat) (Option.some Jvm.ClassFile.FieldType.boolean), Jvm.Cond.code ({ cls := "java/lang/StringUTF16", name := "compress", desc := "([CII)[B" } : Jvm.MethodName) jdk_52_method_16_code (6 : Nat) (Option.some (Jvm.ClassFile.FieldType.array Jvm.ClassFile.FieldType.byte)), Jvm.Cond.code ({ cls := "java/lang/StringUTF16", name := "compress", desc := "([CI[BII)I" } : Jvm.MethodName) jdk_52_method_21_code (7 : Nat) (Option.some Jvm.ClassFile.FieldType.int), Jvm.Cond.code ({ cls := "java/lang/StringUTF16", name := "coderFromArrayLen", desc := "([BI)B" } : Jvm.MethodName) jdk_52_method_15_code (2 : Nat) (Option.some Jvm.ClassFile.FieldType.byte)]
set_option maxRecDepth 65536 in
theorem codes_eq : words1.filter isCode = codes1 := rfl
theorem w_codes : ∀ c ∈ words1.filter isCode, c.before args0 about1 = true := by
  rw [codes_eq]
  intro c hc
  simp only [codes1, List.mem_cons, List.not_mem_nil, or_false] at hc
  rcases hc with rfl | rfl | rfl | rfl | rfl | rfl | rfl | rfl | rfl | rfl | rfl | rfl | rfl | rfl | rfl | rfl | rfl | rfl | rfl | rfl | rfl | rfl | rfl | rfl | rfl | rfl | rfl | rfl | rfl | rfl | rfl | rfl | rfl | rfl | rfl
  · exact w_c0
  · exact w_c1
  · exact w_c2
  · exact w_c3
  · exact w_c4
  · exact w_c5
  · exact w_c6
  · exact w_c7
  · exact w_c8
  · exact w_c9
  · exact w_c10
  · exact w_c11
  · exact w_c12
  · exact w_c13
  · exact w_c14
  · exact w_c15
  · exact w_c16
  · exact w_c17
  · exact w_c18
  · exact w_c19
  · exact w_c20
  · exact w_c21
  · exact w_c22
  · exact w_c23
  · exact w_c24
  · exact w_c25
  · exact w_c26
  · exact w_c27
  · exact w_c28
  · exact w_c29
  · exact w_c30
  · exact w_c31
  · exact w_c32
  · exact w_c33
  · exact w_c34
set_option maxRecDepth 65536 in
theorem w_t1 : (words1.take 24).all (fun c => isCode c || c.before args0 about1) = true := by decide +kernel
set_option maxRecDepth 65536 in
theorem w_t2 : ((words1.drop 24).take 24).all (fun c => isCode c || c.before args0 about1) = true := by decide +kernel
set_option maxRecDepth 65536 in
theorem w_t3 : (((words1.drop 24).drop 24).take 24).all (fun c => isCode c || c.before args0 about1) = true := by decide +kernel
set_option maxRecDepth 65536 in
theorem w_t4 : ((((words1.drop 24).drop 24).drop 24).take 24).all (fun c => isCode c || c.before args0 about1) = true := by decide +kernel
set_option maxRecDepth 65536 in
theorem w_t5 : (((((words1.drop 24).drop 24).drop 24).drop 24).take 24).all (fun c => isCode c || c.before args0 about1) = true := by decide +kernel
set_option maxRecDepth 65536 in
theorem w_t6 : ((((((words1.drop 24).drop 24).drop 24).drop 24).drop 24).take 24).all (fun c => isCode c || c.before args0 about1) = true := by decide +kernel
set_option maxRecDepth 65536 in
theorem w_t7 : (((((((words1.drop 24).drop 24).drop 24).drop 24).drop 24).drop 24).take 24).all (fun c => isCode c || c.before args0 about1) = true := by decide +kernel
set_option maxRecDepth 65536 in
theorem w_t8 : ((((((((words1.drop 24).drop 24).drop 24).drop 24).drop 24).drop 24).drop 24).take 24).all (fun c => isCode c || c.before args0 about1) = true := by decide +kernel
set_option maxRecDepth 65536 in
theorem w_t9 : (((((((((words1.drop 24).drop 24).drop 24).drop 24).drop 24).drop 24).drop 24).drop 24).take 24).all (fun c => isCode c || c.before args0 about1) = true := by decide +kernel
set_option maxRecDepth 65536 in
theorem w_t10 : ((((((((((words1.drop 24).drop 24).drop 24).drop 24).drop 24).drop 24).drop 24).drop 24).drop 24).take 24).all (fun c => isCode c || c.before args0 about1) = true := by decide +kernel
set_option maxRecDepth 65536 in
theorem w_t11 : ((((((((((words1.drop 24).drop 24).drop 24).drop 24).drop 24).drop 24).drop 24).drop 24).drop 24).drop 24).all (fun c => isCode c || c.before args0 about1) = true := by decide +kernel
theorem w_tables : (allAtoms (Jvm.Cond.code x code maxLocals ret :: tables_1)).before args0 about1 = true := by
  rw [allAtoms_all]
  show words1.all (fun c => c.before args0 about1) = true
  refine all_split ?_ w_codes
  rw [← List.take_append_drop 24 words1, List.all_append, w_t1, ← List.take_append_drop 24 (words1.drop 24), List.all_append, w_t2, ← List.take_append_drop 24 ((words1.drop 24).drop 24), List.all_append, w_t3, ← List.take_append_drop 24 (((words1.drop 24).drop 24).drop 24), List.all_append, w_t4, ← List.take_append_drop 24 ((((words1.drop 24).drop 24).drop 24).drop 24), List.all_append, w_t5, ← List.take_append_drop 24 (((((words1.drop 24).drop 24).drop 24).drop 24).drop 24), List.all_append, w_t6, ← List.take_append_drop 24 ((((((words1.drop 24).drop 24).drop 24).drop 24).drop 24).drop 24), List.all_append, w_t7, ← List.take_append_drop 24 (((((((words1.drop 24).drop 24).drop 24).drop 24).drop 24).drop 24).drop 24), List.all_append, w_t8, ← List.take_append_drop 24 ((((((((words1.drop 24).drop 24).drop 24).drop 24).drop 24).drop 24).drop 24).drop 24), List.all_append, w_t9, ← List.take_append_drop 24 (((((((((words1.drop 24).drop 24).drop 24).drop 24).drop 24).drop 24).drop 24).drop 24).drop 24), List.all_append, w_t10, w_t11]
  rfl
set_option maxRecDepth 65536 in
theorem w_rest : rest_1_c.before args0 about1 = true := by decide +kernel
set_option maxRecDepth 65536 in
theorem w_case : (Jvm.Cond.and given_1 narrow_1).before args0 about1 = true := by decide +kernel
set_option maxRecDepth 65536 in
theorem w_consts : constsHeld consts_1 about1 := Jvm.Lit.constsHeldB_iff.mp (by decide +kernel)
theorem w_applies : (headSpec (Jvm.Cond.code x code maxLocals ret :: tables_1) room_1).applies x e0.platform about1 = true :=
  (Spec.applies_iff w_frames).mpr ⟨w_running, w_runnable, w_alone, w_named, w_hears, w_ripe, w_room, w_tables⟩
theorem atStart : AtStart classFile x code maxLocals ret World_1 tables_1 room_1 Calls_1 rest_1 Pre_1 launch0 p0 e0 about1 theMethod args0 below0 :=
  ⟨lists_1, trivial, launch0.admits_env _ _ _, launch0.least_env, fairChoices_fair.cas, fairChoices_fair.clock, w_frames, w_args, w_heap, w_applies, ⟨⟨44, k44, 6, by decide +kernel, rfl, rfl, _, rfl, rfl⟩, ⟨⟨22, k22, 7, by decide +kernel, rfl, rfl, _, rfl, rfl⟩, ⟨⟨31, k31, 8, by decide +kernel, rfl, rfl, _, rfl, rfl⟩, ⟨⟨32, k32, 9, by decide +kernel, rfl, rfl, _, rfl, rfl⟩, ⟨w_consts, trivial⟩⟩⟩⟩⟩, w_rest, w_case⟩
end start1
theorem witness_1 : WitnessClaimed_1 := ⟨start1.p0, start1.e0, start1.about1, start1.theMethod, start1.args0, start1.below0, start1.atStart⟩
end Jvm.Pilot.@@N@@
