import JvmDerived
import JvmDerived.Pilot.@@N@@Statement
import JvmDerived.Pilot.@@N@@Code
set_option linter.unusedVariables false
set_option linter.unusedSimpArgs false
@@BLOCK:NumsL.lean.txt@@
/- laws to paste: Road.backV (cut by pick.py; bodies as the Statement names them) -/
namespace Jvm.Pilot.@@N@@
namespace StrChars
open Jvm Sem ClassFile Op Lib Jvm.Stand Jvm.Free.XT Jvm.Free.ALB Jvm.Free.JM Jvm.Free
open Jvm.Lib.Cold (StaticIs)
/-- a char array whose places are chars -/
def Ch (a : Addr) (A : Cell) (U : State) : Prop := Arr .char a A U ∧ Typed .char A
theorem Ch.mv {a : Addr} {A : Cell} {U U' : State} (h : Ch a A U) (hal : U.vm.Alike U'.vm) (hh : U'.heap = U.heap) : Ch a A U' := ⟨h.1.mv hal hh, h.2⟩
theorem Ch.keep {a : Addr} {A : Cell} {U U' : State} (h : Ch a A U) (hal : U.vm.Alike U'.vm) (hk : U'.heap[a]? = some A) : Ch a A U' := ⟨h.1.keep hal hk, h.2⟩
/-- what place i of a char[]'s cell holds -/
def cv (A : Cell) (i : Nat) : Int32 := match A.slots[i]? with | some (.int x) => x | _ => 0
theorem Ch.get {a : Addr} {A : Cell} {U : State} (h : Ch a A U) {i : Nat} (hi : i < A.slots.size) : A.slots[i]? = some (.int (cv A i)) := by
  have e := Array.getElem?_eq_getElem hi
  have f := h.2 i _ e
  unfold cv; rw [e]
  generalize A.slots[i] = v at f
  cases v <;> simp [fits] at f ⊢
/-- the byte that i2b leaves of a char -/
def lo8 (x : Int32) : Int32 := x.toInt8.toInt32
theorem fits_lo8 (y : Int32) : fits .byte (.int (lo8 y)) = true := by
  have h1 := y.toInt8.le_toInt
  have h2 := y.toInt8.toInt_lt
  simp only [lo8, fits, Bool.and_eq_true, decide_eq_true_eq, Int32.le_iff_toInt_le, Int8.toInt_toInt32, show (-128 : Int32).toInt = -128 from by decide, show (127 : Int32).toInt = 127 from by decide]
  omega
/-- A' is A but that each place j of lo .. hi - 1 holds f j -/
def Laid (A A' : Cell) (lo hi : Nat) (f : Nat → Value) : Prop := A'.cls = A.cls ∧ A'.vm = A.vm ∧ A'.slots.size = A.slots.size ∧ ∀ i, A'.slots[i]? = if lo ≤ i ∧ i < hi then some (f i) else A.slots[i]?
theorem Laid.zero (A : Cell) (lo : Nat) (f : Nat → Value) : Laid A A lo (lo + 0) f := ⟨rfl, rfl, rfl, fun i => by rw [if_neg (by omega)]⟩
theorem Laid.step {A Ak : Cell} {lo k : Nat} {f : Nat → Value} {v : Value} (h : Laid A Ak lo k f) (hlo : lo ≤ k) (hk : k < Ak.slots.size) (hv : v = f k) : Laid A (Ak.setSlot k v) lo (k + 1) f := by
  refine ⟨h.1, h.2.1, by simpa [Cell.setSlot] using h.2.2.1, fun i => ?_⟩
  by_cases e : k = i
  · subst e; rw [Cell.slots_setSlot_self v hk, if_pos (by omega), hv]
  · rw [Cell.slots_setSlot_ne v e, h.2.2.2 i]
    by_cases q : lo ≤ i ∧ i < k
    · rw [if_pos q, if_pos (by omega)]
    · rw [if_neg q, if_neg (by omega)]
def U16 : String := "java/lang/StringUTF16"
namespace Cmp5
def yN : MethodName := ⟨"java/lang/StringUTF16", "compress", "([CI[BII)I"⟩
abbrev yB : ByteArray := jdk_52_method_21_code
theorem d0 : decode yB 0 = .ok (.iconst 0, 1) := by decide +kernel
theorem d1 : decode yB 1 = .ok (.istore 5, 2) := by decide +kernel
theorem d3 : decode yB 3 = .ok (.iload 5, 2) := by decide +kernel
theorem d5 : decode yB 5 = .ok (.iload 4, 2) := by decide +kernel
theorem d7 : decode yB 7 = .ok (.if_icmp (.ge) 37, 3) := by decide +kernel
theorem d10 : decode yB 10 = .ok (.aload_n 0, 1) := by decide +kernel
theorem d11 : decode yB 11 = .ok (.iload_n 1, 1) := by decide +kernel
theorem d12 : decode yB 12 = .ok (.caload, 1) := by decide +kernel
theorem d13 : decode yB 13 = .ok (.istore 6, 2) := by decide +kernel
theorem d15 : decode yB 15 = .ok (.iload 6, 2) := by decide +kernel
theorem d17 : decode yB 17 = .ok (.sipush 255, 3) := by decide +kernel
theorem d20 : decode yB 20 = .ok (.if_icmp (.le) 6, 3) := by decide +kernel
theorem d26 : decode yB 26 = .ok (.aload_n 2, 1) := by decide +kernel
theorem d27 : decode yB 27 = .ok (.iload_n 3, 1) := by decide +kernel
theorem d28 : decode yB 28 = .ok (.iload 6, 2) := by decide +kernel
theorem d30 : decode yB 30 = .ok (.i2b, 1) := by decide +kernel
theorem d31 : decode yB 31 = .ok (.bastore, 1) := by decide +kernel
theorem d32 : decode yB 32 = .ok (.iinc 1 1, 3) := by decide +kernel
theorem d35 : decode yB 35 = .ok (.iinc 3 1, 3) := by decide +kernel
theorem d38 : decode yB 38 = .ok (.iinc 5 1, 3) := by decide +kernel
theorem d41 : decode yB 41 = .ok (.goto (-38), 3) := by decide +kernel
theorem d44 : decode yB 44 = .ok (.iload 4, 2) := by decide +kernel
theorem d46 : decode yB 46 = .ok (.ireturn, 1) := by decide +kernel
def site : List Cond := []
def tab : Cond := tabOf yN yB 7 (some .int) site
def P (b : Addr) (A : Cell) (d : Addr) (B : Cell) (o q len : Nat) (args : Array Value) (s : State) : Prop := args = #[.ref b, .int (Int32.ofNat o), .ref d, .int (Int32.ofNat q), .int (Int32.ofNat len)] ∧ Ch b A s ∧ Arr .byte d B s ∧ b ≠ d ∧ o + len ≤ A.slots.size ∧ q + len ≤ B.slots.size ∧ ∀ i, i < len → ¬ 255 < cv A (o + i)
def E (b : Addr) (A : Cell) (d : Addr) (B : Cell) (o q len : Nat) (r : Option Value) (s u : State) : Prop := r = some (.int (Int32.ofNat len)) ∧ ∃ B', Put d B' s u ∧ Laid B B' q (q + len) (fun j => Value.int (lo8 (cv A (o + (j - q)))))
/-- no char of the range above 255: len; the places written hold each char's low byte -/
theorem law (l : Launch) (b : Addr) (A : Cell) (d : Addr) (B : Cell) (o q len : Nat) : Law l yN 5 5 0 0 yB 7 (some .int) site (P b A d B o q len) (E b A d B o q len) (copyLocs d q len) 0 0 := by
  refine Law.of_walk (plainFor_of_name (by decide +kernel)) (by decide +kernel) (by decide +kernel) (by decide) (fun _ _ h => by rw [h.1]; rfl) (fun _ U U' hal hh h => ⟨h.1, h.2.1.mv hal hh, h.2.2.1.mv hal hh, h.2.2.2⟩) (fun r U U' V V' h1 hal h2 h => ⟨h.1, h.2.elim fun B' q => ⟨B', q.1.mv h1 h2, q.2⟩⟩) ?_
  intro p e s m args below meth c s₁ X0 hexec hbytes hml hret hlk hnm hown hh0 W hP
  obtain ⟨rfl, hA, hB, hne, l1, l2, hp⟩ := hP
  have c1 : Steps p.tables e below (s₁.setTop (entryFrame m #[.ref b, .int (Int32.ofNat o), .ref d, .int (Int32.ofNat q), .int (Int32.ofNat len)] 7)) (s₁.setTop (mkF m 0 #[.val (.ref b), .val (.int (Int32.ofNat o)), .val (.ref d), .val (.int (Int32.ofNat q)), .val (.int (Int32.ofNat len)), .unset, .unset] [])) := entry rfl
  have hA0 := hA.1.mv X0.warmed.alike hh0
  have hB0 := hB.mv X0.warmed.alike hh0
  have a31 := hA.1.2.2.2
  have c2 : Steps p.tables e below (s₁.setTop (entryFrame m #[.ref b, .int (Int32.ofNat o), .ref d, .int (Int32.ofNat q), .int (Int32.ofNat len)] 7)) (s₁.setTop (mkF m 3 #[.val (.ref b), .val (.int (Int32.ofNat o)), .val (.ref d), .val (.int (Int32.ofNat q)), .val (.int (Int32.ofNat len)), .val (.int 0), .unset] [])) := c1.trans (by
    refine iconstV X0.here hexec rfl 0 (hb hbytes d0) (by decide) ?_
    refine XS.istore X0.here hexec rfl (hb hbytes d1) rfl rfl ?_
    exact Steps.refl _)
  have loop : ∀ (r i : Nat), i + r = len → ∀ (z : Slot), (z = .unset ∨ ∃ w, z = .val w ∧ w.category = 1) → ∀ (Tl : State) (Bk : Cell), Stand p l e { frames := 0, locals := 0, cells := 0, slots := 0 } s m #[.ref b, .int (Int32.ofNat o), .ref d, .int (Int32.ofNat q), .int (Int32.ofNat len)] below meth c Tl ([] ++ copyLocs d q i) 0 0 → Put d Bk s₁ Tl → Laid B Bk q (q + i) (fun j => Value.int (lo8 (cv A (o + (j - q))))) →
      Steps p.tables e below (s₁.setTop (entryFrame m #[.ref b, .int (Int32.ofNat o), .ref d, .int (Int32.ofNat q), .int (Int32.ofNat len)] 7)) (Tl.setTop (mkF m 3 #[.val (.ref b), .val (.int (Int32.ofNat (o + i))), .val (.ref d), .val (.int (Int32.ofNat (q + i))), .val (.int (Int32.ofNat len)), .val (.int (Int32.ofNat i)), z] [])) → ∃ (T' : State) (B' : Cell) (z' : Slot), Stand p l e { frames := 0, locals := 0, cells := 0, slots := 0 } s m #[.ref b, .int (Int32.ofNat o), .ref d, .int (Int32.ofNat q), .int (Int32.ofNat len)] below meth c T' ([] ++ copyLocs d q len) 0 0 ∧ Put d B' s₁ T' ∧ Laid B B' q (q + len) (fun j => Value.int (lo8 (cv A (o + (j - q))))) ∧
      Steps p.tables e below (s₁.setTop (entryFrame m #[.ref b, .int (Int32.ofNat o), .ref d, .int (Int32.ofNat q), .int (Int32.ofNat len)] 7)) (T'.setTop (mkF m 3 #[.val (.ref b), .val (.int (Int32.ofNat (o + len))), .val (.ref d), .val (.int (Int32.ofNat (q + len))), .val (.int (Int32.ofNat len)), .val (.int (Int32.ofNat len)), z'] [])) := by
    intro r
    induction r with
    | zero =>
      intro i hi z hz Tl Bk Xl pl fl cl
      have hil : i = len := by omega
      rw [hil] at Xl fl cl
      exact ⟨Tl, Bk, z, Xl, pl, fl, cl⟩
    | succ r ih =>
      intro i hi z hz Tl Bk Xl pl fl cl
      have all := X0.warmed.alike.symm.trans Xl.warmed.alike
      have hAl := hA0.keep all (pl.other hne hA0.1)
      have hBk := hB0.like all pl.1 fl.1 fl.2.1 fl.2.2.1
      have hlt : q + i < Bk.slots.size := by rw [fl.2.2.1]; omega
      have c3 : Steps p.tables e below (s₁.setTop (entryFrame m #[.ref b, .int (Int32.ofNat o), .ref d, .int (Int32.ofNat q), .int (Int32.ofNat len)] 7)) (Tl.setTop (mkF m 12 #[.val (.ref b), .val (.int (Int32.ofNat (o + i))), .val (.ref d), .val (.int (Int32.ofNat (q + i))), .val (.int (Int32.ofNat len)), .val (.int (Int32.ofNat i)), z] [.int (Int32.ofNat (o + i)), .ref b])) := cl.trans (by
        refine XS.iload Xl.here hexec rfl (hb hbytes d3) rfl ?_
        refine XS.iload Xl.here hexec rfl (hb hbytes d5) rfl ?_
        refine XS.icmpNo Xl.here hexec rfl (hb hbytes d7) rfl (ii_ge_f (lt32 (by omega) (by omega))) ?_
        refine XS.aloadN Xl.here hexec rfl (hb hbytes d10) rfl rfl ?_
        refine XS.iloadN Xl.here hexec rfl (hb hbytes d11) rfl ?_
        exact Steps.refl _)
      have c4 : Steps p.tables e below (s₁.setTop (entryFrame m #[.ref b, .int (Int32.ofNat o), .ref d, .int (Int32.ofNat q), .int (Int32.ofNat len)] 7)) (Tl.setTop (mkF m 13 #[.val (.ref b), .val (.int (Int32.ofNat (o + i))), .val (.ref d), .val (.int (Int32.ofNat (q + i))), .val (.int (Int32.ofNat len)), .val (.int (Int32.ofNat i)), z] [.int (cv A (o + i))])) := c3.trans (by
        refine Xl.aget hexec hAl rfl (hA.get (i := o + i) (by omega)) rfl rfl (hb hbytes d12) ?_
        exact Steps.refl _)
      have c5 : Steps p.tables e below (s₁.setTop (entryFrame m #[.ref b, .int (Int32.ofNat o), .ref d, .int (Int32.ofNat q), .int (Int32.ofNat len)] 7)) (Tl.setTop (mkF m 15 #[.val (.ref b), .val (.int (Int32.ofNat (o + i))), .val (.ref d), .val (.int (Int32.ofNat (q + i))), .val (.int (Int32.ofNat len)), .val (.int (Int32.ofNat i)), .val (.int (cv A (o + i)))] [])) := c4.trans (by
        refine XS.istoreS Xl.here hexec rfl (hb hbytes d13) rfl rfl hz ?_
        exact Steps.refl _)
      have c6 : Steps p.tables e below (s₁.setTop (entryFrame m #[.ref b, .int (Int32.ofNat o), .ref d, .int (Int32.ofNat q), .int (Int32.ofNat len)] 7)) (Tl.setTop (mkF m 31 #[.val (.ref b), .val (.int (Int32.ofNat (o + i))), .val (.ref d), .val (.int (Int32.ofNat (q + i))), .val (.int (Int32.ofNat len)), .val (.int (Int32.ofNat i)), .val (.int (cv A (o + i)))] [.int (lo8 (cv A (o + i))), .int (Int32.ofNat (q + i)), .ref d])) := c5.trans (by
        refine XS.iload Xl.here hexec rfl (hb hbytes d15) rfl ?_
        refine sipushV Xl.here hexec rfl 255 (hb hbytes d17) (by decide) ?_
        refine XS.icmpYes Xl.here hexec rfl (pc0 := 20) rfl (hb hbytes d20) rfl (ii_le_t (hp i (by omega))) (by decide) rfl ?_
        refine XS.aloadN Xl.here hexec rfl (hb hbytes d26) rfl rfl ?_
        refine XS.iloadN Xl.here hexec rfl (hb hbytes d27) rfl ?_
        refine XS.iload Xl.here hexec rfl (hb hbytes d28) rfl ?_
        refine i2b Xl.here hexec rfl (hb hbytes d30) rfl ?_
        exact Steps.refl _)
      obtain ⟨T7, X7, p7, st7⟩ := Xl.aput hexec hBk rfl hlt rfl (fits_lo8 (cv A (o + i))) (g := (mkF m 31 #[.val (.ref b), .val (.int (Int32.ofNat (o + i))), .val (.ref d), .val (.int (Int32.ofNat (q + i))), .val (.int (Int32.ofNat len)), .val (.int (Int32.ofNat i)), .val (.int (cv A (o + i)))] [.int (lo8 (cv A (o + i))), .int (Int32.ofNat (q + i)), .ref d])) rfl (rest := []) rfl (hb hbytes d31)
      have c8 : Steps p.tables e below (s₁.setTop (entryFrame m #[.ref b, .int (Int32.ofNat o), .ref d, .int (Int32.ofNat q), .int (Int32.ofNat len)] 7)) (T7.setTop (mkF m 32 #[.val (.ref b), .val (.int (Int32.ofNat (o + i))), .val (.ref d), .val (.int (Int32.ofNat (q + i))), .val (.int (Int32.ofNat len)), .val (.int (Int32.ofNat i)), .val (.int (cv A (o + i)))] [])) := c6.trans (st7 _ (Steps.refl _))
      have c9 : Steps p.tables e below (s₁.setTop (entryFrame m #[.ref b, .int (Int32.ofNat o), .ref d, .int (Int32.ofNat q), .int (Int32.ofNat len)] 7)) (T7.setTop (mkF m 3 #[.val (.ref b), .val (.int (Int32.ofNat (o + i) + 1)), .val (.ref d), .val (.int (Int32.ofNat (q + i) + 1)), .val (.int (Int32.ofNat len)), .val (.int (Int32.ofNat i + 1)), .val (.int (cv A (o + i)))] [])) := c8.trans (by
        refine iincV X7.here hexec rfl 1 (hb hbytes d32) (by decide) rfl rfl ?_
        refine iincV X7.here hexec rfl 1 (hb hbytes d35) (by decide) rfl rfl ?_
        refine iincV X7.here hexec rfl 1 (hb hbytes d38) (by decide) rfl rfl ?_
        refine XS.goto X7.here hexec rfl (pc0 := 41) rfl (hb hbytes d41) (by decide) rfl ?_
        exact Steps.refl _)
      have c10 : Steps p.tables e below (s₁.setTop (entryFrame m #[.ref b, .int (Int32.ofNat o), .ref d, .int (Int32.ofNat q), .int (Int32.ofNat len)] 7)) (T7.setTop (mkF m 3 #[.val (.ref b), .val (.int (Int32.ofNat (o + (i + 1)))), .val (.ref d), .val (.int (Int32.ofNat (q + (i + 1)))), .val (.int (Int32.ofNat len)), .val (.int (Int32.ofNat (i + 1))), .val (.int (cv A (o + i)))] [])) := by
        have := c9
        rw [succ32, succ32, succ32] at this
        exact this
      exact ih (i + 1) (by omega) _ (Or.inr ⟨_, rfl, rfl⟩) T7 _ (by rw [copyLocs_step, ← List.append_assoc]; exact X7) (pl.trans p7) (fl.step (by omega) hlt (by simp)) c10
  obtain ⟨T9, B9, z9, X9, p9, f9, g9⟩ := loop len 0 (by omega) .unset (Or.inl rfl) s₁ B (by simpa [copyLocs] using X0) ⟨hB0.1, fun _ _ => rfl, rfl⟩ (Laid.zero _ _ _) c2
  have c11 : Steps p.tables e below (s₁.setTop (entryFrame m #[.ref b, .int (Int32.ofNat o), .ref d, .int (Int32.ofNat q), .int (Int32.ofNat len)] 7)) (T9.setTop (mkF m 46 #[.val (.ref b), .val (.int (Int32.ofNat (o + len))), .val (.ref d), .val (.int (Int32.ofNat (q + len))), .val (.int (Int32.ofNat len)), .val (.int (Int32.ofNat len)), z9] [.int (Int32.ofNat len)])) := g9.trans (by
    refine XS.iload X9.here hexec rfl (hb hbytes d3) rfl ?_
    refine XS.iload X9.here hexec rfl (hb hbytes d5) rfl ?_
    refine XS.icmpYes X9.here hexec rfl (pc0 := 7) rfl (hb hbytes d7) rfl (ii_ge_t (nlt32 (by omega) (Nat.le_refl _))) (by decide) rfl ?_
    refine XS.iload X9.here hexec rfl (hb hbytes d44) rfl ?_
    exact Steps.refl _)
  exact ⟨T9, some (.int (Int32.ofNat len)), _, _, _, X9, by simp, rfl, rfl, (fun h => by cases h), ⟨rfl, B9, p9.from hh0, f9⟩, fun fs hl => c11.trans (X9.ireturnOut hexec hret rfl (Or.inl rfl) (hb hbytes d46) hl)⟩
end Cmp5
namespace Cmp3
def yN : MethodName := ⟨"java/lang/StringUTF16", "compress", "([CII)[B"⟩
abbrev yB : ByteArray := jdk_52_method_16_code
theorem d0 : decode yB 0 = .ok (.iload_n 2, 1) := by decide +kernel
theorem d1 : decode yB 1 = .ok (.newarray .byte, 2) := by decide +kernel
theorem d3 : decode yB 3 = .ok (.astore_n 3, 1) := by decide +kernel
theorem d4 : decode yB 4 = .ok (.aload_n 0, 1) := by decide +kernel
theorem d5 : decode yB 5 = .ok (.iload_n 1, 1) := by decide +kernel
theorem d6 : decode yB 6 = .ok (.aload_n 3, 1) := by decide +kernel
theorem d7 : decode yB 7 = .ok (.iconst 0, 1) := by decide +kernel
theorem d8 : decode yB 8 = .ok (.iload_n 2, 1) := by decide +kernel
theorem d9 : decode yB 9 = .ok (.invokestatic 115, 3) := by decide +kernel
theorem d12 : decode yB 12 = .ok (.istore 4, 2) := by decide +kernel
theorem d14 : decode yB 14 = .ok (.iload 4, 2) := by decide +kernel
theorem d16 : decode yB 16 = .ok (.iload_n 2, 1) := by decide +kernel
theorem d17 : decode yB 17 = .ok (.if_icmp (.eq) 40, 3) := by decide +kernel
theorem d57 : decode yB 57 = .ok (.aload_n 3, 1) := by decide +kernel
theorem d58 : decode yB 58 = .ok (.areturn, 1) := by decide +kernel
def site : List Cond := [.arrayClass .byte, Cmp5.tab] ++ staticW U16 115 Cmp5.yN
def tab : Cond := tabOf yN yB 6 (some (.array .byte)) site
def P (b : Addr) (A : Cell) (o len : Nat) (args : Array Value) (s : State) : Prop := args = #[.ref b, .int (Int32.ofNat o), .int (Int32.ofNat len)] ∧ Ch b A s ∧ o + len ≤ A.slots.size ∧ len ≤ 536870912 ∧ ∀ i, i < len → ¬ 255 < cv A (o + i)
def E (b : Addr) (A : Cell) (o len : Nat) (r : Option Value) (s u : State) : Prop := NewArr .byte "[B" len (fun j => .int (lo8 (cv A (o + j)))) r s u ∧ u.heap.size = s.heap.size + 1
/-- no char of the range above 255: a new byte[] of their low bytes -/
theorem law (l : Launch) (b : Addr) (A : Cell) (o len : Nat) : Law l yN 3 3 1 18 yB 6 (some (.array .byte)) site (P b A o len) (E b A o len) [] 1 len := by
  refine Law.of_walk (plainFor_of_name (by decide +kernel)) (by decide +kernel) (by decide +kernel) (by decide) (fun _ _ h => by rw [h.1]; rfl) (fun _ U U' hal hh h => ⟨h.1, h.2.1.mv hal hh, h.2.2⟩) (fun r U U' V V' h1 hal h2 h => ⟨NewArr.mv r U U' V V' h1 hal h2 h.1, by rw [h1, h2]; exact h.2⟩) ?_
  intro p e s m args below meth c s₁ X0 hexec hbytes hml hret hlk hnm hown hh0 W hP
  obtain ⟨rfl, hA, l1, l2, hp⟩ := hP
  have a31 := hA.1.2.2.2
  have c1 : Steps p.tables e below (s₁.setTop (entryFrame m #[.ref b, .int (Int32.ofNat o), .int (Int32.ofNat len)] 6)) (s₁.setTop (mkF m 0 #[.val (.ref b), .val (.int (Int32.ofNat o)), .val (.int (Int32.ofNat len)), .unset, .unset, .unset] [])) := entry rfl
  have c2 : Steps p.tables e below (s₁.setTop (entryFrame m #[.ref b, .int (Int32.ofNat o), .int (Int32.ofNat len)] 6)) (s₁.setTop (mkF m 1 #[.val (.ref b), .val (.int (Int32.ofNat o)), .val (.int (Int32.ofNat len)), .unset, .unset, .unset] [.int (Int32.ofNat len)])) := c1.trans (by
    refine XS.iloadN X0.here hexec rfl (hb hbytes d0) rfl ?_
    exact Steps.refl _)
  obtain ⟨T3, B3, X3, ba3, bs3, bv3, bh3, bf3, st3⟩ := X0.anew hexec (atype := .byte) (wk W (.arrayClass .byte)) rfl (by show len * 1 ≤ _; omega) (by omega) (g := (mkF m 1 #[.val (.ref b), .val (.int (Int32.ofNat o)), .val (.int (Int32.ofNat len)), .unset, .unset, .unset] [.int (Int32.ofNat len)])) rfl (hb hbytes d1) (rest := []) rfl (Nat.le_refl _) (by show 0 + len ≤ len; omega)
  rw [hh0] at ba3 st3
  have kp3 : XT.Kept s T3 := (XT.Kept.of_eq hh0).push bh3
  have hA3 := hA.keep X3.warmed.alike (kp3 _ _ hA.1.1)
  have hne : b ≠ s.heap.size := hA.1.ne
  have c4 : Steps p.tables e below (s₁.setTop (entryFrame m #[.ref b, .int (Int32.ofNat o), .int (Int32.ofNat len)] 6)) (T3.setTop (mkF m 3 #[.val (.ref b), .val (.int (Int32.ofNat o)), .val (.int (Int32.ofNat len)), .unset, .unset, .unset] [.ref s.heap.size])) := c2.trans (st3 _ (Steps.refl _))
  have c5 : Steps p.tables e below (s₁.setTop (entryFrame m #[.ref b, .int (Int32.ofNat o), .int (Int32.ofNat len)] 6)) (T3.setTop (mkF m 9 #[.val (.ref b), .val (.int (Int32.ofNat o)), .val (.int (Int32.ofNat len)), .val (.ref s.heap.size), .unset, .unset] [.int (Int32.ofNat len), .int 0, .ref s.heap.size, .int (Int32.ofNat o), .ref b])) := c4.trans (by
    refine XS.astoreN X3.here hexec rfl (hb hbytes d3) rfl rfl rfl ?_
    refine XS.aloadN X3.here hexec rfl (hb hbytes d4) rfl rfl ?_
    refine XS.iloadN X3.here hexec rfl (hb hbytes d5) rfl ?_
    refine XS.aloadN X3.here hexec rfl (hb hbytes d6) rfl rfl ?_
    refine iconstV X3.here hexec rfl 0 (hb hbytes d7) (by decide) ?_
    refine XS.iloadN X3.here hexec rfl (hb hbytes d8) rfl ?_
    exact Steps.refl _)
  obtain ⟨v6, T6, X6, E6, g6⟩ := X3.callS hexec (Cmp5.law l b A s.heap.size B3 o 0 len) hown (wks W (staticW U16 115 Cmp5.yN)) (wk W Cmp5.tab) (W := 0) (Nat.le_of_ble_eq_true rfl) (Nat.le_of_ble_eq_true rfl) (Nat.le_refl _) (by show 0 + len + 0 ≤ len; omega) (g := (mkF m 9 #[.val (.ref b), .val (.int (Int32.ofNat o)), .val (.int (Int32.ofNat len)), .val (.ref s.heap.size), .unset, .unset] [.int (Int32.ofNat len), .int (Int32.ofNat 0), .ref s.heap.size, .int (Int32.ofNat o), .ref b])) rfl (by rw [hml]; rfl) c5 (argsL := [.ref b, .int (Int32.ofNat o), .ref s.heap.size, .int (Int32.ofNat 0), .int (Int32.ofNat len)]) (rest := []) rfl rfl (by show 2 * 0 + 0 ≤ _; decide) (hb hbytes d9) (⟨rfl, hA3, ba3, hne, l1, by rw [bs3]; simp, hp⟩)
  obtain ⟨rfl, B6, p6, f6⟩ := E6
  have c7 : Steps p.tables e below (s₁.setTop (entryFrame m #[.ref b, .int (Int32.ofNat o), .int (Int32.ofNat len)] 6)) (T6.setTop (mkF m 12 #[.val (.ref b), .val (.int (Int32.ofNat o)), .val (.int (Int32.ofNat len)), .val (.ref s.heap.size), .unset, .unset] [.int (Int32.ofNat len)])) := g6
  have c8 : Steps p.tables e below (s₁.setTop (entryFrame m #[.ref b, .int (Int32.ofNat o), .int (Int32.ofNat len)] 6)) (T6.setTop (mkF m 58 #[.val (.ref b), .val (.int (Int32.ofNat o)), .val (.int (Int32.ofNat len)), .val (.ref s.heap.size), .val (.int (Int32.ofNat len)), .unset] [.ref s.heap.size])) := c7.trans (by
    refine XS.istore X6.here hexec rfl (hb hbytes d12) rfl rfl ?_
    refine XS.iload X6.here hexec rfl (hb hbytes d14) rfl ?_
    refine XS.iloadN X6.here hexec rfl (hb hbytes d16) rfl ?_
    refine XS.icmpYes X6.here hexec rfl (pc0 := 17) rfl (hb hbytes d17) rfl (ii_eq_t rfl) (by decide) rfl ?_
    refine XS.aloadN X6.here hexec rfl (hb hbytes d57) rfl rfl ?_
    exact Steps.refl _)
  have X8 := X6.wide (L' := []) (cells' := 1) (slots' := len) (fun x hx hlt => by
    simp only [List.nil_append, copyLocs, List.mem_map, List.mem_range] at hx
    obtain ⟨i, -, rfl⟩ := hx
    exact absurd hlt (Nat.lt_irrefl _)) (Nat.le_refl _) (by omega)
  exact ⟨T6, some (.ref s.heap.size), _, _, _, X8, rfl, rfl, rfl, (fun h => by cases h), ⟨⟨rfl, B6, ba3.like (X3.warmed.alike.symm.trans X6.warmed.alike) p6.1 f6.1 f6.2.1 f6.2.2.1, f6.2.1.trans bv3, by rw [X6.warmed.alike.findClass, f6.1]; exact bf3, by rw [f6.2.2.1, bs3]; simp, fun j hj => by rw [f6.2.2.2 j, if_pos (by omega)]; rfl, kp3.put p6 (Nat.le_refl _)⟩, by rw [p6.2.2, bh3, hh0]; simp⟩, fun fs hl => c8.trans (X8.areturnOut hexec rfl hret rfl (hb hbytes d58) hl)⟩
end Cmp3
namespace CodL
def yN : MethodName := ⟨"java/lang/StringUTF16", "coderFromArrayLen", "([BI)B"⟩
abbrev yB : ByteArray := jdk_52_method_15_code
theorem d0 : decode yB 0 = .ok (.iload_n 1, 1) := by decide +kernel
theorem d1 : decode yB 1 = .ok (.aload_n 0, 1) := by decide +kernel
theorem d2 : decode yB 2 = .ok (.arraylength, 1) := by decide +kernel
theorem d3 : decode yB 3 = .ok (.isub, 1) := by decide +kernel
theorem d4 : decode yB 4 = .ok (.bipush 31, 2) := by decide +kernel
theorem d6 : decode yB 6 = .ok (.iushr, 1) := by decide +kernel
theorem d7 : decode yB 7 = .ok (.i2b, 1) := by decide +kernel
theorem d8 : decode yB 8 = .ok (.ireturn, 1) := by decide +kernel
def site : List Cond := []
def tab : Cond := tabOf yN yB 2 (some .byte) site
def P (d : Addr) (B : Cell) (args : Array Value) (s : State) : Prop := args = #[.ref d, .int (Int32.ofNat B.slots.size)] ∧ Arr .byte d B s
def E (r : Option Value) (s u : State) : Prop := XT.PureE (some (.int 0)) r s u
/-- an array as long as the number of chars: LATIN1 -/
theorem law (l : Launch) (d : Addr) (B : Cell) : Law l yN 2 2 0 0 yB 2 (some .byte) site (P d B) E [] 0 0 := by
  refine Law.of_walk (plainFor_of_name (by decide +kernel)) (by decide +kernel) (by decide +kernel) (by decide) (fun _ _ h => by rw [h.1]; rfl) (fun _ U U' hal hh h => ⟨h.1, h.2.mv hal hh⟩) (fun r U U' V V' h1 hal h2 h => XT.PureE.mv r U U' V V' h1 hal h2 h) ?_
  intro p e s m args below meth c s₁ X0 hexec hbytes hml hret hlk hnm hown hh0 W hP
  obtain ⟨rfl, hB⟩ := hP
  have hB0 := hB.mv X0.warmed.alike hh0
  have c1 : Steps p.tables e below (s₁.setTop (entryFrame m #[.ref d, .int (Int32.ofNat B.slots.size)] 2)) (s₁.setTop (mkF m 0 #[.val (.ref d), .val (.int (Int32.ofNat B.slots.size))] [])) := entry rfl
  have c2 : Steps p.tables e below (s₁.setTop (entryFrame m #[.ref d, .int (Int32.ofNat B.slots.size)] 2)) (s₁.setTop (mkF m 2 #[.val (.ref d), .val (.int (Int32.ofNat B.slots.size))] [.ref d, .int (Int32.ofNat B.slots.size)])) := c1.trans (by
    refine XS.iloadN X0.here hexec rfl (hb hbytes d0) rfl ?_
    refine XS.aloadN X0.here hexec rfl (hb hbytes d1) rfl rfl ?_
    exact Steps.refl _)
  have c3 : Steps p.tables e below (s₁.setTop (entryFrame m #[.ref d, .int (Int32.ofNat B.slots.size)] 2)) (s₁.setTop (mkF m 8 #[.val (.ref d), .val (.int (Int32.ofNat B.slots.size))] [.int (lo8 (ushr (Int32.ofNat B.slots.size - Int32.ofNat B.slots.size) 31))])) := c2.trans (by
    refine X0.alen hexec hB0 rfl rfl (hb hbytes d2) ?_
    refine XS.isub X0.here hexec rfl (hb hbytes d3) rfl ?_
    refine bipushV X0.here hexec rfl 31 (hb hbytes d4) (by decide) ?_
    refine iushr X0.here hexec rfl (hb hbytes d6) rfl ?_
    refine i2b X0.here hexec rfl (hb hbytes d7) rfl ?_
    exact Steps.refl _)
  have e0 : lo8 (ushr (Int32.ofNat B.slots.size - Int32.ofNat B.slots.size) 31) = 0 := by rw [Int32.sub_self]; decide
  rw [e0] at c3
  exact ⟨s₁, some (.int 0), _, _, _, X0, rfl, rfl, rfl, (fun h => by cases h), ⟨rfl, hh0⟩, fun fs hl => c3.trans (X0.ireturnOut hexec hret rfl (Or.inr (Or.inr (Or.inl rfl))) (hb hbytes d8) hl)⟩
end CodL
/-- the String at a is Latin-1 over a new byte[] (the heap's one new cell): the low bytes of the len chars of A from o on; every cell but a is kept -/
def Got (a : Addr) (D : Cell) (fV fC : Field) (A : Cell) (o len : Nat) (r : Option Value) (s u : State) : Prop := r = none ∧ ∃ D' V : Cell, Blank "java/lang/String" a D' u ∧ Same D D' [fV.slot, fC.slot] ∧ D'.slots[fV.slot]? = some (.ref s.heap.size) ∧ D'.slots[fC.slot]? = some (.int 0) ∧ Arr .byte s.heap.size V u ∧ V.vm = .none ∧ u.vm.findClass "[B" = some V.cls ∧ V.slots.size = len ∧ (∀ j, j < len → V.slots[j]? = some (.int (lo8 (cv A (o + j))))) ∧ (∀ (y : Addr) (c : Cell), y ≠ a → s.heap[y]? = some c → u.heap[y]? = some c) ∧ u.heap.size = s.heap.size + 1
theorem Got.mv {a : Addr} {D A : Cell} {fV fC : Field} {o len : Nat} : ∀ r (U U' V V' : State), U'.heap = U.heap → V.vm.Alike V'.vm → V'.heap = V.heap → Got a D fV fC A o len r U V → Got a D fV fC A o len r U' V' :=
  fun r U U' V V' h1 hal h2 ⟨e0, D', X, a1, a2, a3, a4, a5, a6, a7, a8, a9, a10, a11⟩ => ⟨e0, D', X, a1.mv hal h2, a2, by rw [h1]; exact a3, a4, by rw [h1]; exact a5.mv hal h2, a6, by rw [hal.findClass]; exact a7, a8, a9, by rw [h1, h2]; exact a10, by rw [h1, h2]; exact a11⟩
namespace New4
def yN : MethodName := ⟨"java/lang/String", "<init>", "([CIILjava/lang/Void;)V"⟩
abbrev yB : ByteArray := jdk_42_method_149_code
theorem d0 : decode yB 0 = .ok (.aload_n 0, 1) := by decide +kernel
theorem d1 : decode yB 1 = .ok (.invokespecial 1, 3) := by decide +kernel
theorem d4 : decode yB 4 = .ok (.iload_n 3, 1) := by decide +kernel
theorem d5 : decode yB 5 = .ok (.ifCond (.ne) 22, 3) := by decide +kernel
theorem d27 : decode yB 27 = .ok (.getstatic 38, 3) := by decide +kernel
theorem d30 : decode yB 30 = .ok (.ifCond (.eq) 28, 3) := by decide +kernel
theorem d33 : decode yB 33 = .ok (.aload_n 1, 1) := by decide +kernel
theorem d34 : decode yB 34 = .ok (.iload_n 2, 1) := by decide +kernel
theorem d35 : decode yB 35 = .ok (.iload_n 3, 1) := by decide +kernel
theorem d36 : decode yB 36 = .ok (.invokestatic 177, 3) := by decide +kernel
theorem d39 : decode yB 39 = .ok (.astore 5, 2) := by decide +kernel
theorem d41 : decode yB 41 = .ok (.aload_n 0, 1) := by decide +kernel
theorem d42 : decode yB 42 = .ok (.aload 5, 2) := by decide +kernel
theorem d44 : decode yB 44 = .ok (.iload_n 3, 1) := by decide +kernel
theorem d45 : decode yB 45 = .ok (.invokestatic 47, 3) := by decide +kernel
theorem d48 : decode yB 48 = .ok (.putfield 15, 3) := by decide +kernel
theorem d51 : decode yB 51 = .ok (.aload_n 0, 1) := by decide +kernel
theorem d52 : decode yB 52 = .ok (.aload 5, 2) := by decide +kernel
theorem d54 : decode yB 54 = .ok (.putfield 9, 3) := by decide +kernel
theorem d57 : decode yB 57 = .ok (.return_, 1) := by decide +kernel
def site : List Cond := [.fieldLink "java/lang/String" 38 "java/lang/String" "COMPACT_STRINGS" "Z", Cmp3.tab, CodL.tab, .laysFinal "java/lang/String" "java/lang/String" "value" "[B", .fieldLink "java/lang/String" 9 "java/lang/String" "value" "[B", .laysFinal "java/lang/String" "java/lang/String" "coder" "B", .fieldLink "java/lang/String" 15 "java/lang/String" "coder" "B"] ++ objW "java/lang/String" 1 ++ staticW "java/lang/String" 177 Cmp3.yN ++ staticW "java/lang/String" 47 CodL.yN
def tab : Cond := tabOf yN yB 6 none site
def P (a : Addr) (D : Cell) (fV fC : Field) (b : Addr) (A : Cell) (z : Int32) (o len : Nat) (args : Array Value) (s : State) : Prop := args = #[.ref a, .ref b, .int (Int32.ofNat o), .int (Int32.ofNat len), .null] ∧ Blank "java/lang/String" a D s ∧ Found "java/lang/String" "value" "[B" fV s ∧ Found "java/lang/String" "coder" "B" fC s ∧ Ch b A s ∧ StaticIs s "java/lang/String" "COMPACT_STRINGS" "Z" (.int z) ∧ ¬ z = 0 ∧ 0 < len ∧ o + len ≤ A.slots.size ∧ len ≤ 536870912 ∧ ∀ i, i < len → ¬ 255 < cv A (o + i)
def E (a : Addr) (D : Cell) (fV fC : Field) (A : Cell) (o len : Nat) (r : Option Value) (s u : State) : Prop := Got a D fV fC A o len r s u
/-- len > 0, no char of the range above 255: a Latin-1 String of their low bytes -/
theorem law (l : Launch) (a : Addr) (D : Cell) (fV fC : Field) (b : Addr) (A : Cell) (z : Int32) (o len : Nat) : Law l yN 5 4 2 35 yB 6 none site (P a D fV fC b A z o len) (E a D fV fC A o len) [⟨a, fC.slot⟩, ⟨a, fV.slot⟩] 1 len := by
  refine Law.of_walk (plainFor_of_name (by decide +kernel)) (by decide +kernel) (by decide +kernel) (by decide) (fun _ _ h => by rw [h.1]; rfl) (fun _ U U' hal hh h => ⟨h.1, h.2.1.mv hal hh, h.2.2.1.al hal, h.2.2.2.1.al hal, h.2.2.2.2.1.mv hal hh, h.2.2.2.2.2.1.there hal hh, h.2.2.2.2.2.2⟩) (fun r U U' V V' h1 hal h2 h => Got.mv r U U' V V' h1 hal h2 h) ?_
  intro p e s m args below meth c s₁ X0 hexec hbytes hml hret hlk hnm hown hh0 W hP
  obtain ⟨rfl, hB, f1, f2, hA, s1, hz, l0, l1, l2, hp⟩ := hP
  have a31 := hA.1.2.2.2
  have c1 : Steps p.tables e below (s₁.setTop (entryFrame m #[.ref a, .ref b, .int (Int32.ofNat o), .int (Int32.ofNat len), .null] 6)) (s₁.setTop (mkF m 0 #[.val (.ref a), .val (.ref b), .val (.int (Int32.ofNat o)), .val (.int (Int32.ofNat len)), .val .null, .unset] [])) := entry rfl
  have c2 : Steps p.tables e below (s₁.setTop (entryFrame m #[.ref a, .ref b, .int (Int32.ofNat o), .int (Int32.ofNat len), .null] 6)) (s₁.setTop (mkF m 1 #[.val (.ref a), .val (.ref b), .val (.int (Int32.ofNat o)), .val (.int (Int32.ofNat len)), .val .null, .unset] [.ref a])) := c1.trans (by
    refine XS.aloadN X0.here hexec rfl (hb hbytes d0) rfl rfl ?_
    exact Steps.refl _)
  obtain ⟨T3, X3, q3, st3⟩ := X0.oinit hexec hown (wks W (objW "java/lang/String" 1)) (g := (mkF m 1 #[.val (.ref a), .val (.ref b), .val (.int (Int32.ofNat o)), .val (.int (Int32.ofNat len)), .val .null, .unset] [.ref a])) rfl (by rw [hml]; rfl) (rest := []) rfl (hb hbytes d1) (W := 0) (by show 2 * 0 + 0 ≤ _; decide) (Nat.le_of_ble_eq_true rfl) (Nat.le_of_ble_eq_true rfl)
  have hh3 := q3.trans hh0
  have c4 : Steps p.tables e below (s₁.setTop (entryFrame m #[.ref a, .ref b, .int (Int32.ofNat o), .int (Int32.ofNat len), .null] 6)) (T3.setTop (mkF m 27 #[.val (.ref a), .val (.ref b), .val (.int (Int32.ofNat o)), .val (.int (Int32.ofNat len)), .val .null, .unset] [])) := (c2.trans (st3 _ (Steps.refl _))).trans (by
    refine XS.iloadN X3.here hexec rfl (hb hbytes d4) rfl ?_
    refine XS.ifYes X3.here hexec rfl (pc0 := 5) rfl (hb hbytes d5) rfl (i0_ne_t (nz32 (by omega) l0)) (by decide) rfl ?_
    exact Steps.refl _)
  obtain ⟨T5, X5, q5, st5⟩ := X3.sget hexec hown (wk W (.fieldLink "java/lang/String" 38 "java/lang/String" "COMPACT_STRINGS" "Z")) s1 (fun _ _ h => by rw [hh3]; exact h) (g := (mkF m 27 #[.val (.ref a), .val (.ref b), .val (.int (Int32.ofNat o)), .val (.int (Int32.ofNat len)), .val .null, .unset] [])) rfl (hb hbytes d27)
  have hh5 := q5.trans hh3
  have c6 : Steps p.tables e below (s₁.setTop (entryFrame m #[.ref a, .ref b, .int (Int32.ofNat o), .int (Int32.ofNat len), .null] 6)) (T5.setTop (mkF m 30 #[.val (.ref a), .val (.ref b), .val (.int (Int32.ofNat o)), .val (.int (Int32.ofNat len)), .val .null, .unset] [.int z])) := c4.trans (st5 _ (Steps.refl _))
  have c7 : Steps p.tables e below (s₁.setTop (entryFrame m #[.ref a, .ref b, .int (Int32.ofNat o), .int (Int32.ofNat len), .null] 6)) (T5.setTop (mkF m 36 #[.val (.ref a), .val (.ref b), .val (.int (Int32.ofNat o)), .val (.int (Int32.ofNat len)), .val .null, .unset] [.int (Int32.ofNat len), .int (Int32.ofNat o), .ref b])) := c6.trans (by
    refine XS.ifNo X5.here hexec rfl (hb hbytes d30) rfl (i0_eq_f hz) ?_
    refine XS.aloadN X5.here hexec rfl (hb hbytes d33) rfl rfl ?_
    refine XS.iloadN X5.here hexec rfl (hb hbytes d34) rfl ?_
    refine XS.iloadN X5.here hexec rfl (hb hbytes d35) rfl ?_
    exact Steps.refl _)
  obtain ⟨v8, T8, X8, E8, g8⟩ := X5.callS hexec (Cmp3.law l b A o len) hown (wks W (staticW "java/lang/String" 177 Cmp3.yN)) (wk W Cmp3.tab) (W := 0) (Nat.le_of_ble_eq_true rfl) (Nat.le_of_ble_eq_true rfl) (Nat.le_refl _) (by show 0 + len ≤ len; omega) (g := (mkF m 36 #[.val (.ref a), .val (.ref b), .val (.int (Int32.ofNat o)), .val (.int (Int32.ofNat len)), .val .null, .unset] [.int (Int32.ofNat len), .int (Int32.ofNat o), .ref b])) rfl (by rw [hml]; rfl) c7 (argsL := [.ref b, .int (Int32.ofNat o), .int (Int32.ofNat len)]) (rest := []) rfl rfl (by show 2 * 0 + 0 ≤ _; decide) (hb hbytes d36) (⟨rfl, hA.mv X5.warmed.alike hh5, l1, l2, hp⟩)
  obtain ⟨e8, z8⟩ := E8
  obtain ⟨rfl, N, n1, n2, n3, n4, n5, n6⟩ := NewArr.mv _ T5 s _ _ hh5.symm (Vm.Alike.refl _) rfl e8
  rw [hh5] at z8
  have hB1 := hB.keep X8.warmed.alike (n6 _ _ hB.1)
  have hne : s.heap.size ≠ a := (Nat.ne_of_lt (Array.getElem?_eq_some_iff.mp hB.1).1).symm
  have c9 : Steps p.tables e below (s₁.setTop (entryFrame m #[.ref a, .ref b, .int (Int32.ofNat o), .int (Int32.ofNat len), .null] 6)) (T8.setTop (mkF m 39 #[.val (.ref a), .val (.ref b), .val (.int (Int32.ofNat o)), .val (.int (Int32.ofNat len)), .val .null, .unset] [.ref s.heap.size])) := g8
  have c10 : Steps p.tables e below (s₁.setTop (entryFrame m #[.ref a, .ref b, .int (Int32.ofNat o), .int (Int32.ofNat len), .null] 6)) (T8.setTop (mkF m 45 #[.val (.ref a), .val (.ref b), .val (.int (Int32.ofNat o)), .val (.int (Int32.ofNat len)), .val .null, .val (.ref s.heap.size)] [.int (Int32.ofNat N.slots.size), .ref s.heap.size, .ref a])) := by
    have hc : Steps p.tables e below (s₁.setTop (entryFrame m #[.ref a, .ref b, .int (Int32.ofNat o), .int (Int32.ofNat len), .null] 6)) (T8.setTop (mkF m 45 #[.val (.ref a), .val (.ref b), .val (.int (Int32.ofNat o)), .val (.int (Int32.ofNat len)), .val .null, .val (.ref s.heap.size)] [.int (Int32.ofNat len), .ref s.heap.size, .ref a])) := c9.trans (by
      refine XS.astore X8.here hexec rfl (hb hbytes d39) rfl rfl rfl ?_
      refine XS.aloadN X8.here hexec rfl (hb hbytes d41) rfl rfl ?_
      refine XS.aload X8.here hexec rfl (hb hbytes d42) rfl rfl ?_
      refine XS.iloadN X8.here hexec rfl (hb hbytes d44) rfl ?_
      exact Steps.refl _)
    rw [n4]; exact hc
  obtain ⟨v11, T11, X11, E11, g11⟩ := X8.callS hexec (CodL.law l s.heap.size N) hown (wks W (staticW "java/lang/String" 47 CodL.yN)) (wk W CodL.tab) (W := 1) (Nat.le_of_ble_eq_true rfl) (Nat.le_of_ble_eq_true rfl) (Nat.le_refl _) (by show 0 + len + 0 ≤ len; omega) (g := (mkF m 45 #[.val (.ref a), .val (.ref b), .val (.int (Int32.ofNat o)), .val (.int (Int32.ofNat len)), .val .null, .val (.ref s.heap.size)] [.int (Int32.ofNat N.slots.size), .ref s.heap.size, .ref a])) rfl (by rw [hml]; rfl) c10 (argsL := [.ref s.heap.size, .int (Int32.ofNat N.slots.size)]) (rest := [.ref a]) rfl rfl (by show 2 * 0 + (1 + 0) ≤ _; decide) (hb hbytes d45) (⟨rfl, n1⟩)
  obtain ⟨rfl, q11⟩ := E11
  have hB11 := hB1.mv (X8.warmed.alike.symm.trans X11.warmed.alike) q11
  have c12 : Steps p.tables e below (s₁.setTop (entryFrame m #[.ref a, .ref b, .int (Int32.ofNat o), .int (Int32.ofNat len), .null] 6)) (T11.setTop (mkF m 48 #[.val (.ref a), .val (.ref b), .val (.int (Int32.ofNat o)), .val (.int (Int32.ofNat len)), .val .null, .val (.ref s.heap.size)] [.int 0, .ref a])) := g11
  obtain ⟨T13, X13, p13, bl13, sl13, st13⟩ := X11.finit hexec hown (wk W (.fieldLink "java/lang/String" 15 "java/lang/String" "coder" "B")) (Or.inr ⟨_, (wk W (.laysFinal "java/lang/String" "java/lang/String" "coder" "B"))⟩) (Or.inl ⟨rfl, hnm⟩) f2 (Or.inl rfl) hB11 (t := .byte) (by decide +kernel) rfl (g := (mkF m 48 #[.val (.ref a), .val (.ref b), .val (.int (Int32.ofNat o)), .val (.int (Int32.ofNat len)), .val .null, .val (.ref s.heap.size)] [.int 0, .ref a])) rfl (rest := []) rfl (hb hbytes d48)
  have c14 : Steps p.tables e below (s₁.setTop (entryFrame m #[.ref a, .ref b, .int (Int32.ofNat o), .int (Int32.ofNat len), .null] 6)) (T13.setTop (mkF m 54 #[.val (.ref a), .val (.ref b), .val (.int (Int32.ofNat o)), .val (.int (Int32.ofNat len)), .val .null, .val (.ref s.heap.size)] [.ref s.heap.size, .ref a])) := (c12.trans (st13 _ (Steps.refl _))).trans (by
    refine XS.aloadN X13.here hexec rfl (hb hbytes d51) rfl rfl ?_
    refine XS.aload X13.here hexec rfl (hb hbytes d52) rfl rfl ?_
    exact Steps.refl _)
  obtain ⟨T15, X15, p15, bl15, sl15, st15⟩ := X13.finit hexec hown (wk W (.fieldLink "java/lang/String" 9 "java/lang/String" "value" "[B")) (Or.inr ⟨_, (wk W (.laysFinal "java/lang/String" "java/lang/String" "value" "[B"))⟩) (Or.inl ⟨rfl, hnm⟩) f1 (Or.inl rfl) bl13 (t := (.array .byte)) (by decide +kernel) rfl (g := (mkF m 54 #[.val (.ref a), .val (.ref b), .val (.int (Int32.ofNat o)), .val (.int (Int32.ofNat len)), .val .null, .val (.ref s.heap.size)] [.ref s.heap.size, .ref a])) rfl (rest := []) rfl (hb hbytes d54)
  have c16 : Steps p.tables e below (s₁.setTop (entryFrame m #[.ref a, .ref b, .int (Int32.ofNat o), .int (Int32.ofNat len), .null] 6)) (T15.setTop (mkF m 57 #[.val (.ref a), .val (.ref b), .val (.int (Int32.ofNat o)), .val (.int (Int32.ofNat len)), .val .null, .val (.ref s.heap.size)] [])) := c14.trans (st15 _ (Steps.refl _))
  have ap := apart (Or.inr ⟨_, (wk W (.laysFinal "java/lang/String" "java/lang/String" "value" "[B"))⟩) (Or.inr ⟨_, (wk W (.laysFinal "java/lang/String" "java/lang/String" "coder" "B"))⟩) f1 f2 (t₁ := .array .byte) (t₂ := .byte) (by decide +kernel) (by decide +kernel) (by decide)
  have al := X8.warmed.alike.symm.trans X15.warmed.alike
  have n7 : T11.heap[s.heap.size]? = some N := by rw [q11]; exact n1.1
  exact ⟨T15, none, _, _, _, X15, by simp, rfl, by omega, (fun _ => rfl), ⟨rfl, _, N, bl15, ((Same.refl D _).set _ (by simp)).set _ (by simp), sl15, (Cell.slots_setSlot_ne _ ap).trans sl13, n1.keep al (p15.other hne (p13.other hne n7)), n2, by rw [al.findClass]; exact n3, n4, n5, fun y c h1 h2 => p15.other h1 (p13.other h1 (by rw [q11]; exact n6 y c h2)), by rw [p15.2.2, p13.2.2, q11]; exact z8⟩, fun fs hl => c16.trans (X15.returnOut hexec hret (hb hbytes d57) hl)⟩
end New4
namespace New1
def yN : MethodName := ⟨"java/lang/String", "<init>", "([C)V"⟩
abbrev yB : ByteArray := jdk_42_method_3_code
theorem d0 : decode yB 0 = .ok (.aload_n 0, 1) := by decide +kernel
theorem d1 : decode yB 1 = .ok (.aload_n 1, 1) := by decide +kernel
theorem d2 : decode yB 2 = .ok (.iconst 0, 1) := by decide +kernel
theorem d3 : decode yB 3 = .ok (.aload_n 1, 1) := by decide +kernel
theorem d4 : decode yB 4 = .ok (.arraylength, 1) := by decide +kernel
theorem d5 : decode yB 5 = .ok (.aconst_null, 1) := by decide +kernel
theorem d6 : decode yB 6 = .ok (.invokespecial 27, 3) := by decide +kernel
theorem d9 : decode yB 9 = .ok (.return_, 1) := by decide +kernel
def site : List Cond := [New4.tab] ++ initW "java/lang/String" 27 New4.yN
def tab : Cond := tabOf yN yB 2 none site
def P (a : Addr) (D : Cell) (fV fC : Field) (b : Addr) (A : Cell) (z : Int32) (args : Array Value) (s : State) : Prop := args = #[.ref a, .ref b] ∧ Blank "java/lang/String" a D s ∧ Found "java/lang/String" "value" "[B" fV s ∧ Found "java/lang/String" "coder" "B" fC s ∧ Ch b A s ∧ StaticIs s "java/lang/String" "COMPACT_STRINGS" "Z" (.int z) ∧ ¬ z = 0 ∧ 0 < A.slots.size ∧ A.slots.size ≤ 536870912 ∧ ∀ i, i < A.slots.size → ¬ 255 < cv A i
def E (a : Addr) (D : Cell) (fV fC : Field) (A : Cell) (r : Option Value) (s u : State) : Prop := Got a D fV fC A 0 A.slots.size r s u
/-- new String(chars), not empty, no char above 255: a Latin-1 String of their low bytes -/
theorem law (l : Launch) (a : Addr) (D : Cell) (fV fC : Field) (b : Addr) (A : Cell) (z : Int32) : Law l yN 2 1 3 52 yB 2 none site (P a D fV fC b A z) (E a D fV fC A) [⟨a, fC.slot⟩, ⟨a, fV.slot⟩] 1 A.slots.size := by
  refine Law.of_walk (plainFor_of_name (by decide +kernel)) (by decide +kernel) (by decide +kernel) (by decide) (fun _ _ h => by rw [h.1]; rfl) (fun _ U U' hal hh h => ⟨h.1, h.2.1.mv hal hh, h.2.2.1.al hal, h.2.2.2.1.al hal, h.2.2.2.2.1.mv hal hh, h.2.2.2.2.2.1.there hal hh, h.2.2.2.2.2.2⟩) (fun r U U' V V' h1 hal h2 h => Got.mv r U U' V V' h1 hal h2 h) ?_
  intro p e s m args below meth c s₁ X0 hexec hbytes hml hret hlk hnm hown hh0 W hP
  obtain ⟨rfl, hB, f1, f2, hA, s1, hz, l0, l2, hp⟩ := hP
  have c1 : Steps p.tables e below (s₁.setTop (entryFrame m #[.ref a, .ref b] 2)) (s₁.setTop (mkF m 0 #[.val (.ref a), .val (.ref b)] [])) := entry rfl
  have c2 : Steps p.tables e below (s₁.setTop (entryFrame m #[.ref a, .ref b] 2)) (s₁.setTop (mkF m 6 #[.val (.ref a), .val (.ref b)] [.null, .int (Int32.ofNat A.slots.size), .int 0, .ref b, .ref a])) := c1.trans (by
    refine XS.aloadN X0.here hexec rfl (hb hbytes d0) rfl rfl ?_
    refine XS.aloadN X0.here hexec rfl (hb hbytes d1) rfl rfl ?_
    refine iconstV X0.here hexec rfl 0 (hb hbytes d2) (by decide) ?_
    refine XS.aloadN X0.here hexec rfl (hb hbytes d3) rfl rfl ?_
    refine X0.alen hexec (hA.1.mv X0.warmed.alike hh0) rfl rfl (hb hbytes d4) ?_
    refine XS.aconstNull X0.here hexec rfl (hb hbytes d5) ?_
    exact Steps.refl _)
  obtain ⟨v3, T3, X3, E3, g3⟩ := X0.callN hexec (New4.law l a D fV fC b A z 0 A.slots.size) rfl hown (wks W (initW "java/lang/String" 27 New4.yN)) (W New4.tab (by simp only [site, List.mem_cons, List.mem_append, true_or, or_true])) (W := 0) (Nat.le_of_ble_eq_true rfl) (Nat.le_of_ble_eq_true rfl) (Nat.le_refl _) (by show 0 + A.slots.size ≤ A.slots.size; omega) (g := (mkF m 6 #[.val (.ref a), .val (.ref b)] [.null, .int (Int32.ofNat A.slots.size), .int (Int32.ofNat 0), .ref b, .ref a])) rfl (by rw [hml]; rfl) c2 (argsL := [.ref b, .int (Int32.ofNat 0), .int (Int32.ofNat A.slots.size), .null]) (rest := []) rfl rfl (by show 2 * 0 + 0 ≤ _; decide) (hb hbytes d6) (⟨rfl, hB.mv X0.warmed.alike hh0, f1.al X0.warmed.alike, f2.al X0.warmed.alike, hA.mv X0.warmed.alike hh0, s1.there X0.warmed.alike hh0, hz, l0, by omega, l2, fun i hi => by rw [Nat.zero_add]; exact hp i hi⟩)
  have e0 := Got.mv _ s₁ s _ _ hh0.symm (Vm.Alike.refl _) rfl E3
  obtain rfl := e0.1
  have c4 : Steps p.tables e below (s₁.setTop (entryFrame m #[.ref a, .ref b] 2)) (T3.setTop (mkF m 9 #[.val (.ref a), .val (.ref b)] [])) := g3
  exact ⟨T3, none, _, _, _, X3, by simp, rfl, by omega, (fun _ => rfl), e0, fun fs hl => c4.trans (X3.returnOut hexec hret (hb hbytes d9) hl)⟩
theorem pays {l : Launch} {R : Room} {p : Program} {e : Env} {below : List Frame} {s : State} {sargs : Array Value} {len W : Nat} (a : Addr) (D : Cell) (fV fC : Field) (b : Addr) (A : Cell) (z : Int32) (htab : tab.before sargs s = true) (hfr : 4 ≤ R.frames) (hlo : W + 65 ≤ R.locals) :
    Back l R p e below s sargs yN len W (fun A₁ a₁ => A₁.cells + 1 ≤ R.cells ∧ A₁.slots + A.slots.size ≤ R.slots ∧ P a D fV fC b A z a₁ A₁.U) (fun A₁ _ v₁ B₁ => E a D fV fC A v₁ A₁.U B₁.U ∧ B₁.locs = A₁.locs ++ [⟨a, fC.slot⟩, ⟨a, fV.slot⟩] ∧ B₁.cells = A₁.cells + 1 ∧ B₁.slots = A₁.slots + A.slots.size) :=
  (law l a D fV fC b A z).pays htab hfr (by omega)
end New1
end StrChars
namespace StrChars.Road
open Jvm Sem ClassFile Op Lib Jvm.Stand Jvm.Free Jvm.Free.XT
open Jvm.Lib.Cold (StaticIs)
abbrev ST : String := "java/lang/String"
/-- every table word that New1's law asks, flat -/
abbrev words : List Jvm.Cond := [.code New1.yN New1.yB 2 none, .initialized ST, .methodLink ST 27 New4.yN, .instanceMethod New4.yN,
  .code New4.yN New4.yB 6 none, .fieldLink ST 38 ST "COMPACT_STRINGS" "Z", .laysFinal ST ST "value" "[B", .fieldLink ST 9 ST "value" "[B", .laysFinal ST ST "coder" "B", .fieldLink ST 15 ST "coder" "B",
  .methodLink ST 1 Lib.objectInit, .instanceMethod Lib.objectInit, .code Lib.objectInit ⟨#[0xb1]⟩ 1 none, .methodLink ST 177 Cmp3.yN, .static Cmp3.yN, .methodLink ST 47 CodL.yN, .static CodL.yN,
  .code Cmp3.yN Cmp3.yB 6 (some (.array .byte)), .initialized U16, .arrayClass .byte, .methodLink U16 115 Cmp5.yN, .static Cmp5.yN, .code Cmp5.yN Cmp5.yB 7 (some .int), .code CodL.yN CodL.yB 2 (some .byte)]
theorem tab_of {a : Array Value} {s : State} (h : ∀ w ∈ words, w.before a s = true) : New1.tab.before a s = true := by
  have h5 : Cmp5.tab.before a s = true := unparts (wk h (.code Cmp5.yN Cmp5.yB 7 (some .int))) (wks h (.initialized Cmp5.yN.cls :: Cmp5.site))
  have hc : CodL.tab.before a s = true := unparts (wk h (.code CodL.yN CodL.yB 2 (some .byte))) (wks h (.initialized CodL.yN.cls :: CodL.site))
  have q5 : ∀ w ∈ Cmp5.tab :: words, w.before a s = true := fun w hw => (List.mem_cons.mp hw).elim (fun e => e ▸ h5) (h w)
  have h3 : Cmp3.tab.before a s = true := unparts (wk q5 (.code Cmp3.yN Cmp3.yB 6 (some (.array .byte)))) (wks q5 (.initialized Cmp3.yN.cls :: Cmp3.site))
  have q3 : ∀ w ∈ Cmp3.tab :: CodL.tab :: words, w.before a s = true := fun w hw => (List.mem_cons.mp hw).elim (fun e => e ▸ h3) fun hw => (List.mem_cons.mp hw).elim (fun e => e ▸ hc) (h w)
  have h4 : New4.tab.before a s = true := unparts (wk q3 (.code New4.yN New4.yB 6 none)) (wks q3 (.initialized New4.yN.cls :: New4.site))
  have q4 : ∀ w ∈ New4.tab :: words, w.before a s = true := fun w hw => (List.mem_cons.mp hw).elim (fun e => e ▸ h4) (h w)
  exact unparts (wk q4 (.code New1.yN New1.yB 2 none)) (wks q4 (.initialized New1.yN.cls :: New1.site))
/-- the words ride from the start Z to the walk's own state -/
theorem moved {Z s : State} {a0 args : Array Value} (hZ : Z.Warmed39 s.vm) (hw : ∀ d ∈ words, d.before a0 Z = true) : ∀ d ∈ words, d.before args s = true := fun d hd => by
  have q := hw d hd
  have t : ∀ d ∈ words, d = .arrayClass .byte ∨ (d.onTables && d.keepsFace) = true := by decide +kernel
  rcases t d hd with rfl | t
  · exact RoadKit.mvA hZ q
  · exact RoadKit.mv hZ q t
/-- WHAT COMES BACK, over the tables of the start Z: h the heap at the call, h' behind it -/
def Q (Z : State) (x : Addr) (A : Cell) (h : Heap) (v : Option Value) (h' : Heap) (L : List Loc) : Prop := v = none ∧ (∀ y ∈ L, y.base = x) ∧ RoadKit.Keep h h' [x] ∧ h'.size = h.size + 1 ∧ RoadKit.Exa Z h' x ST ∧ RoadKit.Fld Z h' x ST "value" "[B" (.ref h.size) ∧ RoadKit.Fld Z h' x ST "coder" "B" (.int 0) ∧
  (∃ V : Cell, RoadKit.Arr Z h' h.size V .byte ∧ V.vm = .none ∧ Z.vm.findClass "[B" = some V.cls ∧ V.slots.size = A.slots.size ∧ ∀ j, j < A.slots.size → V.slots[j]? = some (.int (lo8 (cv A j)))) ∧
  ∀ (O n d : String) (w : Value), RoadKit.Fld Z h x O n d w → RoadKit.slotOf Z O n d ≠ RoadKit.slotOf Z ST "value" "[B" → RoadKit.slotOf Z O n d ≠ RoadKit.slotOf Z ST "coder" "B" → RoadKit.Fld Z h' x O n d w
/-- **new String(chars) AT A CALL, IN THE ROAD'S FORM**: for specialBack behind newO: x the fresh String, b the char[] with the cell A -/
theorem back {p : Program} {l : Launch} {e : Env} {R : Room} {s : State} {args : Array Value} {below : List Frame} {len W : Nat} {Z : State} {a0 : Array Value} {h : Heap} (hZ : Z.Warmed39 s.vm) (hw : ∀ d ∈ words, d.before a0 Z = true) {kI : Nat} (wi : (Jvm.Cond.instantiable ST kI).before a0 Z = true)
    {x b : Addr} {A : Cell} {z : Int32} {v0 c0 : Value} (E : RoadKit.Exa Z h x ST) (V : RoadKit.Fld Z h x ST "value" "[B" v0) (C : RoadKit.Fld Z h x ST "coder" "B" c0) (K : RoadKit.Arr Z h b A .char) (hty : Typed .char A) (S : RoadKit.Sta Z h ST "COMPACT_STRINGS" "Z" (.int z)) (hz : ¬ z = 0)
    (l0 : 0 < A.slots.size) (l2 : A.slots.size ≤ 536870912) (hp : ∀ i, i < A.slots.size → ¬ 255 < cv A i) (hfr : 4 ≤ R.frames) (hlo : W + 65 ≤ R.locals) :
    Back l R p e below s args New1.yN len W (fun P a => a = #[.ref x, .ref b] ∧ P.U.heap = h ∧ P.cells + 1 ≤ R.cells ∧ P.slots + A.slots.size ≤ R.slots)
      (fun P _ v B => ∃ L, Q Z x A h v B.U.heap L ∧ B.locs = P.locs ++ L ∧ B.cells = P.cells + 1 ∧ B.slots = P.slots + A.slots.size) := by
  intro m meth c P g ig mk a X hg hsize hdg hW hn hp'
  obtain ⟨rfl, rfl, r1, r2⟩ := hp'
  have al : Z.vm.Alike P.U.vm := hZ.alike.trans X.warmed.alike
  obtain ⟨D, cfV, kV, iV, fV, hD, gV, stV, knV, obV, asV, slV⟩ := id V
  obtain ⟨D', cfC, kC, iC, fC, hD', gC, stC, -, -, asC, slC⟩ := id C
  cases hD.symm.trans hD'
  obtain ⟨D2, kD, e1, e2, e3, e4, e5⟩ := id E
  cases hD.symm.trans e1
  obtain ⟨c2, k2, i1, i2, i3, -⟩ := Cond.instantiable_spec wi
  cases e2.symm.trans i1
  cases e3.symm.trans i2
  obtain ⟨kU, u1, u2⟩ := al.2.2 _ _ e3
  have hB : Blank ST x D P.U := ⟨hD, ⟨knV, fun q hq => by rw [hq] at obV; cases obV⟩, by rw [al.findClass]; exact e2, kU, u1, by rw [u2]; exact i3, by rw [u2]; exact e5 i3⟩
  have F1 : Found ST "value" "[B" fV P.U := ⟨SBG.found_only al ⟨cfV, kV, iV, gV⟩, stV⟩
  have F2 : Found ST "coder" "B" fC P.U := ⟨SBG.found_only al ⟨cfC, kC, iC, gC⟩, stC⟩
  have hA : Ch b A P.U := ⟨⟨K.1, State.isArrayOf_alike al K.2.1, K.2.2, by omega⟩, hty⟩
  have hS : StaticIs P.U ST "COMPACT_STRINGS" "Z" (.int z) := by
    obtain ⟨cfS, iS, kS, fS, st, cS, t1, t2, t3, t4, t5, t6, t7⟩ := S
    exact StaticIs.there (s := { Z with heap := P.U.heap }) ⟨cfS, iS, kS, fS, st, cS, t1, t2, t3, t4, t5, (fun q => by rw [q] at t6; cases t6), t7⟩ al rfl
  obtain ⟨v, B, X', ⟨⟨hv, E', V', q1, q2, q3, q4, q5, q6, q7, q8, q9, q10, q11⟩, hl, hc, hs⟩, st⟩ := New1.pays x D fV fC b A z (tab_of (moved hZ hw)) hfr hlo m meth c P g ig mk _ X hg hsize hdg hW hn ⟨r1, r2, rfl, hB, F1, F2, hA, hS, hz, l0, l2, hp⟩
  have al' : Z.vm.Alike B.U.vm := hZ.alike.trans X'.warmed.alike
  have hsz : E'.slots.size = D.slots.size := by
    obtain ⟨-, -, -, kB, w1, w2, w3⟩ := q1
    obtain ⟨kB', y1, y2⟩ := al'.2.2 _ _ e3
    rw [q2.2.1] at w1
    cases w1.symm.trans y1
    rw [w3, e5 i3, y2]
  refine ⟨v, B, X', ⟨_, ⟨hv, ?_, ⟨by omega, fun y cy hy hn' => q10 y cy (by simpa using hn') hy, fun y cy hy => ?_⟩, q11, ⟨E', _, q1.1, by rw [q2.2.1]; exact e2, by rw [q2.2.1]; exact e3, by rw [q2.1]; exact obV, fun _ => by rw [hsz]; exact e5 i3⟩,
    ⟨E', cfV, kV, iV, fV, q1.1, gV, stV, by rw [q2.1]; exact knV, by rw [q2.1]; exact obV, by rw [q2.2.1]; exact asV, q3⟩, ⟨E', cfC, kC, iC, fC, q1.1, gC, stC, by rw [q2.1]; exact knV, by rw [q2.1]; exact obV, by rw [q2.2.1]; exact asC, q4⟩,
    ⟨V', ⟨q5.1, State.isArrayOf_alike al'.symm q5.2.1, q5.2.2.1⟩, q6, by rw [← al'.findClass]; exact q7, q8, fun j hj => by have := q9 j hj; rwa [Nat.zero_add] at this⟩, fun O n d w F n1 n2 => ?_⟩, hl, hc, hs⟩, st⟩
  · intro y hy
    simp only [List.mem_cons, List.not_mem_nil, or_false] at hy
    rcases hy with rfl | rfl <;> rfl
  · by_cases q : y = x
    · subst q
      cases hD.symm.trans hy
      exact ⟨E', q1.1, q2.2.1, q2.1, hsz⟩
    · exact ⟨cy, q10 y cy q hy, rfl, rfl, rfl⟩
  · obtain ⟨D3, cf, k, i, f, g1, g2, g3, g4, g5, g6, g7⟩ := F
    cases hD.symm.trans g1
    simp only [RoadKit.slotOf, g2, gV, gC, Option.map_some, Option.getD_some] at n1 n2
    exact ⟨E', cf, k, i, f, q1.1, g2, g3, by rw [q2.1]; exact g4, by rw [q2.1]; exact g5, by rw [q2.2.1]; exact g6, by rw [q2.2.2 f.slot (by simp [n1, n2])]; exact g7⟩
end StrChars.Road
namespace StrChars.Road
open Jvm Sem ClassFile Op Lib Jvm.Stand Jvm.Free Jvm.Free.XT
/-- WHAT COMES BACK, the byte[] as a list of values -/
def QA (Z : State) (x : Addr) (zn : Int32) (cs : List Int32) (h : Heap) (v : Option Value) (h' : Heap) (L : List Loc) : Prop := v = none ∧ (∀ y ∈ L, y.base = x) ∧ RoadKit.Keep h h' [x] ∧ h'.size = h.size + 1 ∧ RoadKit.Exa Z h' x ST ∧ RoadKit.Fld Z h' x ST "value" "[B" (.ref h.size) ∧ RoadKit.Fld Z h' x ST "coder" "B" (.int 0) ∧
  (∃ kb, Z.vm.findClass "[B" = some kb ∧ RoadKit.Arv Z h' h.size kb .byte zn (cs.map fun c => .int (lo8 c)) (.int 0)) ∧
  ∀ (O n d : String) (w : Value), RoadKit.Fld Z h x O n d w → RoadKit.slotOf Z O n d ≠ RoadKit.slotOf Z ST "value" "[B" → RoadKit.slotOf Z O n d ≠ RoadKit.slotOf Z ST "coder" "B" → RoadKit.Fld Z h' x O n d w
/-- **new String(chars) AT A CALL, THE ARRAYS AS LISTS**: the char[] at b holds cs, not empty, no char above 255 -/
theorem backArv {p : Program} {l : Launch} {e : Env} {R : Room} {s : State} {args : Array Value} {below : List Frame} {len W : Nat} {Z : State} {a0 : Array Value} {h : Heap} (hZ : Z.Warmed39 s.vm) (hw : ∀ d ∈ words, d.before a0 Z = true) {kI : Nat} (wi : (Jvm.Cond.instantiable ST kI).before a0 Z = true)
    {x b : Addr} {k : ClassId} {zn z : Int32} {cs : List Int32} {dv v0 c0 : Value} (E : RoadKit.Exa Z h x ST) (V : RoadKit.Fld Z h x ST "value" "[B" v0) (C : RoadKit.Fld Z h x ST "coder" "B" c0) (K : RoadKit.Arv Z h b k .char zn (cs.map Value.int) dv) (S : RoadKit.Sta Z h ST "COMPACT_STRINGS" "Z" (.int z)) (hz : ¬ z = 0)
    (hlen : zn.toNatClampNeg = cs.length) (h0 : 0 < cs.length) (hbig : cs.length ≤ 536870912) (hall : ∀ c ∈ cs, ¬ 255 < c) (hfr : 4 ≤ R.frames) (hlo : W + 65 ≤ R.locals) :
    Back l R p e below s args New1.yN len W (fun P a => a = #[.ref x, .ref b] ∧ P.U.heap = h ∧ P.cells + 1 ≤ R.cells ∧ P.slots + cs.length ≤ R.slots)
      (fun P _ v B => ∃ L, QA Z x zn cs h v B.U.heap L ∧ B.locs = P.locs ++ L ∧ B.cells = P.cells + 1 ∧ B.slots = P.slots + cs.length) := by
  obtain ⟨A, K1, K2, K3, K4, K5, K6⟩ := K
  have e : A.slots.size = cs.length := K3.trans hlen
  have hat : ∀ (i : Nat) (hi : i < cs.length), A.slots[i]? = some (.int cs[i]) := fun i hi => by rw [K5 i (by omega)]; simp [List.getD_eq_getElem?_getD, hi]
  have hcv : ∀ (i : Nat) (hi : i < cs.length), cv A i = cs[i] := fun i hi => by unfold cv; rw [hat i hi]
  have hty : Typed .char A := fun i v hv => by
    have hi : i < A.slots.size := (Array.getElem?_eq_some_iff.mp hv).1
    have q := K5 i hi
    rw [hv] at q
    rw [Option.some.inj q]
    exact K6 i hi
  refine Back.mono (back hZ hw wi E V C K1 hty S hz (by omega) (by omega) (fun i hi => by rw [hcv i (by omega)]; exact hall _ (List.getElem_mem _)) hfr hlo) (fun P a hp => ⟨hp.1, hp.2.1, hp.2.2.1, by rw [e]; exact hp.2.2.2⟩) (fun P a v B hp hq => ?_)
  obtain ⟨L, ⟨q1, q2, q3, q4, q5, q6, q7, ⟨V', v1, v2, v3, v4, v5⟩, q9⟩, hl, hc, hs⟩ := hq
  refine ⟨L, ⟨q1, q2, q3, q4, q5, q6, q7, ⟨V'.cls, v3, V', v1, rfl, by rw [v4, e, hlen], K4, fun i hi => ?_, fun i hi => ?_⟩, q9⟩, hl, hc, by rw [hs, e]⟩
  · have hi' : i < cs.length := by omega
    rw [v5 i (by omega), hcv i hi']; simp [List.getD_eq_getElem?_getD, hi']
  · have hi' : i < cs.length := by omega
    simp only [List.getD_eq_getElem?_getD, List.getElem?_map, List.getElem?_eq_getElem hi', Option.map_some, Option.getD_some]
    exact fits_lo8 _
end StrChars.Road
namespace StrChars.Road
open Jvm Sem ClassFile Op Lib Jvm.Stand Jvm.Free Jvm.Free.XT
/-- WHAT COMES BACK, in the writer's own shape -/
def QV (Z : State) (x : Addr) (N : Int32) (bs : List Int32) (h : Heap) (n0 : Nat) (v : Option Value) (h' : Heap) (L : List Loc) : Prop := v = none ∧ RoadKit.Fr n0 L ∧ RoadKit.Keep h h' [x] ∧ RoadKit.Exa Z h' x ST ∧ RoadKit.Fld Z h' x ST "coder" "B" (.int 0) ∧
  ∃ (t : Addr) (kb : ClassId), n0 ≤ t ∧ h.size ≤ t ∧ ¬ t = x ∧ RoadKit.Fld Z h' x ST "value" "[B" (.ref t) ∧ RoadKit.Arv Z h' t kb .byte N (bs.map Value.int) (.int 0)
/-- **new String(chars) AT A CALL, FOR THE WRITER**: a char[] of n known ints, each 0 to 255 -/
theorem backV {p : Program} {l : Launch} {e : Env} {R : Room} {s : State} {args : Array Value} {below : List Frame} {len W : Nat} {Z : State} {a0 : Array Value} {h : Heap} (hZ : Z.Warmed39 s.vm) (hw : ∀ d ∈ words, d.before a0 Z = true) {kI : Nat} (wi : (Jvm.Cond.instantiable ST kI).before a0 Z = true)
    {x b : Addr} {kC : ClassId} {cs bs : List Int32} {d v0 c0 : Value} {z N : Int32} {n n0 : Nat} (hx0 : n0 ≤ x) (hh0 : n0 ≤ h.size) (E : RoadKit.Exa Z h x ST) (V : RoadKit.Fld Z h x ST "value" "[B" v0) (C : RoadKit.Fld Z h x ST "coder" "B" c0) (K : RoadKit.Arv Z h b kC .char N (cs.map Value.int) d) (S : RoadKit.Sta Z h ST "COMPACT_STRINGS" "Z" (.int z)) (hz : ¬ z = 0)
    (hn : cs.length = n) (hN : N = Int32.ofNat n) (l0 : 0 < n) (l2 : n ≤ 4000) (hp : ∀ c ∈ cs, ¬ c < 0 ∧ ¬ (255 : Int32) < c) (hb : bs = cs.map (fun c => c.toInt8.toInt32)) (hfr : 4 ≤ R.frames) (hlo : W + 65 ≤ R.locals) :
    Back l R p e below s args (⟨"java/lang/String", "<init>", "([C)V"⟩ : MethodName) len W (fun P a => a = #[.ref x, .ref b] ∧ P.U.heap = h ∧ P.cells + 1 ≤ R.cells ∧ P.slots + n ≤ R.slots)
      (fun P _ v B => ∃ L, QV Z x N bs h n0 v B.U.heap L ∧ B.locs = P.locs ++ L ∧ B.cells = P.cells + 1 ∧ B.slots = P.slots + n) := by
  subst hn hN hb
  refine Back.mono (backArv hZ hw wi E V C K S hz (n32 (by omega)) l0 (by omega) (fun c hc => (hp c hc).2) hfr hlo) (fun P a hp => hp) (fun P a v B hp hq => ?_)
  obtain ⟨L, ⟨q1, q2, q3, q4, q5, q6, q7, ⟨kb, v1, v2⟩, q9⟩, hl, hc, hs⟩ := hq
  exact ⟨L, ⟨q1, fun y hy => by rw [q2 y hy]; exact hx0, q3, q5, q7, h.size, kb, hh0, Nat.le_refl _, Nat.ne_of_gt E.lt, q6, by rw [List.map_map]; exact v2⟩, hl, hc, hs⟩
end StrChars.Road
end Jvm.Pilot.@@N@@
namespace Jvm.RoadKit
open Sem ClassFile Op Lib Jvm.Stand Jvm.Free Jvm.LawKit
section New
variable {p : Program} {l : Launch} {e : Env} {R : Room} {s : State} {m : MethodId} {args : Array Value} {below : List Frame} {meth : Method} {c : Code} {T : State} {locs : List Loc} {cells slots : Nat}
theorem retI (X : Stand p l e R s m args below meth c T locs cells slots) (hx : p.tables.exec = Jvm.exec) {pc : Nat} {Ls : Array Slot} {z : Int32} {rest : List Value} (hret : meth.sig.returnType = some .int) (hd : decode c.code pc = .ok (.ireturn, 1)) {fs : List Frame}
    (hl : ∀ (f : JFrame) (acts : List Action), f.method = m → f.locked = none → f.entered = [] → (doReturn e (T.setTop f) acts (some (.int z))).1 = T.setFrames fs) : Steps p.tables e below (T.setTop (mkF m pc Ls (.int z :: rest))) (T.setFrames fs) := by
  have hm' : T.vm.method? m = some meth := X.method'
  have hn : narrow .int (.int z) = .int z := rfl
  show Steps p.tables e below (T.setTop { method := m, pc := pc, locals := Ls, stack := _ :: rest, locked := none }) _
  jvm_step X.here [X.here.top, hx, hd, hm', hret, hn]
  first | (intro acts; rw [hl _ acts rfl rfl rfl]) | rw [hl _ _ rfl rfl rfl]
  exact Steps.refl _
end New
end Jvm.RoadKit
namespace Jvm.Pilot.@@N@@
open Jvm Jvm.ClassFile Sem Op Lib Jvm.Free Jvm.Stand Jvm.LawKit Jvm.RoadKit Bundle Jvm.Pilot.@@N@@.Jvm.D
/-- the rest of a run, in passing style: some state is come to at which F holds -/
def Go (p : Program) (e : Env) (below : List Frame) (F : State → Outcome → Prop) (t : State) : Prop := ∃ u o, Steps p.tables e below t u ∧ F u o
theorem Go.back {p : Program} {e : Env} {below : List Frame} {F : State → Outcome → Prop} {t t' : State} (k : ∀ u, Steps p.tables e below t' u → Steps p.tables e below t u) (h : Go p e below F t') : Go p e below F t := by
  obtain ⟨u, o, h1, h2⟩ := h
  exact ⟨u, o, k u h1, h2⟩
def own_F (s : State) (below : List Frame) (Q : Option Value → Heap → List Loc → Prop) (cells slots : Nat) (u : State) (o : Outcome) : Prop := u.status = .running ∧ Ended u below o ∧ ∃ v L, o = .returned v ∧ Q v u.heap L ∧ FrameEnd s o u L cells slots
def own_FW (s : State) (below : List Frame) (Q : Option Value → Heap → List Loc → Prop) (cells slots : Nat) (u : State) (o : Outcome) : Prop := u.status = .running ∧ Ended u below o ∧ ∃ v L, o = .returned v ∧ Q v u.heap L ∧ ReturnedEndW s o u L cells slots
theorem own_field {args : Array Value} {s : State} {t : Term} {C n d : String} {x : Addr} {v : Value} (h : t.eval args s none [] s = some (.ref x)) (h2 : (Term.field t C n d).eval args s none [] s = some v) : s.fieldOf? x C n d = some v := by
  simpa [Term.eval, h] using h2
theorem own_bit {x : Int32} (h : x = 0 ∨ x = 1) : narrow .boolean (.int x) = .int x ∧ fits .boolean (.int x) = true := by
  rcases h with rfl | rfl <;> decide
theorem own_pn0 : plainName "java/util/AbstractCollection" = true := by first | (simp [plainName, overriddenIn]; done) | decide +kernel
theorem own_d9_0 : decode jdk_22_method_1_code 0 = .ok (.aload_n 0, 1) := by decide +kernel
theorem own_d9_1 : decode jdk_22_method_1_code 1 = .ok (.invokespecial 1, 3) := by decide +kernel
theorem own_d9_4 : decode jdk_22_method_1_code 4 = .ok (.return_, 1) := by decide +kernel
theorem own_ef_own_acInit (m : MethodId) (x0 : Addr) : entryFrame m #[(.ref x0)] 1 = mkF m 0 #[.val (.ref x0)] [] := by first | (simp [entryFrame, mkF, argsToLocals, Value.category]; done) | rfl
def Q_own_acInit (Z : State) (a : Addr) (h0 : Heap) (n0 : Nat) (v : Option Value) (h : Heap) (L : List Loc) : Prop := v = none ∧ Fr n0 L ∧ h = h0
set_option maxRecDepth 65536 in
set_option maxHeartbeats 40000000 in
theorem own_acInit (l : Launch) (Z : State) (a0 : Array Value) (hw : ∀ d ∈ tables_1, d.before a0 Z = true) (ws : List Jvm.Cond) (a : Addr) (h0 : Heap) (n0 : Nat) (Z0 : n0 ≤ h0.size) :
    MetFree l (⟨"java/util/AbstractCollection", "<init>", "()V"⟩ : MethodName) (head1 (Jvm.Cond.code (⟨"java/util/AbstractCollection", "<init>", "()V"⟩ : MethodName) jdk_22_method_1_code 1 none :: ws) ({ frames := 1, cells := 0, slots := 0, locals := 12 } : Room)) (fun as_ U => as_ = #[(.ref a)] ∧ Z.Warmed39 U.vm ∧ U.heap = h0) (fun _ _ _ _ _ => True) (fun _ U o U' => ∃ v L, o = .returned v ∧ Q_own_acInit Z a h0 n0 v U'.heap L ∧ FrameEnd U o U' L ({ frames := 1, cells := 0, slots := 0, locals := 12 } : Room).cells ({ frames := 1, cells := 0, slots := 0, locals := 12 } : Room).slots) := by
  refine MetFree.of_bodySF (plainFor_of_name own_pn0) hisR ?_
  intro p e s m args below meth c s₁ Bd hml0 hP hK
  obtain ⟨rfl, hZ, hh⟩ := hP
  have hx := Bd.exec
  have hby := Bd.bytes
  have hml : c.maxLocals = 1 := hml0
  have hown : s.vm.findClass "java/util/AbstractCollection" = some m.cls := findClass_of_methodNamed Bd.named
  have hnm := (name_of_methodNamed Bd.named Bd.method).1
  have X0 : Stand p l e ({ frames := 1, cells := 0, slots := 0, locals := 12 } : Room) s m #[(.ref a)] below meth c s₁ [] 0 0 := Stand.of_body Bd
  have e0 : s₁.heap = h0 := by rw [← hh, Bd.state]; rfl
  have N0 := Fr.nil n0
  have K0 := Keep.refl h0 []
  show Go p e below (own_F s below (Q_own_acInit Z a h0 n0) ({ frames := 1, cells := 0, slots := 0, locals := 12 } : Room).cells ({ frames := 1, cells := 0, slots := 0, locals := 12 } : Room).slots) (s₁.setTop (entryFrame m #[(.ref a)] 1))
  rw [own_ef_own_acInit m a]
  refine Go.back (t' := (s₁.setTop (mkF m 1 #[.val (.ref a)] [(.ref a)]))) (fun u k => XS.aloadN X0.here hx rfl (hb hby own_d9_0) rfl rfl k) ?_
  obtain ⟨T1, X1, e1, st1⟩ := initO X0 hx hZ hown (hw _ (List.mem_of_getElem? (i := 51) rfl)) (hw _ (List.mem_of_getElem? (i := 12) rfl)) (hw _ (List.mem_of_getElem? (i := 13) rfl)) e0 (g := (mkF m 1 #[.val (.ref a)] [(.ref a)])) rfl (by rw [hml]; rfl) rfl (hb hby own_d9_1) (by decide) (W := 0) (by show 2 * 0 + _ ≤ _; exact Nat.le_of_eq rfl) (by decide)
  refine Go.back (t' := (T1.setTop (mkF m 4 #[.val (.ref a)] []))) st1 ?_
  obtain ⟨fs, hr, hrun, hended, hW, hsame⟩ := X1.leave (v := none) (fun _ => rfl)
  refine ⟨_, _, X1.returnOut hx Bd.returns (hb hby own_d9_4) hr, hrun, hended, _, _, rfl, ?_, ⟨_, rfl⟩, hW, hsame.mono (by decide) (by decide)⟩
  show Q_own_acInit Z a h0 n0 _ T1.heap _
  rw [e1]
  exact ⟨rfl, N0, rfl⟩
theorem own_pd0 : parseMethodDescriptor "()V" = some ⟨[], none⟩ := by decide +kernel
theorem own_pn1 : plainName "java/util/AbstractList" = true := by first | (simp [plainName, overriddenIn]; done) | decide +kernel
theorem own_d8_0 : decode jdk_39_method_1_code 0 = .ok (.aload_n 0, 1) := by decide +kernel
theorem own_d8_1 : decode jdk_39_method_1_code 1 = .ok (.invokespecial 1, 3) := by decide +kernel
theorem own_d8_4 : decode jdk_39_method_1_code 4 = .ok (.aload_n 0, 1) := by decide +kernel
theorem own_d8_5 : decode jdk_39_method_1_code 5 = .ok (.iconst 0, 1) := by decide +kernel
theorem own_d8_6 : decode jdk_39_method_1_code 6 = .ok (.putfield 7, 3) := by decide +kernel
theorem own_d8_9 : decode jdk_39_method_1_code 9 = .ok (.return_, 1) := by decide +kernel
theorem own_ef_own_abInit (m : MethodId) (x0 : Addr) : entryFrame m #[(.ref x0)] 1 = mkF m 0 #[.val (.ref x0)] [] := by first | (simp [entryFrame, mkF, argsToLocals, Value.category]; done) | rfl
def Q_own_abInit (Z : State) (a : Addr) (h0 : Heap) (n0 : Nat) (v : Option Value) (h : Heap) (L : List Loc) : Prop := v = none ∧ Fr n0 L ∧ Keep h0 h [a] ∧ Exa Z h a "java/util/ArrayList" ∧ Fld Z h a "java/util/ArrayList" "elementData" "[Ljava/lang/Object;" .null
set_option maxRecDepth 65536 in
set_option maxHeartbeats 40000000 in
theorem own_abInit (l : Launch) (Z : State) (a0 : Array Value) (hw : ∀ d ∈ tables_1, d.before a0 Z = true) (ws : List Jvm.Cond) (a : Addr) (h0 : Heap) (n0 : Nat) (Z0 : n0 ≤ h0.size) (E_a : Exa Z h0 a "java/util/ArrayList") (F_a_modCount : Fld Z h0 a "java/util/AbstractList" "modCount" "I" (.int (0 : Int32))) (F_a_elementData : Fld Z h0 a "java/util/ArrayList" "elementData" "[Ljava/lang/Object;" .null) (g_a : n0 ≤ a) :
    MetFree l (⟨"java/util/AbstractList", "<init>", "()V"⟩ : MethodName) (head1 (Jvm.Cond.code (⟨"java/util/AbstractList", "<init>", "()V"⟩ : MethodName) jdk_39_method_1_code 1 none :: ws) ({ frames := 2, cells := 0, slots := 0, locals := 24 } : Room)) (fun as_ U => as_ = #[(.ref a)] ∧ Z.Warmed39 U.vm ∧ U.heap = h0) (fun _ _ _ _ _ => True) (fun _ U o U' => ∃ v L, o = .returned v ∧ Q_own_abInit Z a h0 n0 v U'.heap L ∧ FrameEnd U o U' L ({ frames := 2, cells := 0, slots := 0, locals := 24 } : Room).cells ({ frames := 2, cells := 0, slots := 0, locals := 24 } : Room).slots) := by
  refine MetFree.of_bodySF (plainFor_of_name own_pn1) hisR ?_
  intro p e s m args below meth c s₁ Bd hml0 hP hK
  obtain ⟨rfl, hZ, hh⟩ := hP
  have hx := Bd.exec
  have hby := Bd.bytes
  have hml : c.maxLocals = 1 := hml0
  have hown : s.vm.findClass "java/util/AbstractList" = some m.cls := findClass_of_methodNamed Bd.named
  have hnm := (name_of_methodNamed Bd.named Bd.method).1
  have X0 : Stand p l e ({ frames := 2, cells := 0, slots := 0, locals := 24 } : Room) s m #[(.ref a)] below meth c s₁ [] 0 0 := Stand.of_body Bd
  have e0 : s₁.heap = h0 := by rw [← hh, Bd.state]; rfl
  have N0 := Fr.nil n0
  have K0 := Keep.refl h0 [a]
  show Go p e below (own_F s below (Q_own_abInit Z a h0 n0) ({ frames := 2, cells := 0, slots := 0, locals := 24 } : Room).cells ({ frames := 2, cells := 0, slots := 0, locals := 24 } : Room).slots) (s₁.setTop (entryFrame m #[(.ref a)] 1))
  rw [own_ef_own_abInit m a]
  refine Go.back (t' := (s₁.setTop (mkF m 1 #[.val (.ref a)] [(.ref a)]))) (fun u k => XS.aloadN X0.here hx rfl (hb hby own_d8_0) rfl rfl k) ?_
  obtain ⟨_, _, ⟨T1, L1, k1, n1⟩, -, X1, ⟨Lc1, hQ1, l1, y1, z1⟩, st1⟩ := X0.specialBack hx (y := (⟨"java/util/AbstractCollection", "<init>", "()V"⟩ : MethodName)) rfl hown (mvT hZ (hw _ (List.mem_of_getElem? (i := 45) rfl))) (mvT hZ (hw _ (List.mem_of_getElem? (i := 46) rfl))) (mvT hZ (hw _ (List.mem_of_getElem? (i := 50) rfl))) (by decide) (backOf (W := 0) (own_acInit l Z a0 hw [] a h0 n0 Z0 ) hZ (hw _ (List.mem_of_getElem? (i := 50) rfl)) (hw _ (List.mem_of_getElem? (i := 49) rfl)) (by decide) (by decide)) (g := (mkF m 1 #[.val (.ref a)] [(.ref a)])) rfl (by rw [hml]; rfl) (Steps.refl _) (a := a) (argsL := []) (rest := []) (lenOf own_pd0 rfl) rfl (by show 2 * 0 + _ ≤ _; exact Nat.le_of_eq rfl) (hb hby own_d8_1) (fun _ _ => ⟨rfl, e0, (by decide : 0 + 0 ≤ _), (by decide : 0 + 0 ≤ _)⟩)
  dsimp only [Pt.U, Pt.locs, Pt.cells, Pt.slots] at X1 l1 y1 z1 st1 hQ1
  subst l1 y1 z1
  obtain ⟨rfl, N1, e1⟩ := hQ1
  have NA1 := Fr.app N0 N1
  refine Go.back (t' := (T1.setTop (mkF m 4 #[.val (.ref a)] []))) (fun u k => st1.trans k) ?_
  refine Go.back (t' := (T1.setTop (mkF m 5 #[.val (.ref a)] [(.ref a)]))) (fun u k => XS.aloadN X1.here hx rfl (hb hby own_d8_4) rfl rfl k) ?_
  refine Go.back (t' := (T1.setTop (mkF m 6 #[.val (.ref a)] [(.int (0 : Int32)), (.ref a)]))) (fun u k => XT.iconstV X1.here hx rfl (0 : Int32) (hb hby own_d8_5) (by decide) k) ?_
  obtain ⟨T2, h2, X2, e2, W2, st2⟩ := putF X1 hx hZ hown (host := "") (Or.inl (hw _ (List.mem_of_getElem? (i := 52) rfl))) Via.refl e1 F_a_modCount E_a (Or.inl (hw _ (List.mem_of_getElem? (i := 53) rfl))) (hw _ (List.mem_of_getElem? (i := 34) rfl)) (ty := .int) (by decide) rfl rfl (g := (mkF m 6 #[.val (.ref a)] [(.int (0 : Int32)), (.ref a)])) rfl rfl (hb hby own_d8_6)
  have Z2 : n0 ≤ h2.size := Nat.le_trans Z0 (Keep.of_wr W2).1
  have K2 := K0.wr W2 (Or.inl (List.mem_of_getElem? (i := 0) rfl))
  have N2 := Fr.snoc X2 NA1 g_a
  have F2 := F_a_modCount.same W2
  refine Go.back (t' := (T2.setTop (mkF m 9 #[.val (.ref a)] []))) st2 ?_
  have f3 := (E_a.wr W2)
  have f4 := (F_a_elementData.other W2 (Or.inr (slot_ne (Or.inl (hw _ (List.mem_of_getElem? (i := 56) rfl))) (Or.inl (hw _ (List.mem_of_getElem? (i := 53) rfl))) (by decide) (t := (.array (.object "java/lang/Object"))) (t' := .int) (by decide) (by decide))))
  obtain ⟨fs, hr, hrun, hended, hW, hsame⟩ := X2.leave (v := none) (fun _ => rfl)
  refine ⟨_, _, X2.returnOut hx Bd.returns (hb hby own_d8_9) hr, hrun, hended, _, _, rfl, ?_, ⟨_, rfl⟩, hW, hsame.mono (by decide) (by decide)⟩
  show Q_own_abInit Z a h0 n0 _ T2.heap _
  rw [e2]
  exact ⟨rfl, N2, K2, f3, f4⟩
theorem own_pn2 : plainName "java/util/ArrayList" = true := by first | (simp [plainName, overriddenIn]; done) | decide +kernel
theorem own_d7_0 : decode jdk_38_method_2_code 0 = .ok (.aload_n 0, 1) := by decide +kernel
theorem own_d7_1 : decode jdk_38_method_2_code 1 = .ok (.invokespecial 1, 3) := by decide +kernel
theorem own_d7_4 : decode jdk_38_method_2_code 4 = .ok (.aload_n 0, 1) := by decide +kernel
theorem own_d7_5 : decode jdk_38_method_2_code 5 = .ok (.getstatic 39, 3) := by decide +kernel
theorem own_d7_8 : decode jdk_38_method_2_code 8 = .ok (.putfield 9, 3) := by decide +kernel
theorem own_d7_11 : decode jdk_38_method_2_code 11 = .ok (.return_, 1) := by decide +kernel
theorem own_ef_own_alInit (m : MethodId) (x0 : Addr) : entryFrame m #[(.ref x0)] 1 = mkF m 0 #[.val (.ref x0)] [] := by first | (simp [entryFrame, mkF, argsToLocals, Value.category]; done) | rfl
def Q_own_alInit (Z : State) (a : Addr) (wD : Addr) (h0 : Heap) (n0 : Nat) (v : Option Value) (h : Heap) (L : List Loc) : Prop := v = none ∧ Fr n0 L ∧ Keep h0 h [a] ∧ Exa Z h a "java/util/ArrayList"
set_option maxRecDepth 65536 in
set_option maxHeartbeats 40000000 in
theorem own_alInit (l : Launch) (Z : State) (a0 : Array Value) (hw : ∀ d ∈ tables_1, d.before a0 Z = true) (ws : List Jvm.Cond) (a : Addr) (wD : Addr) (h0 : Heap) (n0 : Nat) (Z0 : n0 ≤ h0.size) (E_a : Exa Z h0 a "java/util/ArrayList") (F_a_modCount : Fld Z h0 a "java/util/AbstractList" "modCount" "I" (.int (0 : Int32))) (F_a_elementData : Fld Z h0 a "java/util/ArrayList" "elementData" "[Ljava/lang/Object;" .null) (g_a : n0 ≤ a) (Old0 : Old Z n0 h0) (SD : Sta Z Z.heap "java/util/ArrayList" "DEFAULTCAPACITY_EMPTY_ELEMENTDATA" "[Ljava/lang/Object;" (.ref wD)) :
    MetFree l (⟨"java/util/ArrayList", "<init>", "()V"⟩ : MethodName) (head1 (Jvm.Cond.code (⟨"java/util/ArrayList", "<init>", "()V"⟩ : MethodName) jdk_38_method_2_code 1 none :: ws) ({ frames := 3, cells := 0, slots := 0, locals := 36 } : Room)) (fun as_ U => as_ = #[(.ref a)] ∧ Z.Warmed39 U.vm ∧ U.heap = h0) (fun _ _ _ _ _ => True) (fun _ U o U' => ∃ v L, o = .returned v ∧ Q_own_alInit Z a wD h0 n0 v U'.heap L ∧ FrameEnd U o U' L ({ frames := 3, cells := 0, slots := 0, locals := 36 } : Room).cells ({ frames := 3, cells := 0, slots := 0, locals := 36 } : Room).slots) := by
  refine MetFree.of_bodySF (plainFor_of_name own_pn2) hisR ?_
  intro p e s m args below meth c s₁ Bd hml0 hP hK
  obtain ⟨rfl, hZ, hh⟩ := hP
  have hx := Bd.exec
  have hby := Bd.bytes
  have hml : c.maxLocals = 1 := hml0
  have hown : s.vm.findClass "java/util/ArrayList" = some m.cls := findClass_of_methodNamed Bd.named
  have hnm := (name_of_methodNamed Bd.named Bd.method).1
  have X0 : Stand p l e ({ frames := 3, cells := 0, slots := 0, locals := 36 } : Room) s m #[(.ref a)] below meth c s₁ [] 0 0 := Stand.of_body Bd
  have e0 : s₁.heap = h0 := by rw [← hh, Bd.state]; rfl
  have N0 := Fr.nil n0
  have K0 := Keep.refl h0 [a]
  show Go p e below (own_F s below (Q_own_alInit Z a wD h0 n0) ({ frames := 3, cells := 0, slots := 0, locals := 36 } : Room).cells ({ frames := 3, cells := 0, slots := 0, locals := 36 } : Room).slots) (s₁.setTop (entryFrame m #[(.ref a)] 1))
  rw [own_ef_own_alInit m a]
  refine Go.back (t' := (s₁.setTop (mkF m 1 #[.val (.ref a)] [(.ref a)]))) (fun u k => XS.aloadN X0.here hx rfl (hb hby own_d7_0) rfl rfl k) ?_
  obtain ⟨_, _, ⟨T1, L1, k1, n1⟩, -, X1, ⟨Lc1, hQ1, l1, y1, z1⟩, st1⟩ := X0.specialBack hx (y := (⟨"java/util/AbstractList", "<init>", "()V"⟩ : MethodName)) rfl hown (mvT hZ (hw _ (List.mem_of_getElem? (i := 39) rfl))) (mvT hZ (hw _ (List.mem_of_getElem? (i := 40) rfl))) (mvT hZ (hw _ (List.mem_of_getElem? (i := 44) rfl))) (by decide) (backOf (W := 0) (own_abInit l Z a0 hw [] a h0 n0 Z0 E_a F_a_modCount F_a_elementData g_a) hZ (hw _ (List.mem_of_getElem? (i := 44) rfl)) (hw _ (List.mem_of_getElem? (i := 43) rfl)) (by decide) (by decide)) (g := (mkF m 1 #[.val (.ref a)] [(.ref a)])) rfl (by rw [hml]; rfl) (Steps.refl _) (a := a) (argsL := []) (rest := []) (lenOf own_pd0 rfl) rfl (by show 2 * 0 + _ ≤ _; exact Nat.le_of_eq rfl) (hb hby own_d7_1) (fun _ _ => ⟨rfl, e0, (by decide : 0 + 0 ≤ _), (by decide : 0 + 0 ≤ _)⟩)
  dsimp only [Pt.U, Pt.locs, Pt.cells, Pt.slots] at X1 l1 y1 z1 st1 hQ1
  subst l1 y1 z1
  obtain ⟨rfl, N1, Kc1, P1_0, P1_1⟩ := hQ1
  have NA1 := Fr.app N0 N1
  have Z1 : n0 ≤ T1.heap.size := Nat.le_trans Z0 Kc1.1
  have K1 := K0.trans Kc1 (allS (Or.inl (List.mem_of_getElem? (i := 0) rfl)) all0)
  have O1 := Old0.keep Kc1 (allS g_a all0)
  refine Go.back (t' := (T1.setTop (mkF m 4 #[.val (.ref a)] []))) (fun u k => st1.trans k) ?_
  refine Go.back (t' := (T1.setTop (mkF m 5 #[.val (.ref a)] [(.ref a)]))) (fun u k => XS.aloadN X1.here hx rfl (hb hby own_d7_4) rfl rfl k) ?_
  obtain ⟨T2, X2, e2, st2⟩ := getS2 X1 hx hZ hown (host := "") (Or.inl (hw _ (List.mem_of_getElem? (i := 54) rfl))) Via.refl rfl (SD.ext O1.2) (g := (mkF m 5 #[.val (.ref a)] [(.ref a)])) rfl (hb hby own_d7_5)
  refine Go.back (t' := (T2.setTop (mkF m 8 #[.val (.ref a)] [(.ref wD), (.ref a)]))) st2 ?_
  obtain ⟨T3, h3, X3, e3, W3, st3⟩ := putF X2 hx hZ hown (host := "") (Or.inl (hw _ (List.mem_of_getElem? (i := 55) rfl))) Via.refl e2 P1_1 P1_0 (Or.inl (hw _ (List.mem_of_getElem? (i := 56) rfl))) (hw _ (List.mem_of_getElem? (i := 34) rfl)) (ty := (.array (.object "java/lang/Object"))) (by decide) rfl rfl (g := (mkF m 8 #[.val (.ref a)] [(.ref wD), (.ref a)])) rfl rfl (hb hby own_d7_8)
  have Z3 : n0 ≤ h3.size := Nat.le_trans Z1 (Keep.of_wr W3).1
  have K3 := K1.wr W3 (Or.inl (List.mem_of_getElem? (i := 0) rfl))
  have N3 := Fr.snoc X3 NA1 g_a
  have O3 := O1.wr W3 g_a
  have F3 := P1_1.same W3
  refine Go.back (t' := (T3.setTop (mkF m 11 #[.val (.ref a)] []))) st3 ?_
  have f4 := (P1_0.wr W3)
  obtain ⟨fs, hr, hrun, hended, hW, hsame⟩ := X3.leave (v := none) (fun _ => rfl)
  refine ⟨_, _, X3.returnOut hx Bd.returns (hb hby own_d7_11) hr, hrun, hended, _, _, rfl, ?_, ⟨_, rfl⟩, hW, hsame.mono (by decide) (by decide)⟩
  show Q_own_alInit Z a wD h0 n0 _ T3.heap _
  rw [e3]
  exact ⟨rfl, N3, K3, f4⟩
theorem own_pn3 : plainName "com/example/persistutils/persistutils/engine/PostgresTables$Table" = true := by first | (simp [plainName, overriddenIn]; done) | decide +kernel
theorem own_d10_0 : decode prog_51_method_1_code 0 = .ok (.aload_n 0, 1) := by decide +kernel
theorem own_d10_1 : decode prog_51_method_1_code 1 = .ok (.invokespecial 3, 3) := by decide +kernel
theorem own_d10_4 : decode prog_51_method_1_code 4 = .ok (.aload_n 0, 1) := by decide +kernel
theorem own_d10_5 : decode prog_51_method_1_code 5 = .ok (.aload_n 1, 1) := by decide +kernel
theorem own_d10_6 : decode prog_51_method_1_code 6 = .ok (.putfield 9, 3) := by decide +kernel
theorem own_d10_9 : decode prog_51_method_1_code 9 = .ok (.aload_n 0, 1) := by decide +kernel
theorem own_d10_10 : decode prog_51_method_1_code 10 = .ok (.iload_n 2, 1) := by decide +kernel
theorem own_d10_11 : decode prog_51_method_1_code 11 = .ok (.putfield 15, 3) := by decide +kernel
theorem own_d10_14 : decode prog_51_method_1_code 14 = .ok (.aload_n 0, 1) := by decide +kernel
theorem own_d10_15 : decode prog_51_method_1_code 15 = .ok (.lload_n 3, 1) := by decide +kernel
theorem own_d10_16 : decode prog_51_method_1_code 16 = .ok (.putfield 19, 3) := by decide +kernel
theorem own_d10_19 : decode prog_51_method_1_code 19 = .ok (.aload_n 0, 1) := by decide +kernel
theorem own_d10_20 : decode prog_51_method_1_code 20 = .ok (.iload 5, 2) := by decide +kernel
theorem own_d10_22 : decode prog_51_method_1_code 22 = .ok (.putfield 23, 3) := by decide +kernel
theorem own_d10_25 : decode prog_51_method_1_code 25 = .ok (.aload_n 0, 1) := by decide +kernel
theorem own_d10_26 : decode prog_51_method_1_code 26 = .ok (.iload 6, 2) := by decide +kernel
theorem own_d10_28 : decode prog_51_method_1_code 28 = .ok (.putfield 26, 3) := by decide +kernel
theorem own_d10_31 : decode prog_51_method_1_code 31 = .ok (.aload_n 0, 1) := by decide +kernel
theorem own_d10_32 : decode prog_51_method_1_code 32 = .ok (.aload 7, 2) := by decide +kernel
theorem own_d10_34 : decode prog_51_method_1_code 34 = .ok (.putfield 30, 3) := by decide +kernel
theorem own_d10_37 : decode prog_51_method_1_code 37 = .ok (.aload_n 0, 1) := by decide +kernel
theorem own_d10_38 : decode prog_51_method_1_code 38 = .ok (.lload 8, 2) := by decide +kernel
theorem own_d10_40 : decode prog_51_method_1_code 40 = .ok (.putfield 34, 3) := by decide +kernel
theorem own_d10_43 : decode prog_51_method_1_code 43 = .ok (.aload_n 0, 1) := by decide +kernel
theorem own_d10_44 : decode prog_51_method_1_code 44 = .ok (.iload 10, 2) := by decide +kernel
theorem own_d10_46 : decode prog_51_method_1_code 46 = .ok (.putfield 37, 3) := by decide +kernel
theorem own_d10_49 : decode prog_51_method_1_code 49 = .ok (.aload_n 0, 1) := by decide +kernel
theorem own_d10_50 : decode prog_51_method_1_code 50 = .ok (.aload 11, 2) := by decide +kernel
theorem own_d10_52 : decode prog_51_method_1_code 52 = .ok (.putfield 40, 3) := by decide +kernel
theorem own_d10_55 : decode prog_51_method_1_code 55 = .ok (.aload_n 0, 1) := by decide +kernel
theorem own_d10_56 : decode prog_51_method_1_code 56 = .ok (.aload 12, 2) := by decide +kernel
theorem own_d10_58 : decode prog_51_method_1_code 58 = .ok (.putfield 43, 3) := by decide +kernel
theorem own_d10_61 : decode prog_51_method_1_code 61 = .ok (.aload_n 0, 1) := by decide +kernel
theorem own_d10_62 : decode prog_51_method_1_code 62 = .ok (.iload 13, 2) := by decide +kernel
theorem own_d10_64 : decode prog_51_method_1_code 64 = .ok (.putfield 46, 3) := by decide +kernel
theorem own_d10_67 : decode prog_51_method_1_code 67 = .ok (.aload_n 0, 1) := by decide +kernel
theorem own_d10_68 : decode prog_51_method_1_code 68 = .ok (.iload 14, 2) := by decide +kernel
theorem own_d10_70 : decode prog_51_method_1_code 70 = .ok (.putfield 49, 3) := by decide +kernel
theorem own_d10_73 : decode prog_51_method_1_code 73 = .ok (.return_, 1) := by decide +kernel
theorem own_ef_own_tbInit (m : MethodId) (x0 : Addr) (x1 : Addr) (x2 : Int32) (x3 : Int64) (x4 : Int32) (x5 : Int32) (x6 : Addr) (x7 : Int64) (x8 : Int32) (x9 : Addr) (x10 : Addr) (x11 : Int32) (x12 : Int32) : entryFrame m #[(.ref x0), (.ref x1), (.int x2), (.long x3), (.int x4), (.int x5), (.ref x6), (.long x7), (.int x8), (.ref x9), (.ref x10), (.int x11), (.int x12)] 15 = mkF m 0 #[.val (.ref x0), .val (.ref x1), .val (.int x2), .val (.long x3), .second, .val (.int x4), .val (.int x5), .val (.ref x6), .val (.long x7), .second, .val (.int x8), .val (.ref x9), .val (.ref x10), .val (.int x11), .val (.int x12)] [] := by first | (simp [entryFrame, mkF, argsToLocals, Value.category]; done) | rfl
def Q_own_tbInit (Z : State) (a : Addr) (sn : Addr) (zA : Int32) (qA : Int64) (zB : Int32) (pA : Int32) (lA : Addr) (qB : Int64) (zC : Int32) (lB : Addr) (lC : Addr) (pB : Int32) (zD : Int32) (h0 : Heap) (n0 : Nat) (v : Option Value) (h : Heap) (L : List Loc) : Prop := v = none ∧ Fr n0 L ∧ Keep h0 h [a] ∧ Exa Z h a "com/example/persistutils/persistutils/engine/PostgresTables$Table" ∧ Fld Z h a "com/example/persistutils/persistutils/engine/PostgresTables$Table" "triggerEvents" "I" (.int pA)
set_option maxRecDepth 65536 in
set_option maxHeartbeats 40000000 in
theorem own_tbInit (l : Launch) (Z : State) (a0 : Array Value) (hw : ∀ d ∈ tables_1, d.before a0 Z = true) (ws : List Jvm.Cond) (a : Addr) (sn : Addr) (zA : Int32) (qA : Int64) (zB : Int32) (pA : Int32) (lA : Addr) (qB : Int64) (zC : Int32) (lB : Addr) (lC : Addr) (pB : Int32) (zD : Int32) (h0 : Heap) (n0 : Nat) (Z0 : n0 ≤ h0.size) (E_a : Exa Z h0 a "com/example/persistutils/persistutils/engine/PostgresTables$Table") (F_a_name : Fld Z h0 a "com/example/persistutils/persistutils/engine/PostgresTables$Table" "name" "Ljava/lang/String;" .null) (F_a_ofAnExtension : Fld Z h0 a "com/example/persistutils/persistutils/engine/PostgresTables$Table" "ofAnExtension" "Z" (.int (0 : Int32))) (F_a_oid : Fld Z h0 a "com/example/persistutils/persistutils/engine/PostgresTables$Table" "oid" "J" (.long (0 : Int64))) (F_a_truncatable : Fld Z h0 a "com/example/persistutils/persistutils/engine/PostgresTables$Table" "truncatable" "Z" (.int (0 : Int32))) (F_a_triggerEvents : Fld Z h0 a "com/example/persistutils/persistutils/engine/PostgresTables$Table" "triggerEvents" "I" (.int (0 : Int32))) (F_a_referencing : Fld Z h0 a "com/example/persistutils/persistutils/engine/PostgresTables$Table" "referencing" "Ljava/util/List;" .null) (F_a_size : Fld Z h0 a "com/example/persistutils/persistutils/engine/PostgresTables$Table" "size" "J" (.long (0 : Int64))) (F_a_ruledOnDelete : Fld Z h0 a "com/example/persistutils/persistutils/engine/PostgresTables$Table" "ruledOnDelete" "Z" (.int (0 : Int32))) (F_a_partitionsElsewhere : Fld Z h0 a "com/example/persistutils/persistutils/engine/PostgresTables$Table" "partitionsElsewhere" "Ljava/util/List;" .null) (F_a_referencingUnindexed : Fld Z h0 a "com/example/persistutils/persistutils/engine/PostgresTables$Table" "referencingUnindexed" "Ljava/util/List;" .null) (F_a_indexes : Fld Z h0 a "com/example/persistutils/persistutils/engine/PostgresTables$Table" "indexes" "I" (.int (0 : Int32))) (F_a_toasted : Fld Z h0 a "com/example/persistutils/persistutils/engine/PostgresTables$Table" "toasted" "Z" (.int (0 : Int32))) (g_a : n0 ≤ a) (bit_zA : zA = 0 ∨ zA = 1) (bit_zB : zB = 0 ∨ zB = 1) (bit_zC : zC = 0 ∨ zC = 1) (bit_zD : zD = 0 ∨ zD = 1) :
    MetFree l (⟨"com/example/persistutils/persistutils/engine/PostgresTables$Table", "<init>", "(Ljava/lang/String;ZJZILjava/util/List;JZLjava/util/List;Ljava/util/List;IZ)V"⟩ : MethodName) (head1 (Jvm.Cond.code (⟨"com/example/persistutils/persistutils/engine/PostgresTables$Table", "<init>", "(Ljava/lang/String;ZJZILjava/util/List;JZLjava/util/List;Ljava/util/List;IZ)V"⟩ : MethodName) prog_51_method_1_code 15 none :: ws) ({ frames := 1, cells := 0, slots := 0, locals := 12 } : Room)) (fun as_ U => as_ = #[(.ref a), (.ref sn), (.int zA), (.long qA), (.int zB), (.int pA), (.ref lA), (.long qB), (.int zC), (.ref lB), (.ref lC), (.int pB), (.int zD)] ∧ Z.Warmed39 U.vm ∧ U.heap = h0) (fun _ _ _ _ _ => True) (fun _ U o U' => ∃ v L, o = .returned v ∧ Q_own_tbInit Z a sn zA qA zB pA lA qB zC lB lC pB zD h0 n0 v U'.heap L ∧ FrameEnd U o U' L ({ frames := 1, cells := 0, slots := 0, locals := 12 } : Room).cells ({ frames := 1, cells := 0, slots := 0, locals := 12 } : Room).slots) := by
  refine MetFree.of_bodySF (plainFor_of_name own_pn3) hisR ?_
  intro p e s m args below meth c s₁ Bd hml0 hP hK
  obtain ⟨rfl, hZ, hh⟩ := hP
  have hx := Bd.exec
  have hby := Bd.bytes
  have hml : c.maxLocals = 15 := hml0
  have hown : s.vm.findClass "com/example/persistutils/persistutils/engine/PostgresTables$Table" = some m.cls := findClass_of_methodNamed Bd.named
  have hnm := (name_of_methodNamed Bd.named Bd.method).1
  have X0 : Stand p l e ({ frames := 1, cells := 0, slots := 0, locals := 12 } : Room) s m #[(.ref a), (.ref sn), (.int zA), (.long qA), (.int zB), (.int pA), (.ref lA), (.long qB), (.int zC), (.ref lB), (.ref lC), (.int pB), (.int zD)] below meth c s₁ [] 0 0 := Stand.of_body Bd
  have e0 : s₁.heap = h0 := by rw [← hh, Bd.state]; rfl
  have N0 := Fr.nil n0
  have K0 := Keep.refl h0 [a]
  show Go p e below (own_F s below (Q_own_tbInit Z a sn zA qA zB pA lA qB zC lB lC pB zD h0 n0) ({ frames := 1, cells := 0, slots := 0, locals := 12 } : Room).cells ({ frames := 1, cells := 0, slots := 0, locals := 12 } : Room).slots) (s₁.setTop (entryFrame m #[(.ref a), (.ref sn), (.int zA), (.long qA), (.int zB), (.int pA), (.ref lA), (.long qB), (.int zC), (.ref lB), (.ref lC), (.int pB), (.int zD)] 15))
  rw [own_ef_own_tbInit m a sn zA qA zB pA lA qB zC lB lC pB zD]
  refine Go.back (t' := (s₁.setTop (mkF m 1 #[.val (.ref a), .val (.ref sn), .val (.int zA), .val (.long qA), .second, .val (.int zB), .val (.int pA), .val (.ref lA), .val (.long qB), .second, .val (.int zC), .val (.ref lB), .val (.ref lC), .val (.int pB), .val (.int zD)] [(.ref a)]))) (fun u k => XS.aloadN X0.here hx rfl (hb hby own_d10_0) rfl rfl k) ?_
  obtain ⟨T1, X1, e1, st1⟩ := initO X0 hx hZ hown (hw _ (List.mem_of_getElem? (i := 60) rfl)) (hw _ (List.mem_of_getElem? (i := 12) rfl)) (hw _ (List.mem_of_getElem? (i := 13) rfl)) e0 (g := (mkF m 1 #[.val (.ref a), .val (.ref sn), .val (.int zA), .val (.long qA), .second, .val (.int zB), .val (.int pA), .val (.ref lA), .val (.long qB), .second, .val (.int zC), .val (.ref lB), .val (.ref lC), .val (.int pB), .val (.int zD)] [(.ref a)])) rfl (by rw [hml]; rfl) rfl (hb hby own_d10_1) (by decide) (W := 0) (by show 2 * 0 + _ ≤ _; exact Nat.le_of_eq rfl) (by decide)
  refine Go.back (t' := (T1.setTop (mkF m 4 #[.val (.ref a), .val (.ref sn), .val (.int zA), .val (.long qA), .second, .val (.int zB), .val (.int pA), .val (.ref lA), .val (.long qB), .second, .val (.int zC), .val (.ref lB), .val (.ref lC), .val (.int pB), .val (.int zD)] []))) st1 ?_
  refine Go.back (t' := (T1.setTop (mkF m 5 #[.val (.ref a), .val (.ref sn), .val (.int zA), .val (.long qA), .second, .val (.int zB), .val (.int pA), .val (.ref lA), .val (.long qB), .second, .val (.int zC), .val (.ref lB), .val (.ref lC), .val (.int pB), .val (.int zD)] [(.ref a)]))) (fun u k => XS.aloadN X1.here hx rfl (hb hby own_d10_4) rfl rfl k) ?_
  refine Go.back (t' := (T1.setTop (mkF m 6 #[.val (.ref a), .val (.ref sn), .val (.int zA), .val (.long qA), .second, .val (.int zB), .val (.int pA), .val (.ref lA), .val (.long qB), .second, .val (.int zC), .val (.ref lB), .val (.ref lC), .val (.int pB), .val (.int zD)] [(.ref sn), (.ref a)]))) (fun u k => XS.aloadN X1.here hx rfl (hb hby own_d10_5) rfl rfl k) ?_
  obtain ⟨T2, h2, X2, e2, W2, st2⟩ := putF X1 hx hZ hown (host := "") (Or.inl (hw _ (List.mem_of_getElem? (i := 61) rfl))) Via.refl e1 F_a_name E_a (Or.inr ⟨(hw _ (List.mem_of_getElem? (i := 62) rfl)), rfl, hnm⟩) (hw _ (List.mem_of_getElem? (i := 31) rfl)) (ty := (.object "java/lang/String")) (by decide) rfl rfl (g := (mkF m 6 #[.val (.ref a), .val (.ref sn), .val (.int zA), .val (.long qA), .second, .val (.int zB), .val (.int pA), .val (.ref lA), .val (.long qB), .second, .val (.int zC), .val (.ref lB), .val (.ref lC), .val (.int pB), .val (.int zD)] [(.ref sn), (.ref a)])) rfl rfl (hb hby own_d10_6)
  have Z2 : n0 ≤ h2.size := Nat.le_trans Z0 (Keep.of_wr W2).1
  have K2 := K0.wr W2 (Or.inl (List.mem_of_getElem? (i := 0) rfl))
  have N2 := Fr.snoc X2 N0 g_a
  have F2 := F_a_name.same W2
  refine Go.back (t' := (T2.setTop (mkF m 9 #[.val (.ref a), .val (.ref sn), .val (.int zA), .val (.long qA), .second, .val (.int zB), .val (.int pA), .val (.ref lA), .val (.long qB), .second, .val (.int zC), .val (.ref lB), .val (.ref lC), .val (.int pB), .val (.int zD)] []))) st2 ?_
  refine Go.back (t' := (T2.setTop (mkF m 10 #[.val (.ref a), .val (.ref sn), .val (.int zA), .val (.long qA), .second, .val (.int zB), .val (.int pA), .val (.ref lA), .val (.long qB), .second, .val (.int zC), .val (.ref lB), .val (.ref lC), .val (.int pB), .val (.int zD)] [(.ref a)]))) (fun u k => XS.aloadN X2.here hx rfl (hb hby own_d10_9) rfl rfl k) ?_
  refine Go.back (t' := (T2.setTop (mkF m 11 #[.val (.ref a), .val (.ref sn), .val (.int zA), .val (.long qA), .second, .val (.int zB), .val (.int pA), .val (.ref lA), .val (.long qB), .second, .val (.int zC), .val (.ref lB), .val (.ref lC), .val (.int pB), .val (.int zD)] [(.int zA), (.ref a)]))) (fun u k => XS.iloadN X2.here hx rfl (hb hby own_d10_10) rfl k) ?_
  have f4 := (F_a_ofAnExtension.other W2 (Or.inr (slot_ne (Or.inr (hw _ (List.mem_of_getElem? (i := 64) rfl))) (Or.inr (hw _ (List.mem_of_getElem? (i := 62) rfl))) (by decide) (t := .boolean) (t' := (.object "java/lang/String")) (by decide) (by decide))))
  have f5 := (E_a.wr W2)
  obtain ⟨T3, h3, X3, e3, W3, st3⟩ := putFN X2 hx hZ hown (hw _ (List.mem_of_getElem? (i := 63) rfl)) Via.refl e2 f4 f5 (Or.inr ⟨(hw _ (List.mem_of_getElem? (i := 64) rfl)), rfl, hnm⟩) (hw _ (List.mem_of_getElem? (i := 31) rfl)) (ty := .boolean) (v' := (.int zA)) (by decide) (own_bit bit_zA).1 (own_bit bit_zA).2 (g := (mkF m 11 #[.val (.ref a), .val (.ref sn), .val (.int zA), .val (.long qA), .second, .val (.int zB), .val (.int pA), .val (.ref lA), .val (.long qB), .second, .val (.int zC), .val (.ref lB), .val (.ref lC), .val (.int pB), .val (.int zD)] [(.int zA), (.ref a)])) rfl rfl (hb hby own_d10_11)
  have Z3 : n0 ≤ h3.size := Nat.le_trans Z2 (Keep.of_wr W3).1
  have K3 := K2.wr W3 (Or.inl (List.mem_of_getElem? (i := 0) rfl))
  have N3 := Fr.snoc X3 N2 g_a
  have F3 := f4.same W3
  refine Go.back (t' := (T3.setTop (mkF m 14 #[.val (.ref a), .val (.ref sn), .val (.int zA), .val (.long qA), .second, .val (.int zB), .val (.int pA), .val (.ref lA), .val (.long qB), .second, .val (.int zC), .val (.ref lB), .val (.ref lC), .val (.int pB), .val (.int zD)] []))) st3 ?_
  refine Go.back (t' := (T3.setTop (mkF m 15 #[.val (.ref a), .val (.ref sn), .val (.int zA), .val (.long qA), .second, .val (.int zB), .val (.int pA), .val (.ref lA), .val (.long qB), .second, .val (.int zC), .val (.ref lB), .val (.ref lC), .val (.int pB), .val (.int zD)] [(.ref a)]))) (fun u k => XS.aloadN X3.here hx rfl (hb hby own_d10_14) rfl rfl k) ?_
  refine Go.back (t' := (T3.setTop (mkF m 16 #[.val (.ref a), .val (.ref sn), .val (.int zA), .val (.long qA), .second, .val (.int zB), .val (.int pA), .val (.ref lA), .val (.long qB), .second, .val (.int zC), .val (.ref lB), .val (.ref lC), .val (.int pB), .val (.int zD)] [(.long qA), (.ref a)]))) (fun u k => XT.lloadN X3.here hx rfl (hb hby own_d10_15) rfl k) ?_
  have f7 := ((F_a_oid.other W2 (Or.inr (slot_ne (Or.inr (hw _ (List.mem_of_getElem? (i := 66) rfl))) (Or.inr (hw _ (List.mem_of_getElem? (i := 62) rfl))) (by decide) (t := .long) (t' := (.object "java/lang/String")) (by decide) (by decide)))).other W3 (Or.inr (slot_ne (Or.inr (hw _ (List.mem_of_getElem? (i := 66) rfl))) (Or.inr (hw _ (List.mem_of_getElem? (i := 64) rfl))) (by decide) (t := .long) (t' := .boolean) (by decide) (by decide))))
  have f8 := (f5.wr W3)
  obtain ⟨T6, h6, X6, e6, W6, st6⟩ := putF X3 hx hZ hown (host := "") (Or.inl (hw _ (List.mem_of_getElem? (i := 65) rfl))) Via.refl e3 f7 f8 (Or.inr ⟨(hw _ (List.mem_of_getElem? (i := 66) rfl)), rfl, hnm⟩) (hw _ (List.mem_of_getElem? (i := 31) rfl)) (ty := .long) (by decide) rfl rfl (g := (mkF m 16 #[.val (.ref a), .val (.ref sn), .val (.int zA), .val (.long qA), .second, .val (.int zB), .val (.int pA), .val (.ref lA), .val (.long qB), .second, .val (.int zC), .val (.ref lB), .val (.ref lC), .val (.int pB), .val (.int zD)] [(.long qA), (.ref a)])) rfl rfl (hb hby own_d10_16)
  have Z6 : n0 ≤ h6.size := Nat.le_trans Z3 (Keep.of_wr W6).1
  have K6 := K3.wr W6 (Or.inl (List.mem_of_getElem? (i := 0) rfl))
  have N6 := Fr.snoc X6 N3 g_a
  have F6 := f7.same W6
  refine Go.back (t' := (T6.setTop (mkF m 19 #[.val (.ref a), .val (.ref sn), .val (.int zA), .val (.long qA), .second, .val (.int zB), .val (.int pA), .val (.ref lA), .val (.long qB), .second, .val (.int zC), .val (.ref lB), .val (.ref lC), .val (.int pB), .val (.int zD)] []))) st6 ?_
  refine Go.back (t' := (T6.setTop (mkF m 20 #[.val (.ref a), .val (.ref sn), .val (.int zA), .val (.long qA), .second, .val (.int zB), .val (.int pA), .val (.ref lA), .val (.long qB), .second, .val (.int zC), .val (.ref lB), .val (.ref lC), .val (.int pB), .val (.int zD)] [(.ref a)]))) (fun u k => XS.aloadN X6.here hx rfl (hb hby own_d10_19) rfl rfl k) ?_
  refine Go.back (t' := (T6.setTop (mkF m 22 #[.val (.ref a), .val (.ref sn), .val (.int zA), .val (.long qA), .second, .val (.int zB), .val (.int pA), .val (.ref lA), .val (.long qB), .second, .val (.int zC), .val (.ref lB), .val (.ref lC), .val (.int pB), .val (.int zD)] [(.int zB), (.ref a)]))) (fun u k => XS.iload X6.here hx rfl (hb hby own_d10_20) rfl k) ?_
  have f10 := (((F_a_truncatable.other W2 (Or.inr (slot_ne (Or.inr (hw _ (List.mem_of_getElem? (i := 68) rfl))) (Or.inr (hw _ (List.mem_of_getElem? (i := 62) rfl))) (by decide) (t := .boolean) (t' := (.object "java/lang/String")) (by decide) (by decide)))).other W3 (Or.inr (slot_ne (Or.inr (hw _ (List.mem_of_getElem? (i := 68) rfl))) (Or.inr (hw _ (List.mem_of_getElem? (i := 64) rfl))) (by decide) (t := .boolean) (t' := .boolean) (by decide) (by decide)))).other W6 (Or.inr (slot_ne (Or.inr (hw _ (List.mem_of_getElem? (i := 68) rfl))) (Or.inr (hw _ (List.mem_of_getElem? (i := 66) rfl))) (by decide) (t := .boolean) (t' := .long) (by decide) (by decide))))
  have f11 := (f8.wr W6)
  obtain ⟨T9, h9, X9, e9, W9, st9⟩ := putFN X6 hx hZ hown (hw _ (List.mem_of_getElem? (i := 67) rfl)) Via.refl e6 f10 f11 (Or.inr ⟨(hw _ (List.mem_of_getElem? (i := 68) rfl)), rfl, hnm⟩) (hw _ (List.mem_of_getElem? (i := 31) rfl)) (ty := .boolean) (v' := (.int zB)) (by decide) (own_bit bit_zB).1 (own_bit bit_zB).2 (g := (mkF m 22 #[.val (.ref a), .val (.ref sn), .val (.int zA), .val (.long qA), .second, .val (.int zB), .val (.int pA), .val (.ref lA), .val (.long qB), .second, .val (.int zC), .val (.ref lB), .val (.ref lC), .val (.int pB), .val (.int zD)] [(.int zB), (.ref a)])) rfl rfl (hb hby own_d10_22)
  have Z9 : n0 ≤ h9.size := Nat.le_trans Z6 (Keep.of_wr W9).1
  have K9 := K6.wr W9 (Or.inl (List.mem_of_getElem? (i := 0) rfl))
  have N9 := Fr.snoc X9 N6 g_a
  have F9 := f10.same W9
  refine Go.back (t' := (T9.setTop (mkF m 25 #[.val (.ref a), .val (.ref sn), .val (.int zA), .val (.long qA), .second, .val (.int zB), .val (.int pA), .val (.ref lA), .val (.long qB), .second, .val (.int zC), .val (.ref lB), .val (.ref lC), .val (.int pB), .val (.int zD)] []))) st9 ?_
  refine Go.back (t' := (T9.setTop (mkF m 26 #[.val (.ref a), .val (.ref sn), .val (.int zA), .val (.long qA), .second, .val (.int zB), .val (.int pA), .val (.ref lA), .val (.long qB), .second, .val (.int zC), .val (.ref lB), .val (.ref lC), .val (.int pB), .val (.int zD)] [(.ref a)]))) (fun u k => XS.aloadN X9.here hx rfl (hb hby own_d10_25) rfl rfl k) ?_
  refine Go.back (t' := (T9.setTop (mkF m 28 #[.val (.ref a), .val (.ref sn), .val (.int zA), .val (.long qA), .second, .val (.int zB), .val (.int pA), .val (.ref lA), .val (.long qB), .second, .val (.int zC), .val (.ref lB), .val (.ref lC), .val (.int pB), .val (.int zD)] [(.int pA), (.ref a)]))) (fun u k => XS.iload X9.here hx rfl (hb hby own_d10_26) rfl k) ?_
  have f13 := ((((F_a_triggerEvents.other W2 (Or.inr (slot_ne (Or.inr (hw _ (List.mem_of_getElem? (i := 70) rfl))) (Or.inr (hw _ (List.mem_of_getElem? (i := 62) rfl))) (by decide) (t := .int) (t' := (.object "java/lang/String")) (by decide) (by decide)))).other W3 (Or.inr (slot_ne (Or.inr (hw _ (List.mem_of_getElem? (i := 70) rfl))) (Or.inr (hw _ (List.mem_of_getElem? (i := 64) rfl))) (by decide) (t := .int) (t' := .boolean) (by decide) (by decide)))).other W6 (Or.inr (slot_ne (Or.inr (hw _ (List.mem_of_getElem? (i := 70) rfl))) (Or.inr (hw _ (List.mem_of_getElem? (i := 66) rfl))) (by decide) (t := .int) (t' := .long) (by decide) (by decide)))).other W9 (Or.inr (slot_ne (Or.inr (hw _ (List.mem_of_getElem? (i := 70) rfl))) (Or.inr (hw _ (List.mem_of_getElem? (i := 68) rfl))) (by decide) (t := .int) (t' := .boolean) (by decide) (by decide))))
  have f14 := (f11.wr W9)
  obtain ⟨T12, h12, X12, e12, W12, st12⟩ := putF X9 hx hZ hown (host := "") (Or.inl (hw _ (List.mem_of_getElem? (i := 69) rfl))) Via.refl e9 f13 f14 (Or.inr ⟨(hw _ (List.mem_of_getElem? (i := 70) rfl)), rfl, hnm⟩) (hw _ (List.mem_of_getElem? (i := 31) rfl)) (ty := .int) (by decide) rfl rfl (g := (mkF m 28 #[.val (.ref a), .val (.ref sn), .val (.int zA), .val (.long qA), .second, .val (.int zB), .val (.int pA), .val (.ref lA), .val (.long qB), .second, .val (.int zC), .val (.ref lB), .val (.ref lC), .val (.int pB), .val (.int zD)] [(.int pA), (.ref a)])) rfl rfl (hb hby own_d10_28)
  have Z12 : n0 ≤ h12.size := Nat.le_trans Z9 (Keep.of_wr W12).1
  have K12 := K9.wr W12 (Or.inl (List.mem_of_getElem? (i := 0) rfl))
  have N12 := Fr.snoc X12 N9 g_a
  have F12 := f13.same W12
  refine Go.back (t' := (T12.setTop (mkF m 31 #[.val (.ref a), .val (.ref sn), .val (.int zA), .val (.long qA), .second, .val (.int zB), .val (.int pA), .val (.ref lA), .val (.long qB), .second, .val (.int zC), .val (.ref lB), .val (.ref lC), .val (.int pB), .val (.int zD)] []))) st12 ?_
  refine Go.back (t' := (T12.setTop (mkF m 32 #[.val (.ref a), .val (.ref sn), .val (.int zA), .val (.long qA), .second, .val (.int zB), .val (.int pA), .val (.ref lA), .val (.long qB), .second, .val (.int zC), .val (.ref lB), .val (.ref lC), .val (.int pB), .val (.int zD)] [(.ref a)]))) (fun u k => XS.aloadN X12.here hx rfl (hb hby own_d10_31) rfl rfl k) ?_
  refine Go.back (t' := (T12.setTop (mkF m 34 #[.val (.ref a), .val (.ref sn), .val (.int zA), .val (.long qA), .second, .val (.int zB), .val (.int pA), .val (.ref lA), .val (.long qB), .second, .val (.int zC), .val (.ref lB), .val (.ref lC), .val (.int pB), .val (.int zD)] [(.ref lA), (.ref a)]))) (fun u k => XS.aload X12.here hx rfl (hb hby own_d10_32) rfl rfl k) ?_
  have f16 := (((((F_a_referencing.other W2 (Or.inr (slot_ne (Or.inr (hw _ (List.mem_of_getElem? (i := 72) rfl))) (Or.inr (hw _ (List.mem_of_getElem? (i := 62) rfl))) (by decide) (t := (.object "java/util/List")) (t' := (.object "java/lang/String")) (by decide) (by decide)))).other W3 (Or.inr (slot_ne (Or.inr (hw _ (List.mem_of_getElem? (i := 72) rfl))) (Or.inr (hw _ (List.mem_of_getElem? (i := 64) rfl))) (by decide) (t := (.object "java/util/List")) (t' := .boolean) (by decide) (by decide)))).other W6 (Or.inr (slot_ne (Or.inr (hw _ (List.mem_of_getElem? (i := 72) rfl))) (Or.inr (hw _ (List.mem_of_getElem? (i := 66) rfl))) (by decide) (t := (.object "java/util/List")) (t' := .long) (by decide) (by decide)))).other W9 (Or.inr (slot_ne (Or.inr (hw _ (List.mem_of_getElem? (i := 72) rfl))) (Or.inr (hw _ (List.mem_of_getElem? (i := 68) rfl))) (by decide) (t := (.object "java/util/List")) (t' := .boolean) (by decide) (by decide)))).other W12 (Or.inr (slot_ne (Or.inr (hw _ (List.mem_of_getElem? (i := 72) rfl))) (Or.inr (hw _ (List.mem_of_getElem? (i := 70) rfl))) (by decide) (t := (.object "java/util/List")) (t' := .int) (by decide) (by decide))))
  have f17 := (f14.wr W12)
  obtain ⟨T15, h15, X15, e15, W15, st15⟩ := putF X12 hx hZ hown (host := "") (Or.inl (hw _ (List.mem_of_getElem? (i := 71) rfl))) Via.refl e12 f16 f17 (Or.inr ⟨(hw _ (List.mem_of_getElem? (i := 72) rfl)), rfl, hnm⟩) (hw _ (List.mem_of_getElem? (i := 31) rfl)) (ty := (.object "java/util/List")) (by decide) rfl rfl (g := (mkF m 34 #[.val (.ref a), .val (.ref sn), .val (.int zA), .val (.long qA), .second, .val (.int zB), .val (.int pA), .val (.ref lA), .val (.long qB), .second, .val (.int zC), .val (.ref lB), .val (.ref lC), .val (.int pB), .val (.int zD)] [(.ref lA), (.ref a)])) rfl rfl (hb hby own_d10_34)
  have Z15 : n0 ≤ h15.size := Nat.le_trans Z12 (Keep.of_wr W15).1
  have K15 := K12.wr W15 (Or.inl (List.mem_of_getElem? (i := 0) rfl))
  have N15 := Fr.snoc X15 N12 g_a
  have F15 := f16.same W15
  refine Go.back (t' := (T15.setTop (mkF m 37 #[.val (.ref a), .val (.ref sn), .val (.int zA), .val (.long qA), .second, .val (.int zB), .val (.int pA), .val (.ref lA), .val (.long qB), .second, .val (.int zC), .val (.ref lB), .val (.ref lC), .val (.int pB), .val (.int zD)] []))) st15 ?_
  refine Go.back (t' := (T15.setTop (mkF m 38 #[.val (.ref a), .val (.ref sn), .val (.int zA), .val (.long qA), .second, .val (.int zB), .val (.int pA), .val (.ref lA), .val (.long qB), .second, .val (.int zC), .val (.ref lB), .val (.ref lC), .val (.int pB), .val (.int zD)] [(.ref a)]))) (fun u k => XS.aloadN X15.here hx rfl (hb hby own_d10_37) rfl rfl k) ?_
  refine Go.back (t' := (T15.setTop (mkF m 40 #[.val (.ref a), .val (.ref sn), .val (.int zA), .val (.long qA), .second, .val (.int zB), .val (.int pA), .val (.ref lA), .val (.long qB), .second, .val (.int zC), .val (.ref lB), .val (.ref lC), .val (.int pB), .val (.int zD)] [(.long qB), (.ref a)]))) (fun u k => XT.lload X15.here hx rfl (hb hby own_d10_38) rfl k) ?_
  have f19 := ((((((F_a_size.other W2 (Or.inr (slot_ne (Or.inr (hw _ (List.mem_of_getElem? (i := 74) rfl))) (Or.inr (hw _ (List.mem_of_getElem? (i := 62) rfl))) (by decide) (t := .long) (t' := (.object "java/lang/String")) (by decide) (by decide)))).other W3 (Or.inr (slot_ne (Or.inr (hw _ (List.mem_of_getElem? (i := 74) rfl))) (Or.inr (hw _ (List.mem_of_getElem? (i := 64) rfl))) (by decide) (t := .long) (t' := .boolean) (by decide) (by decide)))).other W6 (Or.inr (slot_ne (Or.inr (hw _ (List.mem_of_getElem? (i := 74) rfl))) (Or.inr (hw _ (List.mem_of_getElem? (i := 66) rfl))) (by decide) (t := .long) (t' := .long) (by decide) (by decide)))).other W9 (Or.inr (slot_ne (Or.inr (hw _ (List.mem_of_getElem? (i := 74) rfl))) (Or.inr (hw _ (List.mem_of_getElem? (i := 68) rfl))) (by decide) (t := .long) (t' := .boolean) (by decide) (by decide)))).other W12 (Or.inr (slot_ne (Or.inr (hw _ (List.mem_of_getElem? (i := 74) rfl))) (Or.inr (hw _ (List.mem_of_getElem? (i := 70) rfl))) (by decide) (t := .long) (t' := .int) (by decide) (by decide)))).other W15 (Or.inr (slot_ne (Or.inr (hw _ (List.mem_of_getElem? (i := 74) rfl))) (Or.inr (hw _ (List.mem_of_getElem? (i := 72) rfl))) (by decide) (t := .long) (t' := (.object "java/util/List")) (by decide) (by decide))))
  have f20 := (f17.wr W15)
  obtain ⟨T18, h18, X18, e18, W18, st18⟩ := putF X15 hx hZ hown (host := "") (Or.inl (hw _ (List.mem_of_getElem? (i := 73) rfl))) Via.refl e15 f19 f20 (Or.inr ⟨(hw _ (List.mem_of_getElem? (i := 74) rfl)), rfl, hnm⟩) (hw _ (List.mem_of_getElem? (i := 31) rfl)) (ty := .long) (by decide) rfl rfl (g := (mkF m 40 #[.val (.ref a), .val (.ref sn), .val (.int zA), .val (.long qA), .second, .val (.int zB), .val (.int pA), .val (.ref lA), .val (.long qB), .second, .val (.int zC), .val (.ref lB), .val (.ref lC), .val (.int pB), .val (.int zD)] [(.long qB), (.ref a)])) rfl rfl (hb hby own_d10_40)
  have Z18 : n0 ≤ h18.size := Nat.le_trans Z15 (Keep.of_wr W18).1
  have K18 := K15.wr W18 (Or.inl (List.mem_of_getElem? (i := 0) rfl))
  have N18 := Fr.snoc X18 N15 g_a
  have F18 := f19.same W18
  refine Go.back (t' := (T18.setTop (mkF m 43 #[.val (.ref a), .val (.ref sn), .val (.int zA), .val (.long qA), .second, .val (.int zB), .val (.int pA), .val (.ref lA), .val (.long qB), .second, .val (.int zC), .val (.ref lB), .val (.ref lC), .val (.int pB), .val (.int zD)] []))) st18 ?_
  refine Go.back (t' := (T18.setTop (mkF m 44 #[.val (.ref a), .val (.ref sn), .val (.int zA), .val (.long qA), .second, .val (.int zB), .val (.int pA), .val (.ref lA), .val (.long qB), .second, .val (.int zC), .val (.ref lB), .val (.ref lC), .val (.int pB), .val (.int zD)] [(.ref a)]))) (fun u k => XS.aloadN X18.here hx rfl (hb hby own_d10_43) rfl rfl k) ?_
  refine Go.back (t' := (T18.setTop (mkF m 46 #[.val (.ref a), .val (.ref sn), .val (.int zA), .val (.long qA), .second, .val (.int zB), .val (.int pA), .val (.ref lA), .val (.long qB), .second, .val (.int zC), .val (.ref lB), .val (.ref lC), .val (.int pB), .val (.int zD)] [(.int zC), (.ref a)]))) (fun u k => XS.iload X18.here hx rfl (hb hby own_d10_44) rfl k) ?_
  have f22 := (((((((F_a_ruledOnDelete.other W2 (Or.inr (slot_ne (Or.inr (hw _ (List.mem_of_getElem? (i := 76) rfl))) (Or.inr (hw _ (List.mem_of_getElem? (i := 62) rfl))) (by decide) (t := .boolean) (t' := (.object "java/lang/String")) (by decide) (by decide)))).other W3 (Or.inr (slot_ne (Or.inr (hw _ (List.mem_of_getElem? (i := 76) rfl))) (Or.inr (hw _ (List.mem_of_getElem? (i := 64) rfl))) (by decide) (t := .boolean) (t' := .boolean) (by decide) (by decide)))).other W6 (Or.inr (slot_ne (Or.inr (hw _ (List.mem_of_getElem? (i := 76) rfl))) (Or.inr (hw _ (List.mem_of_getElem? (i := 66) rfl))) (by decide) (t := .boolean) (t' := .long) (by decide) (by decide)))).other W9 (Or.inr (slot_ne (Or.inr (hw _ (List.mem_of_getElem? (i := 76) rfl))) (Or.inr (hw _ (List.mem_of_getElem? (i := 68) rfl))) (by decide) (t := .boolean) (t' := .boolean) (by decide) (by decide)))).other W12 (Or.inr (slot_ne (Or.inr (hw _ (List.mem_of_getElem? (i := 76) rfl))) (Or.inr (hw _ (List.mem_of_getElem? (i := 70) rfl))) (by decide) (t := .boolean) (t' := .int) (by decide) (by decide)))).other W15 (Or.inr (slot_ne (Or.inr (hw _ (List.mem_of_getElem? (i := 76) rfl))) (Or.inr (hw _ (List.mem_of_getElem? (i := 72) rfl))) (by decide) (t := .boolean) (t' := (.object "java/util/List")) (by decide) (by decide)))).other W18 (Or.inr (slot_ne (Or.inr (hw _ (List.mem_of_getElem? (i := 76) rfl))) (Or.inr (hw _ (List.mem_of_getElem? (i := 74) rfl))) (by decide) (t := .boolean) (t' := .long) (by decide) (by decide))))
  have f23 := (f20.wr W18)
  obtain ⟨T21, h21, X21, e21, W21, st21⟩ := putFN X18 hx hZ hown (hw _ (List.mem_of_getElem? (i := 75) rfl)) Via.refl e18 f22 f23 (Or.inr ⟨(hw _ (List.mem_of_getElem? (i := 76) rfl)), rfl, hnm⟩) (hw _ (List.mem_of_getElem? (i := 31) rfl)) (ty := .boolean) (v' := (.int zC)) (by decide) (own_bit bit_zC).1 (own_bit bit_zC).2 (g := (mkF m 46 #[.val (.ref a), .val (.ref sn), .val (.int zA), .val (.long qA), .second, .val (.int zB), .val (.int pA), .val (.ref lA), .val (.long qB), .second, .val (.int zC), .val (.ref lB), .val (.ref lC), .val (.int pB), .val (.int zD)] [(.int zC), (.ref a)])) rfl rfl (hb hby own_d10_46)
  have Z21 : n0 ≤ h21.size := Nat.le_trans Z18 (Keep.of_wr W21).1
  have K21 := K18.wr W21 (Or.inl (List.mem_of_getElem? (i := 0) rfl))
  have N21 := Fr.snoc X21 N18 g_a
  have F21 := f22.same W21
  refine Go.back (t' := (T21.setTop (mkF m 49 #[.val (.ref a), .val (.ref sn), .val (.int zA), .val (.long qA), .second, .val (.int zB), .val (.int pA), .val (.ref lA), .val (.long qB), .second, .val (.int zC), .val (.ref lB), .val (.ref lC), .val (.int pB), .val (.int zD)] []))) st21 ?_
  refine Go.back (t' := (T21.setTop (mkF m 50 #[.val (.ref a), .val (.ref sn), .val (.int zA), .val (.long qA), .second, .val (.int zB), .val (.int pA), .val (.ref lA), .val (.long qB), .second, .val (.int zC), .val (.ref lB), .val (.ref lC), .val (.int pB), .val (.int zD)] [(.ref a)]))) (fun u k => XS.aloadN X21.here hx rfl (hb hby own_d10_49) rfl rfl k) ?_
  refine Go.back (t' := (T21.setTop (mkF m 52 #[.val (.ref a), .val (.ref sn), .val (.int zA), .val (.long qA), .second, .val (.int zB), .val (.int pA), .val (.ref lA), .val (.long qB), .second, .val (.int zC), .val (.ref lB), .val (.ref lC), .val (.int pB), .val (.int zD)] [(.ref lB), (.ref a)]))) (fun u k => XS.aload X21.here hx rfl (hb hby own_d10_50) rfl rfl k) ?_
  have f25 := ((((((((F_a_partitionsElsewhere.other W2 (Or.inr (slot_ne (Or.inr (hw _ (List.mem_of_getElem? (i := 78) rfl))) (Or.inr (hw _ (List.mem_of_getElem? (i := 62) rfl))) (by decide) (t := (.object "java/util/List")) (t' := (.object "java/lang/String")) (by decide) (by decide)))).other W3 (Or.inr (slot_ne (Or.inr (hw _ (List.mem_of_getElem? (i := 78) rfl))) (Or.inr (hw _ (List.mem_of_getElem? (i := 64) rfl))) (by decide) (t := (.object "java/util/List")) (t' := .boolean) (by decide) (by decide)))).other W6 (Or.inr (slot_ne (Or.inr (hw _ (List.mem_of_getElem? (i := 78) rfl))) (Or.inr (hw _ (List.mem_of_getElem? (i := 66) rfl))) (by decide) (t := (.object "java/util/List")) (t' := .long) (by decide) (by decide)))).other W9 (Or.inr (slot_ne (Or.inr (hw _ (List.mem_of_getElem? (i := 78) rfl))) (Or.inr (hw _ (List.mem_of_getElem? (i := 68) rfl))) (by decide) (t := (.object "java/util/List")) (t' := .boolean) (by decide) (by decide)))).other W12 (Or.inr (slot_ne (Or.inr (hw _ (List.mem_of_getElem? (i := 78) rfl))) (Or.inr (hw _ (List.mem_of_getElem? (i := 70) rfl))) (by decide) (t := (.object "java/util/List")) (t' := .int) (by decide) (by decide)))).other W15 (Or.inr (slot_ne (Or.inr (hw _ (List.mem_of_getElem? (i := 78) rfl))) (Or.inr (hw _ (List.mem_of_getElem? (i := 72) rfl))) (by decide) (t := (.object "java/util/List")) (t' := (.object "java/util/List")) (by decide) (by decide)))).other W18 (Or.inr (slot_ne (Or.inr (hw _ (List.mem_of_getElem? (i := 78) rfl))) (Or.inr (hw _ (List.mem_of_getElem? (i := 74) rfl))) (by decide) (t := (.object "java/util/List")) (t' := .long) (by decide) (by decide)))).other W21 (Or.inr (slot_ne (Or.inr (hw _ (List.mem_of_getElem? (i := 78) rfl))) (Or.inr (hw _ (List.mem_of_getElem? (i := 76) rfl))) (by decide) (t := (.object "java/util/List")) (t' := .boolean) (by decide) (by decide))))
  have f26 := (f23.wr W21)
  obtain ⟨T24, h24, X24, e24, W24, st24⟩ := putF X21 hx hZ hown (host := "") (Or.inl (hw _ (List.mem_of_getElem? (i := 77) rfl))) Via.refl e21 f25 f26 (Or.inr ⟨(hw _ (List.mem_of_getElem? (i := 78) rfl)), rfl, hnm⟩) (hw _ (List.mem_of_getElem? (i := 31) rfl)) (ty := (.object "java/util/List")) (by decide) rfl rfl (g := (mkF m 52 #[.val (.ref a), .val (.ref sn), .val (.int zA), .val (.long qA), .second, .val (.int zB), .val (.int pA), .val (.ref lA), .val (.long qB), .second, .val (.int zC), .val (.ref lB), .val (.ref lC), .val (.int pB), .val (.int zD)] [(.ref lB), (.ref a)])) rfl rfl (hb hby own_d10_52)
  have Z24 : n0 ≤ h24.size := Nat.le_trans Z21 (Keep.of_wr W24).1
  have K24 := K21.wr W24 (Or.inl (List.mem_of_getElem? (i := 0) rfl))
  have N24 := Fr.snoc X24 N21 g_a
  have F24 := f25.same W24
  refine Go.back (t' := (T24.setTop (mkF m 55 #[.val (.ref a), .val (.ref sn), .val (.int zA), .val (.long qA), .second, .val (.int zB), .val (.int pA), .val (.ref lA), .val (.long qB), .second, .val (.int zC), .val (.ref lB), .val (.ref lC), .val (.int pB), .val (.int zD)] []))) st24 ?_
  refine Go.back (t' := (T24.setTop (mkF m 56 #[.val (.ref a), .val (.ref sn), .val (.int zA), .val (.long qA), .second, .val (.int zB), .val (.int pA), .val (.ref lA), .val (.long qB), .second, .val (.int zC), .val (.ref lB), .val (.ref lC), .val (.int pB), .val (.int zD)] [(.ref a)]))) (fun u k => XS.aloadN X24.here hx rfl (hb hby own_d10_55) rfl rfl k) ?_
  refine Go.back (t' := (T24.setTop (mkF m 58 #[.val (.ref a), .val (.ref sn), .val (.int zA), .val (.long qA), .second, .val (.int zB), .val (.int pA), .val (.ref lA), .val (.long qB), .second, .val (.int zC), .val (.ref lB), .val (.ref lC), .val (.int pB), .val (.int zD)] [(.ref lC), (.ref a)]))) (fun u k => XS.aload X24.here hx rfl (hb hby own_d10_56) rfl rfl k) ?_
  have f28 := (((((((((F_a_referencingUnindexed.other W2 (Or.inr (slot_ne (Or.inr (hw _ (List.mem_of_getElem? (i := 80) rfl))) (Or.inr (hw _ (List.mem_of_getElem? (i := 62) rfl))) (by decide) (t := (.object "java/util/List")) (t' := (.object "java/lang/String")) (by decide) (by decide)))).other W3 (Or.inr (slot_ne (Or.inr (hw _ (List.mem_of_getElem? (i := 80) rfl))) (Or.inr (hw _ (List.mem_of_getElem? (i := 64) rfl))) (by decide) (t := (.object "java/util/List")) (t' := .boolean) (by decide) (by decide)))).other W6 (Or.inr (slot_ne (Or.inr (hw _ (List.mem_of_getElem? (i := 80) rfl))) (Or.inr (hw _ (List.mem_of_getElem? (i := 66) rfl))) (by decide) (t := (.object "java/util/List")) (t' := .long) (by decide) (by decide)))).other W9 (Or.inr (slot_ne (Or.inr (hw _ (List.mem_of_getElem? (i := 80) rfl))) (Or.inr (hw _ (List.mem_of_getElem? (i := 68) rfl))) (by decide) (t := (.object "java/util/List")) (t' := .boolean) (by decide) (by decide)))).other W12 (Or.inr (slot_ne (Or.inr (hw _ (List.mem_of_getElem? (i := 80) rfl))) (Or.inr (hw _ (List.mem_of_getElem? (i := 70) rfl))) (by decide) (t := (.object "java/util/List")) (t' := .int) (by decide) (by decide)))).other W15 (Or.inr (slot_ne (Or.inr (hw _ (List.mem_of_getElem? (i := 80) rfl))) (Or.inr (hw _ (List.mem_of_getElem? (i := 72) rfl))) (by decide) (t := (.object "java/util/List")) (t' := (.object "java/util/List")) (by decide) (by decide)))).other W18 (Or.inr (slot_ne (Or.inr (hw _ (List.mem_of_getElem? (i := 80) rfl))) (Or.inr (hw _ (List.mem_of_getElem? (i := 74) rfl))) (by decide) (t := (.object "java/util/List")) (t' := .long) (by decide) (by decide)))).other W21 (Or.inr (slot_ne (Or.inr (hw _ (List.mem_of_getElem? (i := 80) rfl))) (Or.inr (hw _ (List.mem_of_getElem? (i := 76) rfl))) (by decide) (t := (.object "java/util/List")) (t' := .boolean) (by decide) (by decide)))).other W24 (Or.inr (slot_ne (Or.inr (hw _ (List.mem_of_getElem? (i := 80) rfl))) (Or.inr (hw _ (List.mem_of_getElem? (i := 78) rfl))) (by decide) (t := (.object "java/util/List")) (t' := (.object "java/util/List")) (by decide) (by decide))))
  have f29 := (f26.wr W24)
  obtain ⟨T27, h27, X27, e27, W27, st27⟩ := putF X24 hx hZ hown (host := "") (Or.inl (hw _ (List.mem_of_getElem? (i := 79) rfl))) Via.refl e24 f28 f29 (Or.inr ⟨(hw _ (List.mem_of_getElem? (i := 80) rfl)), rfl, hnm⟩) (hw _ (List.mem_of_getElem? (i := 31) rfl)) (ty := (.object "java/util/List")) (by decide) rfl rfl (g := (mkF m 58 #[.val (.ref a), .val (.ref sn), .val (.int zA), .val (.long qA), .second, .val (.int zB), .val (.int pA), .val (.ref lA), .val (.long qB), .second, .val (.int zC), .val (.ref lB), .val (.ref lC), .val (.int pB), .val (.int zD)] [(.ref lC), (.ref a)])) rfl rfl (hb hby own_d10_58)
  have Z27 : n0 ≤ h27.size := Nat.le_trans Z24 (Keep.of_wr W27).1
  have K27 := K24.wr W27 (Or.inl (List.mem_of_getElem? (i := 0) rfl))
  have N27 := Fr.snoc X27 N24 g_a
  have F27 := f28.same W27
  refine Go.back (t' := (T27.setTop (mkF m 61 #[.val (.ref a), .val (.ref sn), .val (.int zA), .val (.long qA), .second, .val (.int zB), .val (.int pA), .val (.ref lA), .val (.long qB), .second, .val (.int zC), .val (.ref lB), .val (.ref lC), .val (.int pB), .val (.int zD)] []))) st27 ?_
  refine Go.back (t' := (T27.setTop (mkF m 62 #[.val (.ref a), .val (.ref sn), .val (.int zA), .val (.long qA), .second, .val (.int zB), .val (.int pA), .val (.ref lA), .val (.long qB), .second, .val (.int zC), .val (.ref lB), .val (.ref lC), .val (.int pB), .val (.int zD)] [(.ref a)]))) (fun u k => XS.aloadN X27.here hx rfl (hb hby own_d10_61) rfl rfl k) ?_
  refine Go.back (t' := (T27.setTop (mkF m 64 #[.val (.ref a), .val (.ref sn), .val (.int zA), .val (.long qA), .second, .val (.int zB), .val (.int pA), .val (.ref lA), .val (.long qB), .second, .val (.int zC), .val (.ref lB), .val (.ref lC), .val (.int pB), .val (.int zD)] [(.int pB), (.ref a)]))) (fun u k => XS.iload X27.here hx rfl (hb hby own_d10_62) rfl k) ?_
  have f31 := ((((((((((F_a_indexes.other W2 (Or.inr (slot_ne (Or.inr (hw _ (List.mem_of_getElem? (i := 82) rfl))) (Or.inr (hw _ (List.mem_of_getElem? (i := 62) rfl))) (by decide) (t := .int) (t' := (.object "java/lang/String")) (by decide) (by decide)))).other W3 (Or.inr (slot_ne (Or.inr (hw _ (List.mem_of_getElem? (i := 82) rfl))) (Or.inr (hw _ (List.mem_of_getElem? (i := 64) rfl))) (by decide) (t := .int) (t' := .boolean) (by decide) (by decide)))).other W6 (Or.inr (slot_ne (Or.inr (hw _ (List.mem_of_getElem? (i := 82) rfl))) (Or.inr (hw _ (List.mem_of_getElem? (i := 66) rfl))) (by decide) (t := .int) (t' := .long) (by decide) (by decide)))).other W9 (Or.inr (slot_ne (Or.inr (hw _ (List.mem_of_getElem? (i := 82) rfl))) (Or.inr (hw _ (List.mem_of_getElem? (i := 68) rfl))) (by decide) (t := .int) (t' := .boolean) (by decide) (by decide)))).other W12 (Or.inr (slot_ne (Or.inr (hw _ (List.mem_of_getElem? (i := 82) rfl))) (Or.inr (hw _ (List.mem_of_getElem? (i := 70) rfl))) (by decide) (t := .int) (t' := .int) (by decide) (by decide)))).other W15 (Or.inr (slot_ne (Or.inr (hw _ (List.mem_of_getElem? (i := 82) rfl))) (Or.inr (hw _ (List.mem_of_getElem? (i := 72) rfl))) (by decide) (t := .int) (t' := (.object "java/util/List")) (by decide) (by decide)))).other W18 (Or.inr (slot_ne (Or.inr (hw _ (List.mem_of_getElem? (i := 82) rfl))) (Or.inr (hw _ (List.mem_of_getElem? (i := 74) rfl))) (by decide) (t := .int) (t' := .long) (by decide) (by decide)))).other W21 (Or.inr (slot_ne (Or.inr (hw _ (List.mem_of_getElem? (i := 82) rfl))) (Or.inr (hw _ (List.mem_of_getElem? (i := 76) rfl))) (by decide) (t := .int) (t' := .boolean) (by decide) (by decide)))).other W24 (Or.inr (slot_ne (Or.inr (hw _ (List.mem_of_getElem? (i := 82) rfl))) (Or.inr (hw _ (List.mem_of_getElem? (i := 78) rfl))) (by decide) (t := .int) (t' := (.object "java/util/List")) (by decide) (by decide)))).other W27 (Or.inr (slot_ne (Or.inr (hw _ (List.mem_of_getElem? (i := 82) rfl))) (Or.inr (hw _ (List.mem_of_getElem? (i := 80) rfl))) (by decide) (t := .int) (t' := (.object "java/util/List")) (by decide) (by decide))))
  have f32 := (f29.wr W27)
  obtain ⟨T30, h30, X30, e30, W30, st30⟩ := putF X27 hx hZ hown (host := "") (Or.inl (hw _ (List.mem_of_getElem? (i := 81) rfl))) Via.refl e27 f31 f32 (Or.inr ⟨(hw _ (List.mem_of_getElem? (i := 82) rfl)), rfl, hnm⟩) (hw _ (List.mem_of_getElem? (i := 31) rfl)) (ty := .int) (by decide) rfl rfl (g := (mkF m 64 #[.val (.ref a), .val (.ref sn), .val (.int zA), .val (.long qA), .second, .val (.int zB), .val (.int pA), .val (.ref lA), .val (.long qB), .second, .val (.int zC), .val (.ref lB), .val (.ref lC), .val (.int pB), .val (.int zD)] [(.int pB), (.ref a)])) rfl rfl (hb hby own_d10_64)
  have Z30 : n0 ≤ h30.size := Nat.le_trans Z27 (Keep.of_wr W30).1
  have K30 := K27.wr W30 (Or.inl (List.mem_of_getElem? (i := 0) rfl))
  have N30 := Fr.snoc X30 N27 g_a
  have F30 := f31.same W30
  refine Go.back (t' := (T30.setTop (mkF m 67 #[.val (.ref a), .val (.ref sn), .val (.int zA), .val (.long qA), .second, .val (.int zB), .val (.int pA), .val (.ref lA), .val (.long qB), .second, .val (.int zC), .val (.ref lB), .val (.ref lC), .val (.int pB), .val (.int zD)] []))) st30 ?_
  refine Go.back (t' := (T30.setTop (mkF m 68 #[.val (.ref a), .val (.ref sn), .val (.int zA), .val (.long qA), .second, .val (.int zB), .val (.int pA), .val (.ref lA), .val (.long qB), .second, .val (.int zC), .val (.ref lB), .val (.ref lC), .val (.int pB), .val (.int zD)] [(.ref a)]))) (fun u k => XS.aloadN X30.here hx rfl (hb hby own_d10_67) rfl rfl k) ?_
  refine Go.back (t' := (T30.setTop (mkF m 70 #[.val (.ref a), .val (.ref sn), .val (.int zA), .val (.long qA), .second, .val (.int zB), .val (.int pA), .val (.ref lA), .val (.long qB), .second, .val (.int zC), .val (.ref lB), .val (.ref lC), .val (.int pB), .val (.int zD)] [(.int zD), (.ref a)]))) (fun u k => XS.iload X30.here hx rfl (hb hby own_d10_68) rfl k) ?_
  have f34 := (((((((((((F_a_toasted.other W2 (Or.inr (slot_ne (Or.inr (hw _ (List.mem_of_getElem? (i := 84) rfl))) (Or.inr (hw _ (List.mem_of_getElem? (i := 62) rfl))) (by decide) (t := .boolean) (t' := (.object "java/lang/String")) (by decide) (by decide)))).other W3 (Or.inr (slot_ne (Or.inr (hw _ (List.mem_of_getElem? (i := 84) rfl))) (Or.inr (hw _ (List.mem_of_getElem? (i := 64) rfl))) (by decide) (t := .boolean) (t' := .boolean) (by decide) (by decide)))).other W6 (Or.inr (slot_ne (Or.inr (hw _ (List.mem_of_getElem? (i := 84) rfl))) (Or.inr (hw _ (List.mem_of_getElem? (i := 66) rfl))) (by decide) (t := .boolean) (t' := .long) (by decide) (by decide)))).other W9 (Or.inr (slot_ne (Or.inr (hw _ (List.mem_of_getElem? (i := 84) rfl))) (Or.inr (hw _ (List.mem_of_getElem? (i := 68) rfl))) (by decide) (t := .boolean) (t' := .boolean) (by decide) (by decide)))).other W12 (Or.inr (slot_ne (Or.inr (hw _ (List.mem_of_getElem? (i := 84) rfl))) (Or.inr (hw _ (List.mem_of_getElem? (i := 70) rfl))) (by decide) (t := .boolean) (t' := .int) (by decide) (by decide)))).other W15 (Or.inr (slot_ne (Or.inr (hw _ (List.mem_of_getElem? (i := 84) rfl))) (Or.inr (hw _ (List.mem_of_getElem? (i := 72) rfl))) (by decide) (t := .boolean) (t' := (.object "java/util/List")) (by decide) (by decide)))).other W18 (Or.inr (slot_ne (Or.inr (hw _ (List.mem_of_getElem? (i := 84) rfl))) (Or.inr (hw _ (List.mem_of_getElem? (i := 74) rfl))) (by decide) (t := .boolean) (t' := .long) (by decide) (by decide)))).other W21 (Or.inr (slot_ne (Or.inr (hw _ (List.mem_of_getElem? (i := 84) rfl))) (Or.inr (hw _ (List.mem_of_getElem? (i := 76) rfl))) (by decide) (t := .boolean) (t' := .boolean) (by decide) (by decide)))).other W24 (Or.inr (slot_ne (Or.inr (hw _ (List.mem_of_getElem? (i := 84) rfl))) (Or.inr (hw _ (List.mem_of_getElem? (i := 78) rfl))) (by decide) (t := .boolean) (t' := (.object "java/util/List")) (by decide) (by decide)))).other W27 (Or.inr (slot_ne (Or.inr (hw _ (List.mem_of_getElem? (i := 84) rfl))) (Or.inr (hw _ (List.mem_of_getElem? (i := 80) rfl))) (by decide) (t := .boolean) (t' := (.object "java/util/List")) (by decide) (by decide)))).other W30 (Or.inr (slot_ne (Or.inr (hw _ (List.mem_of_getElem? (i := 84) rfl))) (Or.inr (hw _ (List.mem_of_getElem? (i := 82) rfl))) (by decide) (t := .boolean) (t' := .int) (by decide) (by decide))))
  have f35 := (f32.wr W30)
  obtain ⟨T33, h33, X33, e33, W33, st33⟩ := putFN X30 hx hZ hown (hw _ (List.mem_of_getElem? (i := 83) rfl)) Via.refl e30 f34 f35 (Or.inr ⟨(hw _ (List.mem_of_getElem? (i := 84) rfl)), rfl, hnm⟩) (hw _ (List.mem_of_getElem? (i := 31) rfl)) (ty := .boolean) (v' := (.int zD)) (by decide) (own_bit bit_zD).1 (own_bit bit_zD).2 (g := (mkF m 70 #[.val (.ref a), .val (.ref sn), .val (.int zA), .val (.long qA), .second, .val (.int zB), .val (.int pA), .val (.ref lA), .val (.long qB), .second, .val (.int zC), .val (.ref lB), .val (.ref lC), .val (.int pB), .val (.int zD)] [(.int zD), (.ref a)])) rfl rfl (hb hby own_d10_70)
  have Z33 : n0 ≤ h33.size := Nat.le_trans Z30 (Keep.of_wr W33).1
  have K33 := K30.wr W33 (Or.inl (List.mem_of_getElem? (i := 0) rfl))
  have N33 := Fr.snoc X33 N30 g_a
  have F33 := f34.same W33
  refine Go.back (t' := (T33.setTop (mkF m 73 #[.val (.ref a), .val (.ref sn), .val (.int zA), .val (.long qA), .second, .val (.int zB), .val (.int pA), .val (.ref lA), .val (.long qB), .second, .val (.int zC), .val (.ref lB), .val (.ref lC), .val (.int pB), .val (.int zD)] []))) st33 ?_
  have f36 := (f35.wr W33)
  have f37 := (((((((F12.other W15 (Or.inr (slot_ne (Or.inr (hw _ (List.mem_of_getElem? (i := 70) rfl))) (Or.inr (hw _ (List.mem_of_getElem? (i := 72) rfl))) (by decide) (t := .int) (t' := (.object "java/util/List")) (by decide) (by decide)))).other W18 (Or.inr (slot_ne (Or.inr (hw _ (List.mem_of_getElem? (i := 70) rfl))) (Or.inr (hw _ (List.mem_of_getElem? (i := 74) rfl))) (by decide) (t := .int) (t' := .long) (by decide) (by decide)))).other W21 (Or.inr (slot_ne (Or.inr (hw _ (List.mem_of_getElem? (i := 70) rfl))) (Or.inr (hw _ (List.mem_of_getElem? (i := 76) rfl))) (by decide) (t := .int) (t' := .boolean) (by decide) (by decide)))).other W24 (Or.inr (slot_ne (Or.inr (hw _ (List.mem_of_getElem? (i := 70) rfl))) (Or.inr (hw _ (List.mem_of_getElem? (i := 78) rfl))) (by decide) (t := .int) (t' := (.object "java/util/List")) (by decide) (by decide)))).other W27 (Or.inr (slot_ne (Or.inr (hw _ (List.mem_of_getElem? (i := 70) rfl))) (Or.inr (hw _ (List.mem_of_getElem? (i := 80) rfl))) (by decide) (t := .int) (t' := (.object "java/util/List")) (by decide) (by decide)))).other W30 (Or.inr (slot_ne (Or.inr (hw _ (List.mem_of_getElem? (i := 70) rfl))) (Or.inr (hw _ (List.mem_of_getElem? (i := 82) rfl))) (by decide) (t := .int) (t' := .int) (by decide) (by decide)))).other W33 (Or.inr (slot_ne (Or.inr (hw _ (List.mem_of_getElem? (i := 70) rfl))) (Or.inr (hw _ (List.mem_of_getElem? (i := 84) rfl))) (by decide) (t := .int) (t' := .boolean) (by decide) (by decide))))
  obtain ⟨fs, hr, hrun, hended, hW, hsame⟩ := X33.leave (v := none) (fun _ => rfl)
  refine ⟨_, _, X33.returnOut hx Bd.returns (hb hby own_d10_73) hr, hrun, hended, _, _, rfl, ?_, ⟨_, rfl⟩, hW, hsame.mono (by decide) (by decide)⟩
  show Q_own_tbInit Z a sn zA qA zB pA lA qB zC lB lC pB zD h0 n0 _ T33.heap _
  rw [e33]
  exact ⟨rfl, N33, K33, f36, f37⟩
def F_tr (w : Int32) : Int32 := if (w &&& (32 : Int32)) = (0 : Int32) then (0 : Int32) else (1 : Int32)
theorem own_d11_0 : decode prog_51_method_6_code 0 = .ok (.aload_n 0, 1) := by decide +kernel
theorem own_d11_1 : decode prog_51_method_6_code 1 = .ok (.getfield 26, 3) := by decide +kernel
theorem own_d11_4 : decode prog_51_method_6_code 4 = .ok (.bipush 32, 2) := by decide +kernel
theorem own_d11_6 : decode prog_51_method_6_code 6 = .ok (.iand, 1) := by decide +kernel
theorem own_d11_7 : decode prog_51_method_6_code 7 = .ok (.ifCond .eq 7, 3) := by decide +kernel
theorem own_d11_10 : decode prog_51_method_6_code 10 = .ok (.iconst 1, 1) := by decide +kernel
theorem own_d11_11 : decode prog_51_method_6_code 11 = .ok (.goto 4, 3) := by decide +kernel
theorem own_d11_14 : decode prog_51_method_6_code 14 = .ok (.iconst 0, 1) := by decide +kernel
theorem own_d11_15 : decode prog_51_method_6_code 15 = .ok (.ireturn, 1) := by decide +kernel
theorem own_ef_own_tr (m : MethodId) (x0 : Addr) : entryFrame m #[(.ref x0)] 1 = mkF m 0 #[.val (.ref x0)] [] := by first | (simp [entryFrame, mkF, argsToLocals, Value.category]; done) | rfl
def Q_own_tr (Z : State) (a : Addr) (w : Int32) (h0 : Heap) (n0 : Nat) (v : Option Value) (h : Heap) (L : List Loc) : Prop := v = some (.int (F_tr w)) ∧ Fr n0 L ∧ h = h0
set_option maxRecDepth 65536 in
set_option maxHeartbeats 40000000 in
theorem own_tr (l : Launch) (Z : State) (a0 : Array Value) (hw : ∀ d ∈ tables_1, d.before a0 Z = true) (ws : List Jvm.Cond) (a : Addr) (w : Int32) (h0 : Heap) (n0 : Nat) (Z0 : n0 ≤ h0.size) (F_a_triggerEvents : Fld Z h0 a "com/example/persistutils/persistutils/engine/PostgresTables$Table" "triggerEvents" "I" (.int w)) :
    MetFree l (⟨"com/example/persistutils/persistutils/engine/PostgresTables$Table", "triggeredOnTruncate", "()Z"⟩ : MethodName) (head1 (Jvm.Cond.code (⟨"com/example/persistutils/persistutils/engine/PostgresTables$Table", "triggeredOnTruncate", "()Z"⟩ : MethodName) prog_51_method_6_code 1 (some .boolean) :: ws) ({ frames := 0, cells := 0, slots := 0, locals := 0 } : Room)) (fun as_ U => as_ = #[(.ref a)] ∧ Z.Warmed39 U.vm ∧ U.heap = h0) (fun _ _ _ _ _ => True) (fun _ U o U' => ∃ v L, o = .returned v ∧ Q_own_tr Z a w h0 n0 v U'.heap L ∧ FrameEnd U o U' L ({ frames := 0, cells := 0, slots := 0, locals := 0 } : Room).cells ({ frames := 0, cells := 0, slots := 0, locals := 0 } : Room).slots) := by
  refine MetFree.of_bodySF (plainFor_of_name own_pn3) hisR ?_
  intro p e s m args below meth c s₁ Bd hml0 hP hK
  obtain ⟨rfl, hZ, hh⟩ := hP
  have hx := Bd.exec
  have hby := Bd.bytes
  have hml : c.maxLocals = 1 := hml0
  have hown : s.vm.findClass "com/example/persistutils/persistutils/engine/PostgresTables$Table" = some m.cls := findClass_of_methodNamed Bd.named
  have hnm := (name_of_methodNamed Bd.named Bd.method).1
  have X0 : Stand p l e ({ frames := 0, cells := 0, slots := 0, locals := 0 } : Room) s m #[(.ref a)] below meth c s₁ [] 0 0 := Stand.of_body Bd
  have e0 : s₁.heap = h0 := by rw [← hh, Bd.state]; rfl
  have N0 := Fr.nil n0
  have K0 := Keep.refl h0 []
  show Go p e below (own_F s below (Q_own_tr Z a w h0 n0) ({ frames := 0, cells := 0, slots := 0, locals := 0 } : Room).cells ({ frames := 0, cells := 0, slots := 0, locals := 0 } : Room).slots) (s₁.setTop (entryFrame m #[(.ref a)] 1))
  rw [own_ef_own_tr m a]
  refine Go.back (t' := (s₁.setTop (mkF m 1 #[.val (.ref a)] [(.ref a)]))) (fun u k => XS.aloadN X0.here hx rfl (hb hby own_d11_0) rfl rfl k) ?_
  obtain ⟨T1, X1, e1, st1⟩ := getF X0 hx hZ hown (host := "") (Or.inl (hw _ (List.mem_of_getElem? (i := 69) rfl))) Via.refl e0 F_a_triggerEvents (g := (mkF m 1 #[.val (.ref a)] [(.ref a)])) rfl rfl (hb hby own_d11_1)
  refine Go.back (t' := (T1.setTop (mkF m 4 #[.val (.ref a)] [(.int w)]))) st1 ?_
  refine Go.back (t' := (T1.setTop (mkF m 6 #[.val (.ref a)] [(.int (32 : Int32)), (.int w)]))) (fun u k => XT.bipushV X1.here hx rfl (32 : Int32) (hb hby own_d11_4) (by decide) k) ?_
  refine Go.back (t' := (T1.setTop (mkF m 7 #[.val (.ref a)] [(.int (w &&& (32 : Int32)))]))) (fun u k => XS.iand X1.here hx rfl (hb hby own_d11_6) rfl k) ?_
  by_cases hc2 : (w &&& (32 : Int32)) = (0 : Int32)
  · skip
    refine Go.back (t' := (T1.setTop (mkF m 14 #[.val (.ref a)] []))) (fun u k => XS.ifYes X1.here hx rfl (pc0 := 7) (pc' := 14) rfl (hb hby own_d11_7) rfl (XT.i0_eq_t hc2) (by decide) (by decide) k) ?_
    refine Go.back (t' := (T1.setTop (mkF m 15 #[.val (.ref a)] [(.int (0 : Int32))]))) (fun u k => XT.iconstV X1.here hx rfl (0 : Int32) (hb hby own_d11_14) (by decide) k) ?_
    obtain ⟨fs, hr, hrun, hended, hW, hsame⟩ := X1.leave (v := some (.int (0 : Int32))) (fun h => by rw [Bd.returns] at h; cases h)
    refine ⟨_, _, retN X1 hx (t := .boolean) Bd.returns (by simp) (hb hby own_d11_15) hr, hrun, hended, _, _, rfl, ?_, ⟨_, rfl⟩, hW, hsame.mono (by decide) (by decide)⟩
    show Q_own_tr Z a w h0 n0 _ T1.heap _
    rw [e1]
    exact ⟨(by simp only [F_tr, if_pos hc2]), N0, rfl⟩
  · skip
    refine Go.back (t' := (T1.setTop (mkF m 10 #[.val (.ref a)] []))) (fun u k => XS.ifNo X1.here hx rfl (hb hby own_d11_7) rfl (XT.i0_eq_f hc2) k) ?_
    refine Go.back (t' := (T1.setTop (mkF m 11 #[.val (.ref a)] [(.int (1 : Int32))]))) (fun u k => XT.iconstV X1.here hx rfl (1 : Int32) (hb hby own_d11_10) (by decide) k) ?_
    refine Go.back (t' := (T1.setTop (mkF m 15 #[.val (.ref a)] [(.int (1 : Int32))]))) (fun u k => XS.goto X1.here hx rfl (pc0 := 11) (pc' := 15) rfl (hb hby own_d11_11) (by decide) (by decide) k) ?_
    obtain ⟨fs, hr, hrun, hended, hW, hsame⟩ := X1.leave (v := some (.int (1 : Int32))) (fun h => by rw [Bd.returns] at h; cases h)
    refine ⟨_, _, retN X1 hx (t := .boolean) Bd.returns (by simp) (hb hby own_d11_15) hr, hrun, hended, _, _, rfl, ?_, ⟨_, rfl⟩, hW, hsame.mono (by decide) (by decide)⟩
    show Q_own_tr Z a w h0 n0 _ T1.heap _
    rw [e1]
    exact ⟨(by simp only [F_tr, if_neg hc2]), N0, rfl⟩
theorem own_chr (x : Int32) : ¬ (x &&& (255 : Int32)) < 0 ∧ ¬ (255 : Int32) < (x &&& (255 : Int32)) := by
  have m := Jvm.Kit.i32_mask x (255 : Int32) (k := 8) (by decide) (by decide)
  have e0 : (0 : Int32).toInt = 0 := by decide
  have e1 : (255 : Int32).toInt = 255 := by decide
  rw [Int32.lt_iff_toInt_lt, Int32.lt_iff_toInt_lt, m, e0, e1]
  omega
theorem own_bit5 (x : Int32) : (x &&& (32 : Int32)) = (0 : Int32) ↔ x.toBitVec.getLsbD 5 = false := by
  rw [← Int32.toBitVec_inj, Int32.toBitVec_and]
  have h8 : (32 : Int32).toBitVec = BitVec.twoPow 32 5 := by decide
  have h0 : (0 : Int32).toBitVec = 0#32 := by decide
  rw [h8, h0, BitVec.and_twoPow]
  cases x.toBitVec.getLsbD 5 <;> simp <;> decide
theorem own_sh5 (x : Int32) : ((XT.ushr x (5 : Int32)) &&& (1 : Int32)) = (1 : Int32) ↔ x.toBitVec.getLsbD 5 = true := by
  rw [← Int32.toBitVec_inj, Int32.toBitVec_and]
  have h1 : (1 : Int32).toBitVec = BitVec.twoPow 32 0 := by decide
  have e : (XT.ushr x (5 : Int32)).toBitVec = x.toBitVec >>> 5 := by
    show (x.toBitVec >>> ((5 &&& 31 : Int32).toUInt32.toBitVec % 32#32)) = _
    rfl
  rw [e, h1, BitVec.and_twoPow]
  have g : (x.toBitVec >>> 5).getLsbD 0 = x.toBitVec.getLsbD 5 := by simp
  rw [g]
  cases x.toBitVec.getLsbD 5 <;> simp <;> decide
theorem own_k32 (p : Int32) : ∃ k : Fin 32, (p &&& (31 : Int32)) = Int32.ofNat k.val := by
  refine ⟨⟨(p.toBitVec &&& 31#32).toNat, ?_⟩, ?_⟩
  · rw [BitVec.toNat_and]; exact Nat.lt_succ_of_le Nat.and_le_right
  · apply Int32.toBitVec_inj.mp
    rw [Int32.toBitVec_and]
    show p.toBitVec &&& 31#32 = BitVec.ofNat 32 (p.toBitVec &&& 31#32).toNat
    rw [BitVec.ofNat_toNat, BitVec.setWidth_eq]
theorem own_one : ∀ k : Fin 32, ((1 : Int32) <<< (Int32.ofNat k.val &&& 31)).toBitVec.getLsbD 5 = decide (Int32.ofNat k.val = (5 : Int32)) := by decide
theorem own_flip {p k : Int32} (x : Int32) (hk : k = (p &&& (31 : Int32))) : (x ^^^ ((1 : Int32) <<< (k &&& 31))).toBitVec.getLsbD 5 = (x.toBitVec.getLsbD 5 ^^ decide (k = (5 : Int32))) := by
  obtain ⟨i, hi⟩ := own_k32 p
  rw [hk, hi, Int32.toBitVec_xor, BitVec.getLsbD_xor, own_one i]
theorem own_Ftr (x : Int32) : F_tr x = if x.toBitVec.getLsbD 5 = true then (1 : Int32) else (0 : Int32) := by
  unfold F_tr
  cases hb : x.toBitVec.getLsbD 5
  · rw [if_pos ((own_bit5 x).mpr hb), if_neg (by decide)]
  · rw [if_neg (fun q => by rw [(own_bit5 x).mp q] at hb; cases hb), if_pos rfl]
theorem own_tr1 {x e : Int32} (h : e = (if ((XT.ushr x (5 : Int32)) &&& (1 : Int32)) = (1 : Int32) then (1 : Int32) else (0 : Int32))) : F_tr x = e := by
  rw [h, own_Ftr]
  cases hb : x.toBitVec.getLsbD 5
  · rw [if_neg (by decide), if_neg (fun q => by rw [(own_sh5 x).mp q] at hb; cases hb)]
  · rw [if_pos rfl, if_pos ((own_sh5 x).mpr hb)]
theorem own_trY {p k x : Int32} (hk : k = (p &&& (31 : Int32))) (h5 : k = (5 : Int32)) : ¬ F_tr (x ^^^ ((1 : Int32) <<< (k &&& 31))) = F_tr x := by
  rw [own_Ftr, own_Ftr, own_flip x hk]
  cases x.toBitVec.getLsbD 5 <;> simp [h5]
theorem own_trN {p k x : Int32} (hk : k = (p &&& (31 : Int32))) (h5 : ¬ k = (5 : Int32)) : F_tr (x ^^^ ((1 : Int32) <<< (k &&& 31))) = F_tr x := by
  rw [own_Ftr, own_Ftr, own_flip x hk]
  cases x.toBitVec.getLsbD 5 <;> simp [h5]
theorem own_pd1 : parseMethodDescriptor "([C)V" = some ⟨[(.array .char)], none⟩ := by decide +kernel
theorem own_pd2 : parseMethodDescriptor "(Ljava/lang/String;ZJZILjava/util/List;JZLjava/util/List;Ljava/util/List;IZ)V" = some ⟨[(.object "java/lang/String"), .boolean, .long, .boolean, .int, (.object "java/util/List"), .long, .boolean, (.object "java/util/List"), (.object "java/util/List"), .int, .boolean], none⟩ := by decide +kernel
theorem own_pd3 : parseMethodDescriptor "()Z" = some ⟨[], some .boolean⟩ := by decide +kernel
theorem own_pn4 : plainName "com/example/persistutils/persistutils/engine/TableTriggeredOnTruncatePinLaw" = true := by first | (simp [plainName, overriddenIn]; done) | decide +kernel
theorem own_ef_own_law0 (m : MethodId) (x0 : Int32) (x1 : Int32) (x2 : Int32) (x3 : Int64) : entryFrame m #[(.int x0), (.int x1), (.int x2), (.long x3)] maxLocals = mkF m 0 #[.val (.int x0), .val (.int x1), .val (.int x2), .val (.long x3), .second, .unset, .unset, .unset, .unset, .unset, .unset, .unset, .unset, .unset, .unset, .unset, .unset, .unset, .unset, .unset] [] := by first | (simp [entryFrame, mkF, argsToLocals, Value.category, maxLocals]; done) | rfl
def Q_own_law0 (Z : State) (p0 : Int32) (p1 : Int32) (p2 : Int32) (q0 : Int64) (wD : Addr) (gC : Int32) (h0 : Heap) (n0 : Nat) (v : Option Value) (h : Heap) (L : List Loc) : Prop := v = some (.int 1) ∧ Fr n0 L ∧ Keep h0 h []
set_option maxRecDepth 65536 in
set_option maxHeartbeats 40000000 in
theorem own_law0 (l : Launch) (Z : State) (a0 : Array Value) (hw : ∀ d ∈ tables_1, d.before a0 Z = true) (ws : List Jvm.Cond) (p0 : Int32) (p1 : Int32) (p2 : Int32) (q0 : Int64) (wD : Addr) (gC : Int32) (h0 : Heap) (n0 : Nat) (Z0 : n0 ≤ h0.size) (Old0 : Old Z n0 h0) (SD : Sta Z Z.heap "java/util/ArrayList" "DEFAULTCAPACITY_EMPTY_ELEMENTDATA" "[Ljava/lang/Object;" (.ref wD)) (SCS : Sta Z Z.heap "java/lang/String" "COMPACT_STRINGS" "Z" (.int gC)) (P5 : ¬ gC = 0) :
    MetFree l x (head1 (Jvm.Cond.code x code maxLocals ret :: ws) room_1) (fun as_ U => as_ = #[(.int p0), (.int p1), (.int p2), (.long q0)] ∧ Z.Warmed39 U.vm ∧ U.heap = h0) (fun _ _ _ _ _ => True) (fun _ U o U' => ∃ v L, o = .returned v ∧ Q_own_law0 Z p0 p1 p2 q0 wD gC h0 n0 v U'.heap L ∧ FrameEnd U o U' L 32 192) := by
  refine MetFree.of_bodySF (plainFor_of_name own_pn4) hisR ?_
  intro p e s m args below meth c s₁ Bd hml0 hP hK
  obtain ⟨rfl, hZ, hh⟩ := hP
  have hx := Bd.exec
  have hby := Bd.bytes
  have hml : c.maxLocals = 20 := hml0
  have hown : s.vm.findClass "com/example/persistutils/persistutils/engine/TableTriggeredOnTruncatePinLaw" = some m.cls := findClass_of_methodNamed Bd.named
  have hnm := (name_of_methodNamed Bd.named Bd.method).1
  have X0 : Stand p l e room_1 s m #[(.int p0), (.int p1), (.int p2), (.long q0)] below meth c s₁ [] 0 0 := Stand.of_body Bd
  have e0 : s₁.heap = h0 := by rw [← hh, Bd.state]; rfl
  have N0 := Fr.nil n0
  have K0 := Keep.refl h0 []
  show Go p e below (own_F s below (Q_own_law0 Z p0 p1 p2 q0 wD gC h0 n0) 32 192) (s₁.setTop (entryFrame m #[(.int p0), (.int p1), (.int p2), (.long q0)] maxLocals))
  rw [own_ef_own_law0 m p0 p1 p2 q0]
  refine Go.back (t' := (s₁.setTop (mkF m 1 #[.val (.int p0), .val (.int p1), .val (.int p2), .val (.long q0), .second, .unset, .unset, .unset, .unset, .unset, .unset, .unset, .unset, .unset, .unset, .unset, .unset, .unset, .unset, .unset] [(.int p1)]))) (fun u k => XS.iloadN X0.here hx rfl (hb hby at_0) rfl k) ?_
  refine Go.back (t' := (s₁.setTop (mkF m 3 #[.val (.int p0), .val (.int p1), .val (.int p2), .val (.long q0), .second, .unset, .unset, .unset, .unset, .unset, .unset, .unset, .unset, .unset, .unset, .unset, .unset, .unset, .unset, .unset] [(.int (31 : Int32)), (.int p1)]))) (fun u k => XT.bipushV X0.here hx rfl (31 : Int32) (hb hby at_1) (by decide) k) ?_
  refine Go.back (t' := (s₁.setTop (mkF m 4 #[.val (.int p0), .val (.int p1), .val (.int p2), .val (.long q0), .second, .unset, .unset, .unset, .unset, .unset, .unset, .unset, .unset, .unset, .unset, .unset, .unset, .unset, .unset, .unset] [(.int (p1 &&& (31 : Int32)))]))) (fun u k => XS.iand X0.here hx rfl (hb hby at_3) rfl k) ?_
  obtain ⟨kk, h_kk⟩ : ∃ z : Int32, z = (p1 &&& (31 : Int32)) := ⟨_, rfl⟩
  rw [← h_kk]
  refine Go.back (t' := (s₁.setTop (mkF m 6 #[.val (.int p0), .val (.int p1), .val (.int p2), .val (.long q0), .second, .val (.int kk), .unset, .unset, .unset, .unset, .unset, .unset, .unset, .unset, .unset, .unset, .unset, .unset, .unset, .unset] []))) (fun u k => XS.istore X0.here hx rfl (hb hby at_4) rfl (l' := #[.val (.int p0), .val (.int p1), .val (.int p2), .val (.long q0), .second, .val (.int kk), .unset, .unset, .unset, .unset, .unset, .unset, .unset, .unset, .unset, .unset, .unset, .unset, .unset, .unset]) rfl k) ?_
  refine Go.back (t' := (s₁.setTop (mkF m 7 #[.val (.int p0), .val (.int p1), .val (.int p2), .val (.long q0), .second, .val (.int kk), .unset, .unset, .unset, .unset, .unset, .unset, .unset, .unset, .unset, .unset, .unset, .unset, .unset, .unset] [(.int p0)]))) (fun u k => XS.iloadN X0.here hx rfl (hb hby at_6) rfl k) ?_
  refine Go.back (t' := (s₁.setTop (mkF m 8 #[.val (.int p0), .val (.int p1), .val (.int p2), .val (.long q0), .second, .val (.int kk), .unset, .unset, .unset, .unset, .unset, .unset, .unset, .unset, .unset, .unset, .unset, .unset, .unset, .unset] [(.int (1 : Int32)), (.int p0)]))) (fun u k => XT.iconstV X0.here hx rfl (1 : Int32) (hb hby at_7) (by decide) k) ?_
  refine Go.back (t' := (s₁.setTop (mkF m 10 #[.val (.int p0), .val (.int p1), .val (.int p2), .val (.long q0), .second, .val (.int kk), .unset, .unset, .unset, .unset, .unset, .unset, .unset, .unset, .unset, .unset, .unset, .unset, .unset, .unset] [(.int kk), (.int (1 : Int32)), (.int p0)]))) (fun u k => XS.iload X0.here hx rfl (hb hby at_8) rfl k) ?_
  refine Go.back (t' := (s₁.setTop (mkF m 11 #[.val (.int p0), .val (.int p1), .val (.int p2), .val (.long q0), .second, .val (.int kk), .unset, .unset, .unset, .unset, .unset, .unset, .unset, .unset, .unset, .unset, .unset, .unset, .unset, .unset] [(.int ((1 : Int32) <<< (kk &&& 31))), (.int p0)]))) (fun u k => XT.ishl X0.here hx rfl (hb hby at_10) rfl k) ?_
  refine Go.back (t' := (s₁.setTop (mkF m 12 #[.val (.int p0), .val (.int p1), .val (.int p2), .val (.long q0), .second, .val (.int kk), .unset, .unset, .unset, .unset, .unset, .unset, .unset, .unset, .unset, .unset, .unset, .unset, .unset, .unset] [(.int (p0 ^^^ ((1 : Int32) <<< (kk &&& 31))))]))) (fun u k => XT.ixor X0.here hx rfl (hb hby at_11) rfl k) ?_
  refine Go.back (t' := (s₁.setTop (mkF m 14 #[.val (.int p0), .val (.int p1), .val (.int p2), .val (.long q0), .second, .val (.int kk), .val (.int (p0 ^^^ ((1 : Int32) <<< (kk &&& 31)))), .unset, .unset, .unset, .unset, .unset, .unset, .unset, .unset, .unset, .unset, .unset, .unset, .unset] []))) (fun u k => XS.istore X0.here hx rfl (hb hby at_12) rfl (l' := #[.val (.int p0), .val (.int p1), .val (.int p2), .val (.long q0), .second, .val (.int kk), .val (.int (p0 ^^^ ((1 : Int32) <<< (kk &&& 31)))), .unset, .unset, .unset, .unset, .unset, .unset, .unset, .unset, .unset, .unset, .unset, .unset, .unset]) rfl k) ?_
  have sg1 : ∀ u, Steps p.tables e below (s₁.setTop (mkF m 25 #[.val (.int p0), .val (.int p1), .val (.int p2), .val (.long q0), .second, .val (.int kk), .val (.int (p0 ^^^ ((1 : Int32) <<< (kk &&& 31)))), .unset, .unset, .unset, .unset, .unset, .unset, .unset, .unset, .unset, .unset, .unset, .unset, .unset] [(.int (if (p2 &&& (1 : Int32)) = (0 : Int32) then (0 : Int32) else (1 : Int32)))])) u → Steps p.tables e below (s₁.setTop (mkF m 14 #[.val (.int p0), .val (.int p1), .val (.int p2), .val (.long q0), .second, .val (.int kk), .val (.int (p0 ^^^ ((1 : Int32) <<< (kk &&& 31)))), .unset, .unset, .unset, .unset, .unset, .unset, .unset, .unset, .unset, .unset, .unset, .unset, .unset] [])) u := by
    intro u k
    refine XS.iloadN X0.here hx rfl (hb hby at_14) rfl ?_
    show Steps p.tables e below (s₁.setTop (mkF m 15 #[.val (.int p0), .val (.int p1), .val (.int p2), .val (.long q0), .second, .val (.int kk), .val (.int (p0 ^^^ ((1 : Int32) <<< (kk &&& 31)))), .unset, .unset, .unset, .unset, .unset, .unset, .unset, .unset, .unset, .unset, .unset, .unset, .unset] [(.int p2)])) u
    refine XT.iconstV X0.here hx rfl (1 : Int32) (hb hby at_15) (by decide) ?_
    show Steps p.tables e below (s₁.setTop (mkF m 16 #[.val (.int p0), .val (.int p1), .val (.int p2), .val (.long q0), .second, .val (.int kk), .val (.int (p0 ^^^ ((1 : Int32) <<< (kk &&& 31)))), .unset, .unset, .unset, .unset, .unset, .unset, .unset, .unset, .unset, .unset, .unset, .unset, .unset] [(.int (1 : Int32)), (.int p2)])) u
    refine XS.iand X0.here hx rfl (hb hby at_16) rfl ?_
    show Steps p.tables e below (s₁.setTop (mkF m 17 #[.val (.int p0), .val (.int p1), .val (.int p2), .val (.long q0), .second, .val (.int kk), .val (.int (p0 ^^^ ((1 : Int32) <<< (kk &&& 31)))), .unset, .unset, .unset, .unset, .unset, .unset, .unset, .unset, .unset, .unset, .unset, .unset, .unset] [(.int (p2 &&& (1 : Int32)))])) u
    by_cases hc2 : (p2 &&& (1 : Int32)) = (0 : Int32)
    · skip
      refine XS.ifYes X0.here hx rfl (pc0 := 17) (pc' := 24) rfl (hb hby at_17) rfl (XT.i0_eq_t hc2) (by decide) (by decide) ?_
      show Steps p.tables e below (s₁.setTop (mkF m 24 #[.val (.int p0), .val (.int p1), .val (.int p2), .val (.long q0), .second, .val (.int kk), .val (.int (p0 ^^^ ((1 : Int32) <<< (kk &&& 31)))), .unset, .unset, .unset, .unset, .unset, .unset, .unset, .unset, .unset, .unset, .unset, .unset, .unset] [])) u
      refine XT.iconstV X0.here hx rfl (0 : Int32) (hb hby at_24) (by decide) ?_
      show Steps p.tables e below (s₁.setTop (mkF m 25 #[.val (.int p0), .val (.int p1), .val (.int p2), .val (.long q0), .second, .val (.int kk), .val (.int (p0 ^^^ ((1 : Int32) <<< (kk &&& 31)))), .unset, .unset, .unset, .unset, .unset, .unset, .unset, .unset, .unset, .unset, .unset, .unset, .unset] [(.int (0 : Int32))])) u
      try simp only [if_pos hc2] at k
      exact k
    · skip
      refine XS.ifNo X0.here hx rfl (hb hby at_17) rfl (XT.i0_eq_f hc2) ?_
      show Steps p.tables e below (s₁.setTop (mkF m 20 #[.val (.int p0), .val (.int p1), .val (.int p2), .val (.long q0), .second, .val (.int kk), .val (.int (p0 ^^^ ((1 : Int32) <<< (kk &&& 31)))), .unset, .unset, .unset, .unset, .unset, .unset, .unset, .unset, .unset, .unset, .unset, .unset, .unset] [])) u
      refine XT.iconstV X0.here hx rfl (1 : Int32) (hb hby at_20) (by decide) ?_
      show Steps p.tables e below (s₁.setTop (mkF m 21 #[.val (.int p0), .val (.int p1), .val (.int p2), .val (.long q0), .second, .val (.int kk), .val (.int (p0 ^^^ ((1 : Int32) <<< (kk &&& 31)))), .unset, .unset, .unset, .unset, .unset, .unset, .unset, .unset, .unset, .unset, .unset, .unset, .unset] [(.int (1 : Int32))])) u
      refine XS.goto X0.here hx rfl (pc0 := 21) (pc' := 25) rfl (hb hby at_21) (by decide) (by decide) ?_
      show Steps p.tables e below (s₁.setTop (mkF m 25 #[.val (.int p0), .val (.int p1), .val (.int p2), .val (.long q0), .second, .val (.int kk), .val (.int (p0 ^^^ ((1 : Int32) <<< (kk &&& 31)))), .unset, .unset, .unset, .unset, .unset, .unset, .unset, .unset, .unset, .unset, .unset, .unset, .unset] [(.int (1 : Int32))])) u
      try simp only [if_neg hc2] at k
      exact k
  refine Go.back (t' := (s₁.setTop (mkF m 25 #[.val (.int p0), .val (.int p1), .val (.int p2), .val (.long q0), .second, .val (.int kk), .val (.int (p0 ^^^ ((1 : Int32) <<< (kk &&& 31)))), .unset, .unset, .unset, .unset, .unset, .unset, .unset, .unset, .unset, .unset, .unset, .unset, .unset] [(.int (if (p2 &&& (1 : Int32)) = (0 : Int32) then (0 : Int32) else (1 : Int32)))]))) sg1 ?_
  obtain ⟨zA, h_zA⟩ : ∃ z : Int32, z = (if (p2 &&& (1 : Int32)) = (0 : Int32) then (0 : Int32) else (1 : Int32)) := ⟨_, rfl⟩
  rw [← h_zA]
  have bit_zA : zA = 0 ∨ zA = 1 := by rw [h_zA]; repeat (split <;> try simp)
  refine Go.back (t' := (s₁.setTop (mkF m 27 #[.val (.int p0), .val (.int p1), .val (.int p2), .val (.long q0), .second, .val (.int kk), .val (.int (p0 ^^^ ((1 : Int32) <<< (kk &&& 31)))), .val (.int zA), .unset, .unset, .unset, .unset, .unset, .unset, .unset, .unset, .unset, .unset, .unset, .unset] []))) (fun u k => XS.istore X0.here hx rfl (hb hby at_25) rfl (l' := #[.val (.int p0), .val (.int p1), .val (.int p2), .val (.long q0), .second, .val (.int kk), .val (.int (p0 ^^^ ((1 : Int32) <<< (kk &&& 31)))), .val (.int zA), .unset, .unset, .unset, .unset, .unset, .unset, .unset, .unset, .unset, .unset, .unset, .unset]) rfl k) ?_
  have sg3 : ∀ u, Steps p.tables e below (s₁.setTop (mkF m 38 #[.val (.int p0), .val (.int p1), .val (.int p2), .val (.long q0), .second, .val (.int kk), .val (.int (p0 ^^^ ((1 : Int32) <<< (kk &&& 31)))), .val (.int zA), .unset, .unset, .unset, .unset, .unset, .unset, .unset, .unset, .unset, .unset, .unset, .unset] [(.int (if (p2 &&& (2 : Int32)) = (0 : Int32) then (0 : Int32) else (1 : Int32)))])) u → Steps p.tables e below (s₁.setTop (mkF m 27 #[.val (.int p0), .val (.int p1), .val (.int p2), .val (.long q0), .second, .val (.int kk), .val (.int (p0 ^^^ ((1 : Int32) <<< (kk &&& 31)))), .val (.int zA), .unset, .unset, .unset, .unset, .unset, .unset, .unset, .unset, .unset, .unset, .unset, .unset] [])) u := by
    intro u k
    refine XS.iloadN X0.here hx rfl (hb hby at_27) rfl ?_
    show Steps p.tables e below (s₁.setTop (mkF m 28 #[.val (.int p0), .val (.int p1), .val (.int p2), .val (.long q0), .second, .val (.int kk), .val (.int (p0 ^^^ ((1 : Int32) <<< (kk &&& 31)))), .val (.int zA), .unset, .unset, .unset, .unset, .unset, .unset, .unset, .unset, .unset, .unset, .unset, .unset] [(.int p2)])) u
    refine XT.iconstV X0.here hx rfl (2 : Int32) (hb hby at_28) (by decide) ?_
    show Steps p.tables e below (s₁.setTop (mkF m 29 #[.val (.int p0), .val (.int p1), .val (.int p2), .val (.long q0), .second, .val (.int kk), .val (.int (p0 ^^^ ((1 : Int32) <<< (kk &&& 31)))), .val (.int zA), .unset, .unset, .unset, .unset, .unset, .unset, .unset, .unset, .unset, .unset, .unset, .unset] [(.int (2 : Int32)), (.int p2)])) u
    refine XS.iand X0.here hx rfl (hb hby at_29) rfl ?_
    show Steps p.tables e below (s₁.setTop (mkF m 30 #[.val (.int p0), .val (.int p1), .val (.int p2), .val (.long q0), .second, .val (.int kk), .val (.int (p0 ^^^ ((1 : Int32) <<< (kk &&& 31)))), .val (.int zA), .unset, .unset, .unset, .unset, .unset, .unset, .unset, .unset, .unset, .unset, .unset, .unset] [(.int (p2 &&& (2 : Int32)))])) u
    by_cases hc4 : (p2 &&& (2 : Int32)) = (0 : Int32)
    · skip
      refine XS.ifYes X0.here hx rfl (pc0 := 30) (pc' := 37) rfl (hb hby at_30) rfl (XT.i0_eq_t hc4) (by decide) (by decide) ?_
      show Steps p.tables e below (s₁.setTop (mkF m 37 #[.val (.int p0), .val (.int p1), .val (.int p2), .val (.long q0), .second, .val (.int kk), .val (.int (p0 ^^^ ((1 : Int32) <<< (kk &&& 31)))), .val (.int zA), .unset, .unset, .unset, .unset, .unset, .unset, .unset, .unset, .unset, .unset, .unset, .unset] [])) u
      refine XT.iconstV X0.here hx rfl (0 : Int32) (hb hby at_37) (by decide) ?_
      show Steps p.tables e below (s₁.setTop (mkF m 38 #[.val (.int p0), .val (.int p1), .val (.int p2), .val (.long q0), .second, .val (.int kk), .val (.int (p0 ^^^ ((1 : Int32) <<< (kk &&& 31)))), .val (.int zA), .unset, .unset, .unset, .unset, .unset, .unset, .unset, .unset, .unset, .unset, .unset, .unset] [(.int (0 : Int32))])) u
      try simp only [if_pos hc4] at k
      exact k
    · skip
      refine XS.ifNo X0.here hx rfl (hb hby at_30) rfl (XT.i0_eq_f hc4) ?_
      show Steps p.tables e below (s₁.setTop (mkF m 33 #[.val (.int p0), .val (.int p1), .val (.int p2), .val (.long q0), .second, .val (.int kk), .val (.int (p0 ^^^ ((1 : Int32) <<< (kk &&& 31)))), .val (.int zA), .unset, .unset, .unset, .unset, .unset, .unset, .unset, .unset, .unset, .unset, .unset, .unset] [])) u
      refine XT.iconstV X0.here hx rfl (1 : Int32) (hb hby at_33) (by decide) ?_
      show Steps p.tables e below (s₁.setTop (mkF m 34 #[.val (.int p0), .val (.int p1), .val (.int p2), .val (.long q0), .second, .val (.int kk), .val (.int (p0 ^^^ ((1 : Int32) <<< (kk &&& 31)))), .val (.int zA), .unset, .unset, .unset, .unset, .unset, .unset, .unset, .unset, .unset, .unset, .unset, .unset] [(.int (1 : Int32))])) u
      refine XS.goto X0.here hx rfl (pc0 := 34) (pc' := 38) rfl (hb hby at_34) (by decide) (by decide) ?_
      show Steps p.tables e below (s₁.setTop (mkF m 38 #[.val (.int p0), .val (.int p1), .val (.int p2), .val (.long q0), .second, .val (.int kk), .val (.int (p0 ^^^ ((1 : Int32) <<< (kk &&& 31)))), .val (.int zA), .unset, .unset, .unset, .unset, .unset, .unset, .unset, .unset, .unset, .unset, .unset, .unset] [(.int (1 : Int32))])) u
      try simp only [if_neg hc4] at k
      exact k
  refine Go.back (t' := (s₁.setTop (mkF m 38 #[.val (.int p0), .val (.int p1), .val (.int p2), .val (.long q0), .second, .val (.int kk), .val (.int (p0 ^^^ ((1 : Int32) <<< (kk &&& 31)))), .val (.int zA), .unset, .unset, .unset, .unset, .unset, .unset, .unset, .unset, .unset, .unset, .unset, .unset] [(.int (if (p2 &&& (2 : Int32)) = (0 : Int32) then (0 : Int32) else (1 : Int32)))]))) sg3 ?_
  obtain ⟨zB, h_zB⟩ : ∃ z : Int32, z = (if (p2 &&& (2 : Int32)) = (0 : Int32) then (0 : Int32) else (1 : Int32)) := ⟨_, rfl⟩
  rw [← h_zB]
  have bit_zB : zB = 0 ∨ zB = 1 := by rw [h_zB]; repeat (split <;> try simp)
  refine Go.back (t' := (s₁.setTop (mkF m 40 #[.val (.int p0), .val (.int p1), .val (.int p2), .val (.long q0), .second, .val (.int kk), .val (.int (p0 ^^^ ((1 : Int32) <<< (kk &&& 31)))), .val (.int zA), .val (.int zB), .unset, .unset, .unset, .unset, .unset, .unset, .unset, .unset, .unset, .unset, .unset] []))) (fun u k => XS.istore X0.here hx rfl (hb hby at_38) rfl (l' := #[.val (.int p0), .val (.int p1), .val (.int p2), .val (.long q0), .second, .val (.int kk), .val (.int (p0 ^^^ ((1 : Int32) <<< (kk &&& 31)))), .val (.int zA), .val (.int zB), .unset, .unset, .unset, .unset, .unset, .unset, .unset, .unset, .unset, .unset, .unset]) rfl k) ?_
  have sg5 : ∀ u, Steps p.tables e below (s₁.setTop (mkF m 51 #[.val (.int p0), .val (.int p1), .val (.int p2), .val (.long q0), .second, .val (.int kk), .val (.int (p0 ^^^ ((1 : Int32) <<< (kk &&& 31)))), .val (.int zA), .val (.int zB), .unset, .unset, .unset, .unset, .unset, .unset, .unset, .unset, .unset, .unset, .unset] [(.int (if (p2 &&& (4 : Int32)) = (0 : Int32) then (0 : Int32) else (1 : Int32)))])) u → Steps p.tables e below (s₁.setTop (mkF m 40 #[.val (.int p0), .val (.int p1), .val (.int p2), .val (.long q0), .second, .val (.int kk), .val (.int (p0 ^^^ ((1 : Int32) <<< (kk &&& 31)))), .val (.int zA), .val (.int zB), .unset, .unset, .unset, .unset, .unset, .unset, .unset, .unset, .unset, .unset, .unset] [])) u := by
    intro u k
    refine XS.iloadN X0.here hx rfl (hb hby at_40) rfl ?_
    show Steps p.tables e below (s₁.setTop (mkF m 41 #[.val (.int p0), .val (.int p1), .val (.int p2), .val (.long q0), .second, .val (.int kk), .val (.int (p0 ^^^ ((1 : Int32) <<< (kk &&& 31)))), .val (.int zA), .val (.int zB), .unset, .unset, .unset, .unset, .unset, .unset, .unset, .unset, .unset, .unset, .unset] [(.int p2)])) u
    refine XT.iconstV X0.here hx rfl (4 : Int32) (hb hby at_41) (by decide) ?_
    show Steps p.tables e below (s₁.setTop (mkF m 42 #[.val (.int p0), .val (.int p1), .val (.int p2), .val (.long q0), .second, .val (.int kk), .val (.int (p0 ^^^ ((1 : Int32) <<< (kk &&& 31)))), .val (.int zA), .val (.int zB), .unset, .unset, .unset, .unset, .unset, .unset, .unset, .unset, .unset, .unset, .unset] [(.int (4 : Int32)), (.int p2)])) u
    refine XS.iand X0.here hx rfl (hb hby at_42) rfl ?_
    show Steps p.tables e below (s₁.setTop (mkF m 43 #[.val (.int p0), .val (.int p1), .val (.int p2), .val (.long q0), .second, .val (.int kk), .val (.int (p0 ^^^ ((1 : Int32) <<< (kk &&& 31)))), .val (.int zA), .val (.int zB), .unset, .unset, .unset, .unset, .unset, .unset, .unset, .unset, .unset, .unset, .unset] [(.int (p2 &&& (4 : Int32)))])) u
    by_cases hc6 : (p2 &&& (4 : Int32)) = (0 : Int32)
    · skip
      refine XS.ifYes X0.here hx rfl (pc0 := 43) (pc' := 50) rfl (hb hby at_43) rfl (XT.i0_eq_t hc6) (by decide) (by decide) ?_
      show Steps p.tables e below (s₁.setTop (mkF m 50 #[.val (.int p0), .val (.int p1), .val (.int p2), .val (.long q0), .second, .val (.int kk), .val (.int (p0 ^^^ ((1 : Int32) <<< (kk &&& 31)))), .val (.int zA), .val (.int zB), .unset, .unset, .unset, .unset, .unset, .unset, .unset, .unset, .unset, .unset, .unset] [])) u
      refine XT.iconstV X0.here hx rfl (0 : Int32) (hb hby at_50) (by decide) ?_
      show Steps p.tables e below (s₁.setTop (mkF m 51 #[.val (.int p0), .val (.int p1), .val (.int p2), .val (.long q0), .second, .val (.int kk), .val (.int (p0 ^^^ ((1 : Int32) <<< (kk &&& 31)))), .val (.int zA), .val (.int zB), .unset, .unset, .unset, .unset, .unset, .unset, .unset, .unset, .unset, .unset, .unset] [(.int (0 : Int32))])) u
      try simp only [if_pos hc6] at k
      exact k
    · skip
      refine XS.ifNo X0.here hx rfl (hb hby at_43) rfl (XT.i0_eq_f hc6) ?_
      show Steps p.tables e below (s₁.setTop (mkF m 46 #[.val (.int p0), .val (.int p1), .val (.int p2), .val (.long q0), .second, .val (.int kk), .val (.int (p0 ^^^ ((1 : Int32) <<< (kk &&& 31)))), .val (.int zA), .val (.int zB), .unset, .unset, .unset, .unset, .unset, .unset, .unset, .unset, .unset, .unset, .unset] [])) u
      refine XT.iconstV X0.here hx rfl (1 : Int32) (hb hby at_46) (by decide) ?_
      show Steps p.tables e below (s₁.setTop (mkF m 47 #[.val (.int p0), .val (.int p1), .val (.int p2), .val (.long q0), .second, .val (.int kk), .val (.int (p0 ^^^ ((1 : Int32) <<< (kk &&& 31)))), .val (.int zA), .val (.int zB), .unset, .unset, .unset, .unset, .unset, .unset, .unset, .unset, .unset, .unset, .unset] [(.int (1 : Int32))])) u
      refine XS.goto X0.here hx rfl (pc0 := 47) (pc' := 51) rfl (hb hby at_47) (by decide) (by decide) ?_
      show Steps p.tables e below (s₁.setTop (mkF m 51 #[.val (.int p0), .val (.int p1), .val (.int p2), .val (.long q0), .second, .val (.int kk), .val (.int (p0 ^^^ ((1 : Int32) <<< (kk &&& 31)))), .val (.int zA), .val (.int zB), .unset, .unset, .unset, .unset, .unset, .unset, .unset, .unset, .unset, .unset, .unset] [(.int (1 : Int32))])) u
      try simp only [if_neg hc6] at k
      exact k
  refine Go.back (t' := (s₁.setTop (mkF m 51 #[.val (.int p0), .val (.int p1), .val (.int p2), .val (.long q0), .second, .val (.int kk), .val (.int (p0 ^^^ ((1 : Int32) <<< (kk &&& 31)))), .val (.int zA), .val (.int zB), .unset, .unset, .unset, .unset, .unset, .unset, .unset, .unset, .unset, .unset, .unset] [(.int (if (p2 &&& (4 : Int32)) = (0 : Int32) then (0 : Int32) else (1 : Int32)))]))) sg5 ?_
  obtain ⟨zC, h_zC⟩ : ∃ z : Int32, z = (if (p2 &&& (4 : Int32)) = (0 : Int32) then (0 : Int32) else (1 : Int32)) := ⟨_, rfl⟩
  rw [← h_zC]
  have bit_zC : zC = 0 ∨ zC = 1 := by rw [h_zC]; repeat (split <;> try simp)
  refine Go.back (t' := (s₁.setTop (mkF m 53 #[.val (.int p0), .val (.int p1), .val (.int p2), .val (.long q0), .second, .val (.int kk), .val (.int (p0 ^^^ ((1 : Int32) <<< (kk &&& 31)))), .val (.int zA), .val (.int zB), .val (.int zC), .unset, .unset, .unset, .unset, .unset, .unset, .unset, .unset, .unset, .unset] []))) (fun u k => XS.istore X0.here hx rfl (hb hby at_51) rfl (l' := #[.val (.int p0), .val (.int p1), .val (.int p2), .val (.long q0), .second, .val (.int kk), .val (.int (p0 ^^^ ((1 : Int32) <<< (kk &&& 31)))), .val (.int zA), .val (.int zB), .val (.int zC), .unset, .unset, .unset, .unset, .unset, .unset, .unset, .unset, .unset, .unset]) rfl k) ?_
  have sg7 : ∀ u, Steps p.tables e below (s₁.setTop (mkF m 65 #[.val (.int p0), .val (.int p1), .val (.int p2), .val (.long q0), .second, .val (.int kk), .val (.int (p0 ^^^ ((1 : Int32) <<< (kk &&& 31)))), .val (.int zA), .val (.int zB), .val (.int zC), .unset, .unset, .unset, .unset, .unset, .unset, .unset, .unset, .unset, .unset] [(.int (if (p2 &&& (8 : Int32)) = (0 : Int32) then (0 : Int32) else (1 : Int32)))])) u → Steps p.tables e below (s₁.setTop (mkF m 53 #[.val (.int p0), .val (.int p1), .val (.int p2), .val (.long q0), .second, .val (.int kk), .val (.int (p0 ^^^ ((1 : Int32) <<< (kk &&& 31)))), .val (.int zA), .val (.int zB), .val (.int zC), .unset, .unset, .unset, .unset, .unset, .unset, .unset, .unset, .unset, .unset] [])) u := by
    intro u k
    refine XS.iloadN X0.here hx rfl (hb hby at_53) rfl ?_
    show Steps p.tables e below (s₁.setTop (mkF m 54 #[.val (.int p0), .val (.int p1), .val (.int p2), .val (.long q0), .second, .val (.int kk), .val (.int (p0 ^^^ ((1 : Int32) <<< (kk &&& 31)))), .val (.int zA), .val (.int zB), .val (.int zC), .unset, .unset, .unset, .unset, .unset, .unset, .unset, .unset, .unset, .unset] [(.int p2)])) u
    refine XT.bipushV X0.here hx rfl (8 : Int32) (hb hby at_54) (by decide) ?_
    show Steps p.tables e below (s₁.setTop (mkF m 56 #[.val (.int p0), .val (.int p1), .val (.int p2), .val (.long q0), .second, .val (.int kk), .val (.int (p0 ^^^ ((1 : Int32) <<< (kk &&& 31)))), .val (.int zA), .val (.int zB), .val (.int zC), .unset, .unset, .unset, .unset, .unset, .unset, .unset, .unset, .unset, .unset] [(.int (8 : Int32)), (.int p2)])) u
    refine XS.iand X0.here hx rfl (hb hby at_56) rfl ?_
    show Steps p.tables e below (s₁.setTop (mkF m 57 #[.val (.int p0), .val (.int p1), .val (.int p2), .val (.long q0), .second, .val (.int kk), .val (.int (p0 ^^^ ((1 : Int32) <<< (kk &&& 31)))), .val (.int zA), .val (.int zB), .val (.int zC), .unset, .unset, .unset, .unset, .unset, .unset, .unset, .unset, .unset, .unset] [(.int (p2 &&& (8 : Int32)))])) u
    by_cases hc8 : (p2 &&& (8 : Int32)) = (0 : Int32)
    · skip
      refine XS.ifYes X0.here hx rfl (pc0 := 57) (pc' := 64) rfl (hb hby at_57) rfl (XT.i0_eq_t hc8) (by decide) (by decide) ?_
      show Steps p.tables e below (s₁.setTop (mkF m 64 #[.val (.int p0), .val (.int p1), .val (.int p2), .val (.long q0), .second, .val (.int kk), .val (.int (p0 ^^^ ((1 : Int32) <<< (kk &&& 31)))), .val (.int zA), .val (.int zB), .val (.int zC), .unset, .unset, .unset, .unset, .unset, .unset, .unset, .unset, .unset, .unset] [])) u
      refine XT.iconstV X0.here hx rfl (0 : Int32) (hb hby at_64) (by decide) ?_
      show Steps p.tables e below (s₁.setTop (mkF m 65 #[.val (.int p0), .val (.int p1), .val (.int p2), .val (.long q0), .second, .val (.int kk), .val (.int (p0 ^^^ ((1 : Int32) <<< (kk &&& 31)))), .val (.int zA), .val (.int zB), .val (.int zC), .unset, .unset, .unset, .unset, .unset, .unset, .unset, .unset, .unset, .unset] [(.int (0 : Int32))])) u
      try simp only [if_pos hc8] at k
      exact k
    · skip
      refine XS.ifNo X0.here hx rfl (hb hby at_57) rfl (XT.i0_eq_f hc8) ?_
      show Steps p.tables e below (s₁.setTop (mkF m 60 #[.val (.int p0), .val (.int p1), .val (.int p2), .val (.long q0), .second, .val (.int kk), .val (.int (p0 ^^^ ((1 : Int32) <<< (kk &&& 31)))), .val (.int zA), .val (.int zB), .val (.int zC), .unset, .unset, .unset, .unset, .unset, .unset, .unset, .unset, .unset, .unset] [])) u
      refine XT.iconstV X0.here hx rfl (1 : Int32) (hb hby at_60) (by decide) ?_
      show Steps p.tables e below (s₁.setTop (mkF m 61 #[.val (.int p0), .val (.int p1), .val (.int p2), .val (.long q0), .second, .val (.int kk), .val (.int (p0 ^^^ ((1 : Int32) <<< (kk &&& 31)))), .val (.int zA), .val (.int zB), .val (.int zC), .unset, .unset, .unset, .unset, .unset, .unset, .unset, .unset, .unset, .unset] [(.int (1 : Int32))])) u
      refine XS.goto X0.here hx rfl (pc0 := 61) (pc' := 65) rfl (hb hby at_61) (by decide) (by decide) ?_
      show Steps p.tables e below (s₁.setTop (mkF m 65 #[.val (.int p0), .val (.int p1), .val (.int p2), .val (.long q0), .second, .val (.int kk), .val (.int (p0 ^^^ ((1 : Int32) <<< (kk &&& 31)))), .val (.int zA), .val (.int zB), .val (.int zC), .unset, .unset, .unset, .unset, .unset, .unset, .unset, .unset, .unset, .unset] [(.int (1 : Int32))])) u
      try simp only [if_neg hc8] at k
      exact k
  refine Go.back (t' := (s₁.setTop (mkF m 65 #[.val (.int p0), .val (.int p1), .val (.int p2), .val (.long q0), .second, .val (.int kk), .val (.int (p0 ^^^ ((1 : Int32) <<< (kk &&& 31)))), .val (.int zA), .val (.int zB), .val (.int zC), .unset, .unset, .unset, .unset, .unset, .unset, .unset, .unset, .unset, .unset] [(.int (if (p2 &&& (8 : Int32)) = (0 : Int32) then (0 : Int32) else (1 : Int32)))]))) sg7 ?_
  obtain ⟨zD, h_zD⟩ : ∃ z : Int32, z = (if (p2 &&& (8 : Int32)) = (0 : Int32) then (0 : Int32) else (1 : Int32)) := ⟨_, rfl⟩
  rw [← h_zD]
  have bit_zD : zD = 0 ∨ zD = 1 := by rw [h_zD]; repeat (split <;> try simp)
  refine Go.back (t' := (s₁.setTop (mkF m 67 #[.val (.int p0), .val (.int p1), .val (.int p2), .val (.long q0), .second, .val (.int kk), .val (.int (p0 ^^^ ((1 : Int32) <<< (kk &&& 31)))), .val (.int zA), .val (.int zB), .val (.int zC), .val (.int zD), .unset, .unset, .unset, .unset, .unset, .unset, .unset, .unset, .unset] []))) (fun u k => XS.istore X0.here hx rfl (hb hby at_65) rfl (l' := #[.val (.int p0), .val (.int p1), .val (.int p2), .val (.long q0), .second, .val (.int kk), .val (.int (p0 ^^^ ((1 : Int32) <<< (kk &&& 31)))), .val (.int zA), .val (.int zB), .val (.int zC), .val (.int zD), .unset, .unset, .unset, .unset, .unset, .unset, .unset, .unset, .unset]) rfl k) ?_
  refine Go.back (t' := (s₁.setTop (mkF m 68 #[.val (.int p0), .val (.int p1), .val (.int p2), .val (.long q0), .second, .val (.int kk), .val (.int (p0 ^^^ ((1 : Int32) <<< (kk &&& 31)))), .val (.int zA), .val (.int zB), .val (.int zC), .val (.int zD), .unset, .unset, .unset, .unset, .unset, .unset, .unset, .unset, .unset] [(.int (1 : Int32))]))) (fun u k => XT.iconstV X0.here hx rfl (1 : Int32) (hb hby at_67) (by decide) k) ?_
  obtain ⟨T9, h9, k9, X9, e9, E9, A9, st9⟩ := newP X0 hx hZ (hw _ (List.mem_of_getElem? (i := 0) rfl)) e0 (g := (mkF m 68 #[.val (.int p0), .val (.int p1), .val (.int p2), .val (.long q0), .second, .val (.int kk), .val (.int (p0 ^^^ ((1 : Int32) <<< (kk &&& 31)))), .val (.int zA), .val (.int zB), .val (.int zC), .val (.int zD), .unset, .unset, .unset, .unset, .unset, .unset, .unset, .unset, .unset] [(.int (1 : Int32))])) rfl (hb hby at_68) rfl (by decide) (cap := 1) (by decide) (by decide) (by decide) (by decide)
  obtain ⟨b9, g9⟩ : ∃ z, z = h0.size := ⟨_, rfl⟩
  rw [← g9] at A9 st9
  have gb9 : n0 ≤ b9 := Nat.le_trans Z0 (Nat.le_of_eq g9.symm)
  have sz9 : h0.size ≤ b9 := Nat.le_trans K0.1 (Nat.le_of_eq g9.symm)
  have Z9 : n0 ≤ h9.size := Nat.le_trans Z0 E9.1
  have K9 := K0.ext E9
  have O9 := Old0.ext E9
  have V9 : Arv Z h9 b9 k9 .char (1 : Int32) [(.int (0 : Int32))] (.int (0 : Int32)) := (Arv.new A9 (by decide)).pad (pad_rep [] (.int (0 : Int32)) 1)
  refine Go.back (t' := (T9.setTop (mkF m 70 #[.val (.int p0), .val (.int p1), .val (.int p2), .val (.long q0), .second, .val (.int kk), .val (.int (p0 ^^^ ((1 : Int32) <<< (kk &&& 31)))), .val (.int zA), .val (.int zB), .val (.int zC), .val (.int zD), .unset, .unset, .unset, .unset, .unset, .unset, .unset, .unset, .unset] [(.ref b9)]))) st9 ?_
  refine Go.back (t' := (T9.setTop (mkF m 71 #[.val (.int p0), .val (.int p1), .val (.int p2), .val (.long q0), .second, .val (.int kk), .val (.int (p0 ^^^ ((1 : Int32) <<< (kk &&& 31)))), .val (.int zA), .val (.int zB), .val (.int zC), .val (.int zD), .unset, .unset, .unset, .unset, .unset, .unset, .unset, .unset, .unset] [(.ref b9), (.ref b9)]))) (fun u k => XS.dup X9.here hx rfl (hb hby at_70) rfl rfl k) ?_
  refine Go.back (t' := (T9.setTop (mkF m 72 #[.val (.int p0), .val (.int p1), .val (.int p2), .val (.long q0), .second, .val (.int kk), .val (.int (p0 ^^^ ((1 : Int32) <<< (kk &&& 31)))), .val (.int zA), .val (.int zB), .val (.int zC), .val (.int zD), .unset, .unset, .unset, .unset, .unset, .unset, .unset, .unset, .unset] [(.int (0 : Int32)), (.ref b9), (.ref b9)]))) (fun u k => XT.iconstV X9.here hx rfl (0 : Int32) (hb hby at_71) (by decide) k) ?_
  refine Go.back (t' := (T9.setTop (mkF m 73 #[.val (.int p0), .val (.int p1), .val (.int p2), .val (.long q0), .second, .val (.int kk), .val (.int (p0 ^^^ ((1 : Int32) <<< (kk &&& 31)))), .val (.int zA), .val (.int zB), .val (.int zC), .val (.int zD), .unset, .unset, .unset, .unset, .unset, .unset, .unset, .unset, .unset] [(.int p2), (.int (0 : Int32)), (.ref b9), (.ref b9)]))) (fun u k => XS.iloadN X9.here hx rfl (hb hby at_72) rfl k) ?_
  refine Go.back (t' := (T9.setTop (mkF m 75 #[.val (.int p0), .val (.int p1), .val (.int p2), .val (.long q0), .second, .val (.int kk), .val (.int (p0 ^^^ ((1 : Int32) <<< (kk &&& 31)))), .val (.int zA), .val (.int zB), .val (.int zC), .val (.int zD), .unset, .unset, .unset, .unset, .unset, .unset, .unset, .unset, .unset] [(.int (8 : Int32)), (.int p2), (.int (0 : Int32)), (.ref b9), (.ref b9)]))) (fun u k => XT.bipushV X9.here hx rfl (8 : Int32) (hb hby at_73) (by decide) k) ?_
  refine Go.back (t' := (T9.setTop (mkF m 76 #[.val (.int p0), .val (.int p1), .val (.int p2), .val (.long q0), .second, .val (.int kk), .val (.int (p0 ^^^ ((1 : Int32) <<< (kk &&& 31)))), .val (.int zA), .val (.int zB), .val (.int zC), .val (.int zD), .unset, .unset, .unset, .unset, .unset, .unset, .unset, .unset, .unset] [(.int (XT.ushr p2 (8 : Int32))), (.int (0 : Int32)), (.ref b9), (.ref b9)]))) (fun u k => XT.iushr X9.here hx rfl (hb hby at_75) rfl k) ?_
  refine Go.back (t' := (T9.setTop (mkF m 79 #[.val (.int p0), .val (.int p1), .val (.int p2), .val (.long q0), .second, .val (.int kk), .val (.int (p0 ^^^ ((1 : Int32) <<< (kk &&& 31)))), .val (.int zA), .val (.int zB), .val (.int zC), .val (.int zD), .unset, .unset, .unset, .unset, .unset, .unset, .unset, .unset, .unset] [(.int (255 : Int32)), (.int (XT.ushr p2 (8 : Int32))), (.int (0 : Int32)), (.ref b9), (.ref b9)]))) (fun u k => XT.sipushV X9.here hx rfl (255 : Int32) (hb hby at_76) (by decide) k) ?_
  refine Go.back (t' := (T9.setTop (mkF m 80 #[.val (.int p0), .val (.int p1), .val (.int p2), .val (.long q0), .second, .val (.int kk), .val (.int (p0 ^^^ ((1 : Int32) <<< (kk &&& 31)))), .val (.int zA), .val (.int zB), .val (.int zC), .val (.int zD), .unset, .unset, .unset, .unset, .unset, .unset, .unset, .unset, .unset] [(.int ((XT.ushr p2 (8 : Int32)) &&& (255 : Int32))), (.int (0 : Int32)), (.ref b9), (.ref b9)]))) (fun u k => XS.iand X9.here hx rfl (hb hby at_79) rfl k) ?_
  refine Go.back (t' := (T9.setTop (mkF m 81 #[.val (.int p0), .val (.int p1), .val (.int p2), .val (.long q0), .second, .val (.int kk), .val (.int (p0 ^^^ ((1 : Int32) <<< (kk &&& 31)))), .val (.int zA), .val (.int zB), .val (.int zC), .val (.int zD), .unset, .unset, .unset, .unset, .unset, .unset, .unset, .unset, .unset] [(.int (((XT.ushr p2 (8 : Int32)) &&& (255 : Int32)).toUInt32.toUInt16.toUInt32.toInt32)), (.int (0 : Int32)), (.ref b9), (.ref b9)]))) (fun u k => XT.i2c X9.here hx rfl (hb hby at_80) rfl k) ?_
  have rw10 : (((XT.ushr p2 (8 : Int32)) &&& (255 : Int32)).toUInt32.toUInt16.toUInt32.toInt32) = ((XT.ushr p2 (8 : Int32)) &&& (255 : Int32)) := i2c_mask _
  rw [rw10]
  obtain ⟨ch, h_ch⟩ : ∃ z : Int32, z = ((XT.ushr p2 (8 : Int32)) &&& (255 : Int32)) := ⟨_, rfl⟩
  rw [← h_ch]
  have chr_ch : ¬ ch < 0 ∧ ¬ (255 : Int32) < ch := by rw [h_ch]; exact own_chr _
  have cln_ch : nar .char ch = ch := by rw [h_ch]; exact i2c_mask _
  obtain ⟨cl11, Ar11, aq11, aS11, aM11, aH11, aG11⟩ := id V9
  obtain ⟨T12, h12, X12, e12, W12, st12⟩ := stC X9 hx hZ e9 Ar11 (j := (0 : Int32)) (inb_of aS11 ⟨by decide, by decide⟩) (g := (mkF m 81 #[.val (.int p0), .val (.int p1), .val (.int p2), .val (.long q0), .second, .val (.int kk), .val (.int (p0 ^^^ ((1 : Int32) <<< (kk &&& 31)))), .val (.int zA), .val (.int zB), .val (.int zC), .val (.int zD), .unset, .unset, .unset, .unset, .unset, .unset, .unset, .unset, .unset] [(.int ch), (.int (0 : Int32)), (.ref b9), (.ref b9)])) rfl rfl (hb hby at_81)
  have Z12 : n0 ≤ h12.size := Nat.le_trans Z9 (Keep.of_wr W12).1
  have K12 := K9.wr W12 (Or.inr sz9)
  have N12 := Fr.snoc X12 N0 gb9
  have O12 := O9.wr W12 gb9
  have V12 : Arv Z h12 b9 k9 .char (1 : Int32) [(.int (nar .char ch))] (.int (0 : Int32)) := Arv.set Ar11 aq11 aS11 aM11 aH11 aG11 (fits_nar_char _) W12 0 rfl (Nat.le_of_ble_eq_true rfl)
  rw [cln_ch] at V12
  refine Go.back (t' := (T12.setTop (mkF m 82 #[.val (.int p0), .val (.int p1), .val (.int p2), .val (.long q0), .second, .val (.int kk), .val (.int (p0 ^^^ ((1 : Int32) <<< (kk &&& 31)))), .val (.int zA), .val (.int zB), .val (.int zC), .val (.int zD), .unset, .unset, .unset, .unset, .unset, .unset, .unset, .unset, .unset] [(.ref b9)]))) st12 ?_
  refine Go.back (t' := (T12.setTop (mkF m 84 #[.val (.int p0), .val (.int p1), .val (.int p2), .val (.long q0), .second, .val (.int kk), .val (.int (p0 ^^^ ((1 : Int32) <<< (kk &&& 31)))), .val (.int zA), .val (.int zB), .val (.int zC), .val (.int zD), .val (.ref b9), .unset, .unset, .unset, .unset, .unset, .unset, .unset, .unset] []))) (fun u k => XS.astore X12.here hx rfl (hb hby at_82) rfl rfl (l' := #[.val (.int p0), .val (.int p1), .val (.int p2), .val (.long q0), .second, .val (.int kk), .val (.int (p0 ^^^ ((1 : Int32) <<< (kk &&& 31)))), .val (.int zA), .val (.int zB), .val (.int zC), .val (.int zD), .val (.ref b9), .unset, .unset, .unset, .unset, .unset, .unset, .unset, .unset]) rfl k) ?_
  obtain ⟨T13, h13, X13, e13, E13, A13, D13, -, st13⟩ := newO X12 hx hZ hown (hw _ (List.mem_of_getElem? (i := 1) rfl)) (hw _ (List.mem_of_getElem? (i := 2) rfl)) (hw _ (List.mem_of_getElem? (i := 3) rfl)) e12 (g := (mkF m 84 #[.val (.int p0), .val (.int p1), .val (.int p2), .val (.long q0), .second, .val (.int kk), .val (.int (p0 ^^^ ((1 : Int32) <<< (kk &&& 31)))), .val (.int zA), .val (.int zB), .val (.int zC), .val (.int zD), .val (.ref b9), .unset, .unset, .unset, .unset, .unset, .unset, .unset, .unset] [])) rfl (hb hby at_84) (by decide) (by decide)
  obtain ⟨b13, g13⟩ : ∃ z, z = h12.size := ⟨_, rfl⟩
  rw [← g13] at A13 D13 st13
  have ne_b9_b13 : b9 ≠ b13 := Nat.ne_of_lt (Nat.lt_of_lt_of_le V12.lt (Nat.le_of_eq g13.symm))
  have gb13 : n0 ≤ b13 := Nat.le_trans Z12 (Nat.le_of_eq g13.symm)
  have sz13 : h0.size ≤ b13 := Nat.le_trans K12.1 (Nat.le_of_eq g13.symm)
  have Z13 : n0 ≤ h13.size := Nat.le_trans Z12 E13.1
  have K13 := K12.ext E13
  have O13 := O12.ext E13
  refine Go.back (t' := (T13.setTop (mkF m 87 #[.val (.int p0), .val (.int p1), .val (.int p2), .val (.long q0), .second, .val (.int kk), .val (.int (p0 ^^^ ((1 : Int32) <<< (kk &&& 31)))), .val (.int zA), .val (.int zB), .val (.int zC), .val (.int zD), .val (.ref b9), .unset, .unset, .unset, .unset, .unset, .unset, .unset, .unset] [(.ref b13)]))) st13 ?_
  refine Go.back (t' := (T13.setTop (mkF m 88 #[.val (.int p0), .val (.int p1), .val (.int p2), .val (.long q0), .second, .val (.int kk), .val (.int (p0 ^^^ ((1 : Int32) <<< (kk &&& 31)))), .val (.int zA), .val (.int zB), .val (.int zC), .val (.int zD), .val (.ref b9), .unset, .unset, .unset, .unset, .unset, .unset, .unset, .unset] [(.ref b13), (.ref b13)]))) (fun u k => XS.dup X13.here hx rfl (hb hby at_87) rfl rfl k) ?_
  refine Go.back (t' := (T13.setTop (mkF m 90 #[.val (.int p0), .val (.int p1), .val (.int p2), .val (.long q0), .second, .val (.int kk), .val (.int (p0 ^^^ ((1 : Int32) <<< (kk &&& 31)))), .val (.int zA), .val (.int zB), .val (.int zC), .val (.int zD), .val (.ref b9), .unset, .unset, .unset, .unset, .unset, .unset, .unset, .unset] [(.ref b9), (.ref b13), (.ref b13)]))) (fun u k => XS.aload X13.here hx rfl (hb hby at_88) rfl rfl k) ?_
  have hp14 : ∀ c ∈ ([ch] : List Int32), ¬ c < 0 ∧ ¬ (255 : Int32) < c := by
    intro c hc
    simp only [List.mem_cons, List.not_mem_nil, or_false] at hc
    rcases hc with rfl
    · exact chr_ch
  have f15 := (V12.ext E13)
  have hws : ∀ d ∈ StrChars.Road.words, d.before a0 Z = true := fun d hd => hw d ((by decide +kernel : ∀ d ∈ StrChars.Road.words, d ∈ tables_1) d hd)
  obtain ⟨_, _, ⟨T14, L14, k14, n14⟩, -, X14, ⟨Lc14, hQ14, l14, y14, z14⟩, st14⟩ := X13.specialBack hx (y := (⟨"java/lang/String", "<init>", "([C)V"⟩ : MethodName)) rfl hown (mvT hZ (hw _ (List.mem_of_getElem? (i := 4) rfl))) (mvT hZ (hw _ (List.mem_of_getElem? (i := 5) rfl))) (mvT hZ (hw _ (List.mem_of_getElem? (i := 6) rfl))) (by decide) (StrChars.Road.backV (W := 1) hZ hws (kI := 4) (hw _ (List.mem_of_getElem? (i := 2) rfl)) (cs := ([ch] : List Int32)) (bs := (([ch] : List Int32)).map (fun c => c.toInt8.toInt32)) (n := 1) gb13 Z13 A13 (D13 (Or.inr (hw _ (List.mem_of_getElem? (i := 29) rfl))) (ty := (.array .byte)) (by decide)) (D13 (Or.inr (hw _ (List.mem_of_getElem? (i := 27) rfl))) (ty := .byte) (by decide)) f15 (SCS.ext O13.2) P5 rfl rfl (by decide) (by decide) hp14 rfl (by decide) (by decide)) (g := (mkF m 90 #[.val (.int p0), .val (.int p1), .val (.int p2), .val (.long q0), .second, .val (.int kk), .val (.int (p0 ^^^ ((1 : Int32) <<< (kk &&& 31)))), .val (.int zA), .val (.int zB), .val (.int zC), .val (.int zD), .val (.ref b9), .unset, .unset, .unset, .unset, .unset, .unset, .unset, .unset] [(.ref b9), (.ref b13), (.ref b13)])) rfl (by rw [hml]; rfl) (Steps.refl _) (a := b13) (argsL := [(.ref b9)]) (rest := [(.ref b13)]) (lenOf own_pd1 rfl) rfl (by show 2 * 0 + _ ≤ _; exact Nat.le_of_eq rfl) (hb hby at_90) (fun _ _ => ⟨rfl, e13, (by decide : 2 + 1 ≤ _), (by decide : 5 + 1 ≤ _)⟩)
  dsimp only [Pt.U, Pt.locs, Pt.cells, Pt.slots] at X14 l14 y14 z14 st14 hQ14
  subst l14 y14 z14
  obtain ⟨rfl, N14, Kc14, PE14, PC14, t14, kb14, gt14, szc_t14, net14, PV14, PA14⟩ := hQ14
  have NA14 := Fr.app N12 N14
  have Z14 : n0 ≤ T14.heap.size := Nat.le_trans Z13 Kc14.1
  have K14 := K13.trans Kc14 (allS (Or.inr sz13) all0)
  have O14 := O13.keep Kc14 (allS gb13 all0)
  have sz_t14 : h0.size ≤ t14 := Nat.le_trans K13.1 szc_t14
  have ne_b9_t14 : b9 ≠ t14 := Nat.ne_of_lt (Nat.lt_of_lt_of_le f15.lt szc_t14)
  have ne_b13_t14 : b13 ≠ t14 := Nat.ne_of_lt (Nat.lt_of_lt_of_le A13.lt szc_t14)
  refine Go.back (t' := (T14.setTop (mkF m 93 #[.val (.int p0), .val (.int p1), .val (.int p2), .val (.long q0), .second, .val (.int kk), .val (.int (p0 ^^^ ((1 : Int32) <<< (kk &&& 31)))), .val (.int zA), .val (.int zB), .val (.int zC), .val (.int zD), .val (.ref b9), .unset, .unset, .unset, .unset, .unset, .unset, .unset, .unset] [(.ref b13)]))) (fun u k => st14.trans k) ?_
  refine Go.back (t' := (T14.setTop (mkF m 95 #[.val (.int p0), .val (.int p1), .val (.int p2), .val (.long q0), .second, .val (.int kk), .val (.int (p0 ^^^ ((1 : Int32) <<< (kk &&& 31)))), .val (.int zA), .val (.int zB), .val (.int zC), .val (.int zD), .val (.ref b9), .val (.ref b13), .unset, .unset, .unset, .unset, .unset, .unset, .unset] []))) (fun u k => XS.astore X14.here hx rfl (hb hby at_93) rfl rfl (l' := #[.val (.int p0), .val (.int p1), .val (.int p2), .val (.long q0), .second, .val (.int kk), .val (.int (p0 ^^^ ((1 : Int32) <<< (kk &&& 31)))), .val (.int zA), .val (.int zB), .val (.int zC), .val (.int zD), .val (.ref b9), .val (.ref b13), .unset, .unset, .unset, .unset, .unset, .unset, .unset]) rfl k) ?_
  obtain ⟨T16, h16, X16, e16, E16, A16, D16, -, st16⟩ := newO X14 hx hZ hown (hw _ (List.mem_of_getElem? (i := 30) rfl)) (hw _ (List.mem_of_getElem? (i := 31) rfl)) (hw _ (List.mem_of_getElem? (i := 32) rfl)) rfl (g := (mkF m 95 #[.val (.int p0), .val (.int p1), .val (.int p2), .val (.long q0), .second, .val (.int kk), .val (.int (p0 ^^^ ((1 : Int32) <<< (kk &&& 31)))), .val (.int zA), .val (.int zB), .val (.int zC), .val (.int zD), .val (.ref b9), .val (.ref b13), .unset, .unset, .unset, .unset, .unset, .unset, .unset] [])) rfl (hb hby at_95) (by decide) (by decide)
  obtain ⟨b16, g16⟩ : ∃ z, z = T14.heap.size := ⟨_, rfl⟩
  rw [← g16] at A16 D16 st16
  have f17 := (f15.keep Kc14 (ninS ne_b9_b13 nin0))
  have ne_b9_b16 : b9 ≠ b16 := Nat.ne_of_lt (Nat.lt_of_lt_of_le f17.lt (Nat.le_of_eq g16.symm))
  have ne_b13_b16 : b13 ≠ b16 := Nat.ne_of_lt (Nat.lt_of_lt_of_le PE14.lt (Nat.le_of_eq g16.symm))
  have ne_t14_b16 : t14 ≠ b16 := Nat.ne_of_lt (Nat.lt_of_lt_of_le PA14.lt (Nat.le_of_eq g16.symm))
  have gb16 : n0 ≤ b16 := Nat.le_trans Z14 (Nat.le_of_eq g16.symm)
  have sz16 : h0.size ≤ b16 := Nat.le_trans K14.1 (Nat.le_of_eq g16.symm)
  have Z16 : n0 ≤ h16.size := Nat.le_trans Z14 E16.1
  have K16 := K14.ext E16
  have O16 := O14.ext E16
  refine Go.back (t' := (T16.setTop (mkF m 98 #[.val (.int p0), .val (.int p1), .val (.int p2), .val (.long q0), .second, .val (.int kk), .val (.int (p0 ^^^ ((1 : Int32) <<< (kk &&& 31)))), .val (.int zA), .val (.int zB), .val (.int zC), .val (.int zD), .val (.ref b9), .val (.ref b13), .unset, .unset, .unset, .unset, .unset, .unset, .unset] [(.ref b16)]))) st16 ?_
  refine Go.back (t' := (T16.setTop (mkF m 99 #[.val (.int p0), .val (.int p1), .val (.int p2), .val (.long q0), .second, .val (.int kk), .val (.int (p0 ^^^ ((1 : Int32) <<< (kk &&& 31)))), .val (.int zA), .val (.int zB), .val (.int zC), .val (.int zD), .val (.ref b9), .val (.ref b13), .unset, .unset, .unset, .unset, .unset, .unset, .unset] [(.ref b16), (.ref b16)]))) (fun u k => XS.dup X16.here hx rfl (hb hby at_98) rfl rfl k) ?_
  refine Go.back (t' := (T16.setTop (mkF m 101 #[.val (.int p0), .val (.int p1), .val (.int p2), .val (.long q0), .second, .val (.int kk), .val (.int (p0 ^^^ ((1 : Int32) <<< (kk &&& 31)))), .val (.int zA), .val (.int zB), .val (.int zC), .val (.int zD), .val (.ref b9), .val (.ref b13), .unset, .unset, .unset, .unset, .unset, .unset, .unset] [(.ref b13), (.ref b16), (.ref b16)]))) (fun u k => XS.aload X16.here hx rfl (hb hby at_99) rfl rfl k) ?_
  refine Go.back (t' := (T16.setTop (mkF m 103 #[.val (.int p0), .val (.int p1), .val (.int p2), .val (.long q0), .second, .val (.int kk), .val (.int (p0 ^^^ ((1 : Int32) <<< (kk &&& 31)))), .val (.int zA), .val (.int zB), .val (.int zC), .val (.int zD), .val (.ref b9), .val (.ref b13), .unset, .unset, .unset, .unset, .unset, .unset, .unset] [(.int zA), (.ref b13), (.ref b16), (.ref b16)]))) (fun u k => XS.iload X16.here hx rfl (hb hby at_101) rfl k) ?_
  refine Go.back (t' := (T16.setTop (mkF m 104 #[.val (.int p0), .val (.int p1), .val (.int p2), .val (.long q0), .second, .val (.int kk), .val (.int (p0 ^^^ ((1 : Int32) <<< (kk &&& 31)))), .val (.int zA), .val (.int zB), .val (.int zC), .val (.int zD), .val (.ref b9), .val (.ref b13), .unset, .unset, .unset, .unset, .unset, .unset, .unset] [(.long q0), (.int zA), (.ref b13), (.ref b16), (.ref b16)]))) (fun u k => XT.lloadN X16.here hx rfl (hb hby at_103) rfl k) ?_
  refine Go.back (t' := (T16.setTop (mkF m 106 #[.val (.int p0), .val (.int p1), .val (.int p2), .val (.long q0), .second, .val (.int kk), .val (.int (p0 ^^^ ((1 : Int32) <<< (kk &&& 31)))), .val (.int zA), .val (.int zB), .val (.int zC), .val (.int zD), .val (.ref b9), .val (.ref b13), .unset, .unset, .unset, .unset, .unset, .unset, .unset] [(.int zB), (.long q0), (.int zA), (.ref b13), (.ref b16), (.ref b16)]))) (fun u k => XS.iload X16.here hx rfl (hb hby at_104) rfl k) ?_
  refine Go.back (t' := (T16.setTop (mkF m 107 #[.val (.int p0), .val (.int p1), .val (.int p2), .val (.long q0), .second, .val (.int kk), .val (.int (p0 ^^^ ((1 : Int32) <<< (kk &&& 31)))), .val (.int zA), .val (.int zB), .val (.int zC), .val (.int zD), .val (.ref b9), .val (.ref b13), .unset, .unset, .unset, .unset, .unset, .unset, .unset] [(.int p0), (.int zB), (.long q0), (.int zA), (.ref b13), (.ref b16), (.ref b16)]))) (fun u k => XS.iloadN X16.here hx rfl (hb hby at_106) rfl k) ?_
  obtain ⟨T18, h18, X18, e18, E18, A18, D18, -, st18⟩ := newO X16 hx hZ hown (hw _ (List.mem_of_getElem? (i := 33) rfl)) (hw _ (List.mem_of_getElem? (i := 34) rfl)) (hw _ (List.mem_of_getElem? (i := 35) rfl)) e16 (g := (mkF m 107 #[.val (.int p0), .val (.int p1), .val (.int p2), .val (.long q0), .second, .val (.int kk), .val (.int (p0 ^^^ ((1 : Int32) <<< (kk &&& 31)))), .val (.int zA), .val (.int zB), .val (.int zC), .val (.int zD), .val (.ref b9), .val (.ref b13), .unset, .unset, .unset, .unset, .unset, .unset, .unset] [(.int p0), (.int zB), (.long q0), (.int zA), (.ref b13), (.ref b16), (.ref b16)])) rfl (hb hby at_107) (by decide) (by decide)
  obtain ⟨b18, g18⟩ : ∃ z, z = h16.size := ⟨_, rfl⟩
  rw [← g18] at A18 D18 st18
  have f19 := (f17.ext E16)
  have ne_b9_b18 : b9 ≠ b18 := Nat.ne_of_lt (Nat.lt_of_lt_of_le f19.lt (Nat.le_of_eq g18.symm))
  have f20 := (PE14.ext E16)
  have ne_b13_b18 : b13 ≠ b18 := Nat.ne_of_lt (Nat.lt_of_lt_of_le f20.lt (Nat.le_of_eq g18.symm))
  have f21 := (PA14.ext E16)
  have ne_t14_b18 : t14 ≠ b18 := Nat.ne_of_lt (Nat.lt_of_lt_of_le f21.lt (Nat.le_of_eq g18.symm))
  have ne_b16_b18 : b16 ≠ b18 := Nat.ne_of_lt (Nat.lt_of_lt_of_le A16.lt (Nat.le_of_eq g18.symm))
  have gb18 : n0 ≤ b18 := Nat.le_trans Z16 (Nat.le_of_eq g18.symm)
  have sz18 : h0.size ≤ b18 := Nat.le_trans K16.1 (Nat.le_of_eq g18.symm)
  have Z18 : n0 ≤ h18.size := Nat.le_trans Z16 E18.1
  have K18 := K16.ext E18
  have O18 := O16.ext E18
  refine Go.back (t' := (T18.setTop (mkF m 110 #[.val (.int p0), .val (.int p1), .val (.int p2), .val (.long q0), .second, .val (.int kk), .val (.int (p0 ^^^ ((1 : Int32) <<< (kk &&& 31)))), .val (.int zA), .val (.int zB), .val (.int zC), .val (.int zD), .val (.ref b9), .val (.ref b13), .unset, .unset, .unset, .unset, .unset, .unset, .unset] [(.ref b18), (.int p0), (.int zB), (.long q0), (.int zA), (.ref b13), (.ref b16), (.ref b16)]))) st18 ?_
  refine Go.back (t' := (T18.setTop (mkF m 111 #[.val (.int p0), .val (.int p1), .val (.int p2), .val (.long q0), .second, .val (.int kk), .val (.int (p0 ^^^ ((1 : Int32) <<< (kk &&& 31)))), .val (.int zA), .val (.int zB), .val (.int zC), .val (.int zD), .val (.ref b9), .val (.ref b13), .unset, .unset, .unset, .unset, .unset, .unset, .unset] [(.ref b18), (.ref b18), (.int p0), (.int zB), (.long q0), (.int zA), (.ref b13), (.ref b16), (.ref b16)]))) (fun u k => XS.dup X18.here hx rfl (hb hby at_110) rfl rfl k) ?_
  obtain ⟨_, _, ⟨T22, L22, k22, n22⟩, -, X22, ⟨Lc22, hQ22, l22, y22, z22⟩, st22⟩ := X18.specialBack hx (y := (⟨"java/util/ArrayList", "<init>", "()V"⟩ : MethodName)) rfl hown (mvT hZ (hw _ (List.mem_of_getElem? (i := 36) rfl))) (mvT hZ (hw _ (List.mem_of_getElem? (i := 37) rfl))) (mvT hZ (hw _ (List.mem_of_getElem? (i := 38) rfl))) (by decide) (backOf (W := 9) (own_alInit l Z a0 hw [] b18 wD h18 n0 Z18 A18 (D18 (Or.inl (hw _ (List.mem_of_getElem? (i := 53) rfl))) (ty := .int) (by decide)) (D18 (Or.inl (hw _ (List.mem_of_getElem? (i := 56) rfl))) (ty := (.array (.object "java/lang/Object"))) (by decide)) gb18 O18 SD) hZ (hw _ (List.mem_of_getElem? (i := 38) rfl)) (hw _ (List.mem_of_getElem? (i := 35) rfl)) (by decide) (by decide)) (g := (mkF m 111 #[.val (.int p0), .val (.int p1), .val (.int p2), .val (.long q0), .second, .val (.int kk), .val (.int (p0 ^^^ ((1 : Int32) <<< (kk &&& 31)))), .val (.int zA), .val (.int zB), .val (.int zC), .val (.int zD), .val (.ref b9), .val (.ref b13), .unset, .unset, .unset, .unset, .unset, .unset, .unset] [(.ref b18), (.ref b18), (.int p0), (.int zB), (.long q0), (.int zA), (.ref b13), (.ref b16), (.ref b16)])) rfl (by rw [hml]; rfl) (Steps.refl _) (a := b18) (argsL := []) (rest := [(.ref b18), (.int p0), (.int zB), (.long q0), (.int zA), (.ref b13), (.ref b16), (.ref b16)]) (lenOf own_pd0 rfl) rfl (by show 2 * 0 + _ ≤ _; exact Nat.le_of_eq rfl) (hb hby at_111) (fun _ _ => ⟨rfl, e18, (by decide : 5 + 0 ≤ _), (by decide : 21 + 0 ≤ _)⟩)
  dsimp only [Pt.U, Pt.locs, Pt.cells, Pt.slots] at X22 l22 y22 z22 st22 hQ22
  subst l22 y22 z22
  obtain ⟨rfl, N22, Kc22, P22_0⟩ := hQ22
  have NA22 := Fr.app NA14 N22
  have Z22 : n0 ≤ T22.heap.size := Nat.le_trans Z18 Kc22.1
  have K22 := K18.trans Kc22 (allS (Or.inr sz18) all0)
  have O22 := O18.keep Kc22 (allS gb18 all0)
  refine Go.back (t' := (T22.setTop (mkF m 114 #[.val (.int p0), .val (.int p1), .val (.int p2), .val (.long q0), .second, .val (.int kk), .val (.int (p0 ^^^ ((1 : Int32) <<< (kk &&& 31)))), .val (.int zA), .val (.int zB), .val (.int zC), .val (.int zD), .val (.ref b9), .val (.ref b13), .unset, .unset, .unset, .unset, .unset, .unset, .unset] [(.ref b18), (.int p0), (.int zB), (.long q0), (.int zA), (.ref b13), (.ref b16), (.ref b16)]))) (fun u k => st22.trans k) ?_
  refine Go.back (t' := (T22.setTop (mkF m 115 #[.val (.int p0), .val (.int p1), .val (.int p2), .val (.long q0), .second, .val (.int kk), .val (.int (p0 ^^^ ((1 : Int32) <<< (kk &&& 31)))), .val (.int zA), .val (.int zB), .val (.int zC), .val (.int zD), .val (.ref b9), .val (.ref b13), .unset, .unset, .unset, .unset, .unset, .unset, .unset] [(.long q0), (.ref b18), (.int p0), (.int zB), (.long q0), (.int zA), (.ref b13), (.ref b16), (.ref b16)]))) (fun u k => XT.lloadN X22.here hx rfl (hb hby at_114) rfl k) ?_
  refine Go.back (t' := (T22.setTop (mkF m 117 #[.val (.int p0), .val (.int p1), .val (.int p2), .val (.long q0), .second, .val (.int kk), .val (.int (p0 ^^^ ((1 : Int32) <<< (kk &&& 31)))), .val (.int zA), .val (.int zB), .val (.int zC), .val (.int zD), .val (.ref b9), .val (.ref b13), .unset, .unset, .unset, .unset, .unset, .unset, .unset] [(.int zC), (.long q0), (.ref b18), (.int p0), (.int zB), (.long q0), (.int zA), (.ref b13), (.ref b16), (.ref b16)]))) (fun u k => XS.iload X22.here hx rfl (hb hby at_115) rfl k) ?_
  obtain ⟨T23, h23, X23, e23, E23, A23, D23, -, st23⟩ := newO X22 hx hZ hown (hw _ (List.mem_of_getElem? (i := 33) rfl)) (hw _ (List.mem_of_getElem? (i := 34) rfl)) (hw _ (List.mem_of_getElem? (i := 35) rfl)) rfl (g := (mkF m 117 #[.val (.int p0), .val (.int p1), .val (.int p2), .val (.long q0), .second, .val (.int kk), .val (.int (p0 ^^^ ((1 : Int32) <<< (kk &&& 31)))), .val (.int zA), .val (.int zB), .val (.int zC), .val (.int zD), .val (.ref b9), .val (.ref b13), .unset, .unset, .unset, .unset, .unset, .unset, .unset] [(.int zC), (.long q0), (.ref b18), (.int p0), (.int zB), (.long q0), (.int zA), (.ref b13), (.ref b16), (.ref b16)])) rfl (hb hby at_117) (by decide) (by decide)
  obtain ⟨b23, g23⟩ : ∃ z, z = T22.heap.size := ⟨_, rfl⟩
  rw [← g23] at A23 D23 st23
  have f24 := ((f19.ext E18).keep Kc22 (ninS ne_b9_b18 nin0))
  have ne_b9_b23 : b9 ≠ b23 := Nat.ne_of_lt (Nat.lt_of_lt_of_le f24.lt (Nat.le_of_eq g23.symm))
  have f25 := ((f20.ext E18).keep Kc22)
  have ne_b13_b23 : b13 ≠ b23 := Nat.ne_of_lt (Nat.lt_of_lt_of_le f25.lt (Nat.le_of_eq g23.symm))
  have f26 := ((f21.ext E18).keep Kc22 (ninS ne_t14_b18 nin0))
  have ne_t14_b23 : t14 ≠ b23 := Nat.ne_of_lt (Nat.lt_of_lt_of_le f26.lt (Nat.le_of_eq g23.symm))
  have f27 := ((A16.ext E18).keep Kc22)
  have ne_b16_b23 : b16 ≠ b23 := Nat.ne_of_lt (Nat.lt_of_lt_of_le f27.lt (Nat.le_of_eq g23.symm))
  have ne_b18_b23 : b18 ≠ b23 := Nat.ne_of_lt (Nat.lt_of_lt_of_le P22_0.lt (Nat.le_of_eq g23.symm))
  have gb23 : n0 ≤ b23 := Nat.le_trans Z22 (Nat.le_of_eq g23.symm)
  have sz23 : h0.size ≤ b23 := Nat.le_trans K22.1 (Nat.le_of_eq g23.symm)
  have Z23 : n0 ≤ h23.size := Nat.le_trans Z22 E23.1
  have K23 := K22.ext E23
  have O23 := O22.ext E23
  refine Go.back (t' := (T23.setTop (mkF m 120 #[.val (.int p0), .val (.int p1), .val (.int p2), .val (.long q0), .second, .val (.int kk), .val (.int (p0 ^^^ ((1 : Int32) <<< (kk &&& 31)))), .val (.int zA), .val (.int zB), .val (.int zC), .val (.int zD), .val (.ref b9), .val (.ref b13), .unset, .unset, .unset, .unset, .unset, .unset, .unset] [(.ref b23), (.int zC), (.long q0), (.ref b18), (.int p0), (.int zB), (.long q0), (.int zA), (.ref b13), (.ref b16), (.ref b16)]))) st23 ?_
  refine Go.back (t' := (T23.setTop (mkF m 121 #[.val (.int p0), .val (.int p1), .val (.int p2), .val (.long q0), .second, .val (.int kk), .val (.int (p0 ^^^ ((1 : Int32) <<< (kk &&& 31)))), .val (.int zA), .val (.int zB), .val (.int zC), .val (.int zD), .val (.ref b9), .val (.ref b13), .unset, .unset, .unset, .unset, .unset, .unset, .unset] [(.ref b23), (.ref b23), (.int zC), (.long q0), (.ref b18), (.int p0), (.int zB), (.long q0), (.int zA), (.ref b13), (.ref b16), (.ref b16)]))) (fun u k => XS.dup X23.here hx rfl (hb hby at_120) rfl rfl k) ?_
  obtain ⟨_, _, ⟨T28, L28, k28, n28⟩, -, X28, ⟨Lc28, hQ28, l28, y28, z28⟩, st28⟩ := X23.specialBack hx (y := (⟨"java/util/ArrayList", "<init>", "()V"⟩ : MethodName)) rfl hown (mvT hZ (hw _ (List.mem_of_getElem? (i := 36) rfl))) (mvT hZ (hw _ (List.mem_of_getElem? (i := 37) rfl))) (mvT hZ (hw _ (List.mem_of_getElem? (i := 38) rfl))) (by decide) (backOf (W := 13) (own_alInit l Z a0 hw [] b23 wD h23 n0 Z23 A23 (D23 (Or.inl (hw _ (List.mem_of_getElem? (i := 53) rfl))) (ty := .int) (by decide)) (D23 (Or.inl (hw _ (List.mem_of_getElem? (i := 56) rfl))) (ty := (.array (.object "java/lang/Object"))) (by decide)) gb23 O23 SD) hZ (hw _ (List.mem_of_getElem? (i := 38) rfl)) (hw _ (List.mem_of_getElem? (i := 35) rfl)) (by decide) (by decide)) (g := (mkF m 121 #[.val (.int p0), .val (.int p1), .val (.int p2), .val (.long q0), .second, .val (.int kk), .val (.int (p0 ^^^ ((1 : Int32) <<< (kk &&& 31)))), .val (.int zA), .val (.int zB), .val (.int zC), .val (.int zD), .val (.ref b9), .val (.ref b13), .unset, .unset, .unset, .unset, .unset, .unset, .unset] [(.ref b23), (.ref b23), (.int zC), (.long q0), (.ref b18), (.int p0), (.int zB), (.long q0), (.int zA), (.ref b13), (.ref b16), (.ref b16)])) rfl (by rw [hml]; rfl) (Steps.refl _) (a := b23) (argsL := []) (rest := [(.ref b23), (.int zC), (.long q0), (.ref b18), (.int p0), (.int zB), (.long q0), (.int zA), (.ref b13), (.ref b16), (.ref b16)]) (lenOf own_pd0 rfl) rfl (by show 2 * 0 + _ ≤ _; exact Nat.le_of_eq rfl) (hb hby at_121) (fun _ _ => ⟨rfl, e23, (by decide : 6 + 0 ≤ _), (by decide : 24 + 0 ≤ _)⟩)
  dsimp only [Pt.U, Pt.locs, Pt.cells, Pt.slots] at X28 l28 y28 z28 st28 hQ28
  subst l28 y28 z28
  obtain ⟨rfl, N28, Kc28, P28_0⟩ := hQ28
  have NA28 := Fr.app NA22 N28
  have Z28 : n0 ≤ T28.heap.size := Nat.le_trans Z23 Kc28.1
  have K28 := K23.trans Kc28 (allS (Or.inr sz23) all0)
  have O28 := O23.keep Kc28 (allS gb23 all0)
  refine Go.back (t' := (T28.setTop (mkF m 124 #[.val (.int p0), .val (.int p1), .val (.int p2), .val (.long q0), .second, .val (.int kk), .val (.int (p0 ^^^ ((1 : Int32) <<< (kk &&& 31)))), .val (.int zA), .val (.int zB), .val (.int zC), .val (.int zD), .val (.ref b9), .val (.ref b13), .unset, .unset, .unset, .unset, .unset, .unset, .unset] [(.ref b23), (.int zC), (.long q0), (.ref b18), (.int p0), (.int zB), (.long q0), (.int zA), (.ref b13), (.ref b16), (.ref b16)]))) (fun u k => st28.trans k) ?_
  obtain ⟨T29, h29, X29, e29, E29, A29, D29, -, st29⟩ := newO X28 hx hZ hown (hw _ (List.mem_of_getElem? (i := 33) rfl)) (hw _ (List.mem_of_getElem? (i := 34) rfl)) (hw _ (List.mem_of_getElem? (i := 35) rfl)) rfl (g := (mkF m 124 #[.val (.int p0), .val (.int p1), .val (.int p2), .val (.long q0), .second, .val (.int kk), .val (.int (p0 ^^^ ((1 : Int32) <<< (kk &&& 31)))), .val (.int zA), .val (.int zB), .val (.int zC), .val (.int zD), .val (.ref b9), .val (.ref b13), .unset, .unset, .unset, .unset, .unset, .unset, .unset] [(.ref b23), (.int zC), (.long q0), (.ref b18), (.int p0), (.int zB), (.long q0), (.int zA), (.ref b13), (.ref b16), (.ref b16)])) rfl (hb hby at_124) (by decide) (by decide)
  obtain ⟨b29, g29⟩ : ∃ z, z = T28.heap.size := ⟨_, rfl⟩
  rw [← g29] at A29 D29 st29
  have f30 := ((f24.ext E23).keep Kc28 (ninS ne_b9_b23 nin0))
  have ne_b9_b29 : b9 ≠ b29 := Nat.ne_of_lt (Nat.lt_of_lt_of_le f30.lt (Nat.le_of_eq g29.symm))
  have f31 := ((f25.ext E23).keep Kc28)
  have ne_b13_b29 : b13 ≠ b29 := Nat.ne_of_lt (Nat.lt_of_lt_of_le f31.lt (Nat.le_of_eq g29.symm))
  have f32 := ((f26.ext E23).keep Kc28 (ninS ne_t14_b23 nin0))
  have ne_t14_b29 : t14 ≠ b29 := Nat.ne_of_lt (Nat.lt_of_lt_of_le f32.lt (Nat.le_of_eq g29.symm))
  have f33 := ((f27.ext E23).keep Kc28)
  have ne_b16_b29 : b16 ≠ b29 := Nat.ne_of_lt (Nat.lt_of_lt_of_le f33.lt (Nat.le_of_eq g29.symm))
  have f34 := ((P22_0.ext E23).keep Kc28)
  have ne_b18_b29 : b18 ≠ b29 := Nat.ne_of_lt (Nat.lt_of_lt_of_le f34.lt (Nat.le_of_eq g29.symm))
  have ne_b23_b29 : b23 ≠ b29 := Nat.ne_of_lt (Nat.lt_of_lt_of_le P28_0.lt (Nat.le_of_eq g29.symm))
  have gb29 : n0 ≤ b29 := Nat.le_trans Z28 (Nat.le_of_eq g29.symm)
  have sz29 : h0.size ≤ b29 := Nat.le_trans K28.1 (Nat.le_of_eq g29.symm)
  have Z29 : n0 ≤ h29.size := Nat.le_trans Z28 E29.1
  have K29 := K28.ext E29
  have O29 := O28.ext E29
  refine Go.back (t' := (T29.setTop (mkF m 127 #[.val (.int p0), .val (.int p1), .val (.int p2), .val (.long q0), .second, .val (.int kk), .val (.int (p0 ^^^ ((1 : Int32) <<< (kk &&& 31)))), .val (.int zA), .val (.int zB), .val (.int zC), .val (.int zD), .val (.ref b9), .val (.ref b13), .unset, .unset, .unset, .unset, .unset, .unset, .unset] [(.ref b29), (.ref b23), (.int zC), (.long q0), (.ref b18), (.int p0), (.int zB), (.long q0), (.int zA), (.ref b13), (.ref b16), (.ref b16)]))) st29 ?_
  refine Go.back (t' := (T29.setTop (mkF m 128 #[.val (.int p0), .val (.int p1), .val (.int p2), .val (.long q0), .second, .val (.int kk), .val (.int (p0 ^^^ ((1 : Int32) <<< (kk &&& 31)))), .val (.int zA), .val (.int zB), .val (.int zC), .val (.int zD), .val (.ref b9), .val (.ref b13), .unset, .unset, .unset, .unset, .unset, .unset, .unset] [(.ref b29), (.ref b29), (.ref b23), (.int zC), (.long q0), (.ref b18), (.int p0), (.int zB), (.long q0), (.int zA), (.ref b13), (.ref b16), (.ref b16)]))) (fun u k => XS.dup X29.here hx rfl (hb hby at_127) rfl rfl k) ?_
  obtain ⟨_, _, ⟨T35, L35, k35, n35⟩, -, X35, ⟨Lc35, hQ35, l35, y35, z35⟩, st35⟩ := X29.specialBack hx (y := (⟨"java/util/ArrayList", "<init>", "()V"⟩ : MethodName)) rfl hown (mvT hZ (hw _ (List.mem_of_getElem? (i := 36) rfl))) (mvT hZ (hw _ (List.mem_of_getElem? (i := 37) rfl))) (mvT hZ (hw _ (List.mem_of_getElem? (i := 38) rfl))) (by decide) (backOf (W := 14) (own_alInit l Z a0 hw [] b29 wD h29 n0 Z29 A29 (D29 (Or.inl (hw _ (List.mem_of_getElem? (i := 53) rfl))) (ty := .int) (by decide)) (D29 (Or.inl (hw _ (List.mem_of_getElem? (i := 56) rfl))) (ty := (.array (.object "java/lang/Object"))) (by decide)) gb29 O29 SD) hZ (hw _ (List.mem_of_getElem? (i := 38) rfl)) (hw _ (List.mem_of_getElem? (i := 35) rfl)) (by decide) (by decide)) (g := (mkF m 128 #[.val (.int p0), .val (.int p1), .val (.int p2), .val (.long q0), .second, .val (.int kk), .val (.int (p0 ^^^ ((1 : Int32) <<< (kk &&& 31)))), .val (.int zA), .val (.int zB), .val (.int zC), .val (.int zD), .val (.ref b9), .val (.ref b13), .unset, .unset, .unset, .unset, .unset, .unset, .unset] [(.ref b29), (.ref b29), (.ref b23), (.int zC), (.long q0), (.ref b18), (.int p0), (.int zB), (.long q0), (.int zA), (.ref b13), (.ref b16), (.ref b16)])) rfl (by rw [hml]; rfl) (Steps.refl _) (a := b29) (argsL := []) (rest := [(.ref b29), (.ref b23), (.int zC), (.long q0), (.ref b18), (.int p0), (.int zB), (.long q0), (.int zA), (.ref b13), (.ref b16), (.ref b16)]) (lenOf own_pd0 rfl) rfl (by show 2 * 0 + _ ≤ _; exact Nat.le_of_eq rfl) (hb hby at_128) (fun _ _ => ⟨rfl, e29, (by decide : 7 + 0 ≤ _), (by decide : 27 + 0 ≤ _)⟩)
  dsimp only [Pt.U, Pt.locs, Pt.cells, Pt.slots] at X35 l35 y35 z35 st35 hQ35
  subst l35 y35 z35
  obtain ⟨rfl, N35, Kc35, P35_0⟩ := hQ35
  have NA35 := Fr.app NA28 N35
  have Z35 : n0 ≤ T35.heap.size := Nat.le_trans Z29 Kc35.1
  have K35 := K29.trans Kc35 (allS (Or.inr sz29) all0)
  have O35 := O29.keep Kc35 (allS gb29 all0)
  refine Go.back (t' := (T35.setTop (mkF m 131 #[.val (.int p0), .val (.int p1), .val (.int p2), .val (.long q0), .second, .val (.int kk), .val (.int (p0 ^^^ ((1 : Int32) <<< (kk &&& 31)))), .val (.int zA), .val (.int zB), .val (.int zC), .val (.int zD), .val (.ref b9), .val (.ref b13), .unset, .unset, .unset, .unset, .unset, .unset, .unset] [(.ref b29), (.ref b23), (.int zC), (.long q0), (.ref b18), (.int p0), (.int zB), (.long q0), (.int zA), (.ref b13), (.ref b16), (.ref b16)]))) (fun u k => st35.trans k) ?_
  refine Go.back (t' := (T35.setTop (mkF m 132 #[.val (.int p0), .val (.int p1), .val (.int p2), .val (.long q0), .second, .val (.int kk), .val (.int (p0 ^^^ ((1 : Int32) <<< (kk &&& 31)))), .val (.int zA), .val (.int zB), .val (.int zC), .val (.int zD), .val (.ref b9), .val (.ref b13), .unset, .unset, .unset, .unset, .unset, .unset, .unset] [(.int p2), (.ref b29), (.ref b23), (.int zC), (.long q0), (.ref b18), (.int p0), (.int zB), (.long q0), (.int zA), (.ref b13), (.ref b16), (.ref b16)]))) (fun u k => XS.iloadN X35.here hx rfl (hb hby at_131) rfl k) ?_
  refine Go.back (t' := (T35.setTop (mkF m 134 #[.val (.int p0), .val (.int p1), .val (.int p2), .val (.long q0), .second, .val (.int kk), .val (.int (p0 ^^^ ((1 : Int32) <<< (kk &&& 31)))), .val (.int zA), .val (.int zB), .val (.int zC), .val (.int zD), .val (.ref b9), .val (.ref b13), .unset, .unset, .unset, .unset, .unset, .unset, .unset] [(.int (16 : Int32)), (.int p2), (.ref b29), (.ref b23), (.int zC), (.long q0), (.ref b18), (.int p0), (.int zB), (.long q0), (.int zA), (.ref b13), (.ref b16), (.ref b16)]))) (fun u k => XT.bipushV X35.here hx rfl (16 : Int32) (hb hby at_132) (by decide) k) ?_
  refine Go.back (t' := (T35.setTop (mkF m 135 #[.val (.int p0), .val (.int p1), .val (.int p2), .val (.long q0), .second, .val (.int kk), .val (.int (p0 ^^^ ((1 : Int32) <<< (kk &&& 31)))), .val (.int zA), .val (.int zB), .val (.int zC), .val (.int zD), .val (.ref b9), .val (.ref b13), .unset, .unset, .unset, .unset, .unset, .unset, .unset] [(.int (XT.ushr p2 (16 : Int32))), (.ref b29), (.ref b23), (.int zC), (.long q0), (.ref b18), (.int p0), (.int zB), (.long q0), (.int zA), (.ref b13), (.ref b16), (.ref b16)]))) (fun u k => XT.iushr X35.here hx rfl (hb hby at_134) rfl k) ?_
  refine Go.back (t' := (T35.setTop (mkF m 137 #[.val (.int p0), .val (.int p1), .val (.int p2), .val (.long q0), .second, .val (.int kk), .val (.int (p0 ^^^ ((1 : Int32) <<< (kk &&& 31)))), .val (.int zA), .val (.int zB), .val (.int zC), .val (.int zD), .val (.ref b9), .val (.ref b13), .unset, .unset, .unset, .unset, .unset, .unset, .unset] [(.int zD), (.int (XT.ushr p2 (16 : Int32))), (.ref b29), (.ref b23), (.int zC), (.long q0), (.ref b18), (.int p0), (.int zB), (.long q0), (.int zA), (.ref b13), (.ref b16), (.ref b16)]))) (fun u k => XS.iload X35.here hx rfl (hb hby at_135) rfl k) ?_
  have f36 := ((f33.ext E29).keep Kc35)
  have f37 := (((((((D16 (Or.inr (hw _ (List.mem_of_getElem? (i := 62) rfl))) (ty := (.object "java/lang/String")) (by decide)).ext E18).keep Kc22 (ninS ne_b16_b18 nin0)).ext E23).keep Kc28 (ninS ne_b16_b23 nin0)).ext E29).keep Kc35 (ninS ne_b16_b29 nin0))
  have f38 := (((((((D16 (Or.inr (hw _ (List.mem_of_getElem? (i := 64) rfl))) (ty := .boolean) (by decide)).ext E18).keep Kc22 (ninS ne_b16_b18 nin0)).ext E23).keep Kc28 (ninS ne_b16_b23 nin0)).ext E29).keep Kc35 (ninS ne_b16_b29 nin0))
  have f39 := (((((((D16 (Or.inr (hw _ (List.mem_of_getElem? (i := 66) rfl))) (ty := .long) (by decide)).ext E18).keep Kc22 (ninS ne_b16_b18 nin0)).ext E23).keep Kc28 (ninS ne_b16_b23 nin0)).ext E29).keep Kc35 (ninS ne_b16_b29 nin0))
  have f40 := (((((((D16 (Or.inr (hw _ (List.mem_of_getElem? (i := 68) rfl))) (ty := .boolean) (by decide)).ext E18).keep Kc22 (ninS ne_b16_b18 nin0)).ext E23).keep Kc28 (ninS ne_b16_b23 nin0)).ext E29).keep Kc35 (ninS ne_b16_b29 nin0))
  have f41 := (((((((D16 (Or.inr (hw _ (List.mem_of_getElem? (i := 70) rfl))) (ty := .int) (by decide)).ext E18).keep Kc22 (ninS ne_b16_b18 nin0)).ext E23).keep Kc28 (ninS ne_b16_b23 nin0)).ext E29).keep Kc35 (ninS ne_b16_b29 nin0))
  have f42 := (((((((D16 (Or.inr (hw _ (List.mem_of_getElem? (i := 72) rfl))) (ty := (.object "java/util/List")) (by decide)).ext E18).keep Kc22 (ninS ne_b16_b18 nin0)).ext E23).keep Kc28 (ninS ne_b16_b23 nin0)).ext E29).keep Kc35 (ninS ne_b16_b29 nin0))
  have f43 := (((((((D16 (Or.inr (hw _ (List.mem_of_getElem? (i := 74) rfl))) (ty := .long) (by decide)).ext E18).keep Kc22 (ninS ne_b16_b18 nin0)).ext E23).keep Kc28 (ninS ne_b16_b23 nin0)).ext E29).keep Kc35 (ninS ne_b16_b29 nin0))
  have f44 := (((((((D16 (Or.inr (hw _ (List.mem_of_getElem? (i := 76) rfl))) (ty := .boolean) (by decide)).ext E18).keep Kc22 (ninS ne_b16_b18 nin0)).ext E23).keep Kc28 (ninS ne_b16_b23 nin0)).ext E29).keep Kc35 (ninS ne_b16_b29 nin0))
  have f45 := (((((((D16 (Or.inr (hw _ (List.mem_of_getElem? (i := 78) rfl))) (ty := (.object "java/util/List")) (by decide)).ext E18).keep Kc22 (ninS ne_b16_b18 nin0)).ext E23).keep Kc28 (ninS ne_b16_b23 nin0)).ext E29).keep Kc35 (ninS ne_b16_b29 nin0))
  have f46 := (((((((D16 (Or.inr (hw _ (List.mem_of_getElem? (i := 80) rfl))) (ty := (.object "java/util/List")) (by decide)).ext E18).keep Kc22 (ninS ne_b16_b18 nin0)).ext E23).keep Kc28 (ninS ne_b16_b23 nin0)).ext E29).keep Kc35 (ninS ne_b16_b29 nin0))
  have f47 := (((((((D16 (Or.inr (hw _ (List.mem_of_getElem? (i := 82) rfl))) (ty := .int) (by decide)).ext E18).keep Kc22 (ninS ne_b16_b18 nin0)).ext E23).keep Kc28 (ninS ne_b16_b23 nin0)).ext E29).keep Kc35 (ninS ne_b16_b29 nin0))
  have f48 := (((((((D16 (Or.inr (hw _ (List.mem_of_getElem? (i := 84) rfl))) (ty := .boolean) (by decide)).ext E18).keep Kc22 (ninS ne_b16_b18 nin0)).ext E23).keep Kc28 (ninS ne_b16_b23 nin0)).ext E29).keep Kc35 (ninS ne_b16_b29 nin0))
  obtain ⟨_, _, ⟨T49, L49, k49, n49⟩, -, X49, ⟨Lc49, hQ49, l49, y49, z49⟩, st49⟩ := X35.specialBack hx (y := (⟨"com/example/persistutils/persistutils/engine/PostgresTables$Table", "<init>", "(Ljava/lang/String;ZJZILjava/util/List;JZLjava/util/List;Ljava/util/List;IZ)V"⟩ : MethodName)) rfl hown (mvT hZ (hw _ (List.mem_of_getElem? (i := 57) rfl))) (mvT hZ (hw _ (List.mem_of_getElem? (i := 58) rfl))) (mvT hZ (hw _ (List.mem_of_getElem? (i := 59) rfl))) (by decide) (backOf (W := 1) (own_tbInit l Z a0 hw [] b16 b13 zA q0 zB p0 b18 q0 zC b23 b29 (XT.ushr p2 (16 : Int32)) zD T35.heap n0 Z35 f36 f37 f38 f39 f40 f41 f42 f43 f44 f45 f46 f47 f48 gb16 bit_zA bit_zB bit_zC bit_zD) hZ (hw _ (List.mem_of_getElem? (i := 59) rfl)) (hw _ (List.mem_of_getElem? (i := 32) rfl)) (by decide) (by decide)) (g := (mkF m 137 #[.val (.int p0), .val (.int p1), .val (.int p2), .val (.long q0), .second, .val (.int kk), .val (.int (p0 ^^^ ((1 : Int32) <<< (kk &&& 31)))), .val (.int zA), .val (.int zB), .val (.int zC), .val (.int zD), .val (.ref b9), .val (.ref b13), .unset, .unset, .unset, .unset, .unset, .unset, .unset] [(.int zD), (.int (XT.ushr p2 (16 : Int32))), (.ref b29), (.ref b23), (.int zC), (.long q0), (.ref b18), (.int p0), (.int zB), (.long q0), (.int zA), (.ref b13), (.ref b16), (.ref b16)])) rfl (by rw [hml]; rfl) (Steps.refl _) (a := b16) (argsL := [(.ref b13), (.int zA), (.long q0), (.int zB), (.int p0), (.ref b18), (.long q0), (.int zC), (.ref b23), (.ref b29), (.int (XT.ushr p2 (16 : Int32))), (.int zD)]) (rest := [(.ref b16)]) (lenOf own_pd2 rfl) rfl (by show 2 * 0 + _ ≤ _; exact Nat.le_of_eq rfl) (hb hby at_137) (fun _ _ => ⟨rfl, rfl, (by decide : 7 + 0 ≤ _), (by decide : 27 + 0 ≤ _)⟩)
  dsimp only [Pt.U, Pt.locs, Pt.cells, Pt.slots] at X49 l49 y49 z49 st49 hQ49
  subst l49 y49 z49
  obtain ⟨rfl, N49, Kc49, P49_0, P49_1⟩ := hQ49
  have NA49 := Fr.app NA35 N49
  have Z49 : n0 ≤ T49.heap.size := Nat.le_trans Z35 Kc49.1
  have K49 := K35.trans Kc49 (allS (Or.inr sz16) all0)
  have O49 := O35.keep Kc49 (allS gb16 all0)
  refine Go.back (t' := (T49.setTop (mkF m 140 #[.val (.int p0), .val (.int p1), .val (.int p2), .val (.long q0), .second, .val (.int kk), .val (.int (p0 ^^^ ((1 : Int32) <<< (kk &&& 31)))), .val (.int zA), .val (.int zB), .val (.int zC), .val (.int zD), .val (.ref b9), .val (.ref b13), .unset, .unset, .unset, .unset, .unset, .unset, .unset] [(.ref b16)]))) (fun u k => st49.trans k) ?_
  refine Go.back (t' := (T49.setTop (mkF m 142 #[.val (.int p0), .val (.int p1), .val (.int p2), .val (.long q0), .second, .val (.int kk), .val (.int (p0 ^^^ ((1 : Int32) <<< (kk &&& 31)))), .val (.int zA), .val (.int zB), .val (.int zC), .val (.int zD), .val (.ref b9), .val (.ref b13), .val (.ref b16), .unset, .unset, .unset, .unset, .unset, .unset] []))) (fun u k => XS.astore X49.here hx rfl (hb hby at_140) rfl rfl (l' := #[.val (.int p0), .val (.int p1), .val (.int p2), .val (.long q0), .second, .val (.int kk), .val (.int (p0 ^^^ ((1 : Int32) <<< (kk &&& 31)))), .val (.int zA), .val (.int zB), .val (.int zC), .val (.int zD), .val (.ref b9), .val (.ref b13), .val (.ref b16), .unset, .unset, .unset, .unset, .unset, .unset]) rfl k) ?_
  obtain ⟨T50, h50, X50, e50, E50, A50, D50, -, st50⟩ := newO X49 hx hZ hown (hw _ (List.mem_of_getElem? (i := 30) rfl)) (hw _ (List.mem_of_getElem? (i := 31) rfl)) (hw _ (List.mem_of_getElem? (i := 32) rfl)) rfl (g := (mkF m 142 #[.val (.int p0), .val (.int p1), .val (.int p2), .val (.long q0), .second, .val (.int kk), .val (.int (p0 ^^^ ((1 : Int32) <<< (kk &&& 31)))), .val (.int zA), .val (.int zB), .val (.int zC), .val (.int zD), .val (.ref b9), .val (.ref b13), .val (.ref b16), .unset, .unset, .unset, .unset, .unset, .unset] [])) rfl (hb hby at_142) (by decide) (by decide)
  obtain ⟨b50, g50⟩ : ∃ z, z = T49.heap.size := ⟨_, rfl⟩
  rw [← g50] at A50 D50 st50
  have f51 := (((f30.ext E29).keep Kc35 (ninS ne_b9_b29 nin0)).keep Kc49 (ninS ne_b9_b16 nin0))
  have ne_b9_b50 : b9 ≠ b50 := Nat.ne_of_lt (Nat.lt_of_lt_of_le f51.lt (Nat.le_of_eq g50.symm))
  have f52 := (((f31.ext E29).keep Kc35).keep Kc49)
  have ne_b13_b50 : b13 ≠ b50 := Nat.ne_of_lt (Nat.lt_of_lt_of_le f52.lt (Nat.le_of_eq g50.symm))
  have f53 := (((f32.ext E29).keep Kc35 (ninS ne_t14_b29 nin0)).keep Kc49 (ninS ne_t14_b16 nin0))
  have ne_t14_b50 : t14 ≠ b50 := Nat.ne_of_lt (Nat.lt_of_lt_of_le f53.lt (Nat.le_of_eq g50.symm))
  have ne_b16_b50 : b16 ≠ b50 := Nat.ne_of_lt (Nat.lt_of_lt_of_le P49_0.lt (Nat.le_of_eq g50.symm))
  have f54 := (((f34.ext E29).keep Kc35).keep Kc49)
  have ne_b18_b50 : b18 ≠ b50 := Nat.ne_of_lt (Nat.lt_of_lt_of_le f54.lt (Nat.le_of_eq g50.symm))
  have f55 := (((P28_0.ext E29).keep Kc35).keep Kc49)
  have ne_b23_b50 : b23 ≠ b50 := Nat.ne_of_lt (Nat.lt_of_lt_of_le f55.lt (Nat.le_of_eq g50.symm))
  have f56 := (P35_0.keep Kc49)
  have ne_b29_b50 : b29 ≠ b50 := Nat.ne_of_lt (Nat.lt_of_lt_of_le f56.lt (Nat.le_of_eq g50.symm))
  have gb50 : n0 ≤ b50 := Nat.le_trans Z49 (Nat.le_of_eq g50.symm)
  have sz50 : h0.size ≤ b50 := Nat.le_trans K49.1 (Nat.le_of_eq g50.symm)
  have Z50 : n0 ≤ h50.size := Nat.le_trans Z49 E50.1
  have K50 := K49.ext E50
  have O50 := O49.ext E50
  refine Go.back (t' := (T50.setTop (mkF m 145 #[.val (.int p0), .val (.int p1), .val (.int p2), .val (.long q0), .second, .val (.int kk), .val (.int (p0 ^^^ ((1 : Int32) <<< (kk &&& 31)))), .val (.int zA), .val (.int zB), .val (.int zC), .val (.int zD), .val (.ref b9), .val (.ref b13), .val (.ref b16), .unset, .unset, .unset, .unset, .unset, .unset] [(.ref b50)]))) st50 ?_
  refine Go.back (t' := (T50.setTop (mkF m 146 #[.val (.int p0), .val (.int p1), .val (.int p2), .val (.long q0), .second, .val (.int kk), .val (.int (p0 ^^^ ((1 : Int32) <<< (kk &&& 31)))), .val (.int zA), .val (.int zB), .val (.int zC), .val (.int zD), .val (.ref b9), .val (.ref b13), .val (.ref b16), .unset, .unset, .unset, .unset, .unset, .unset] [(.ref b50), (.ref b50)]))) (fun u k => XS.dup X50.here hx rfl (hb hby at_145) rfl rfl k) ?_
  refine Go.back (t' := (T50.setTop (mkF m 148 #[.val (.int p0), .val (.int p1), .val (.int p2), .val (.long q0), .second, .val (.int kk), .val (.int (p0 ^^^ ((1 : Int32) <<< (kk &&& 31)))), .val (.int zA), .val (.int zB), .val (.int zC), .val (.int zD), .val (.ref b9), .val (.ref b13), .val (.ref b16), .unset, .unset, .unset, .unset, .unset, .unset] [(.ref b13), (.ref b50), (.ref b50)]))) (fun u k => XS.aload X50.here hx rfl (hb hby at_146) rfl rfl k) ?_
  refine Go.back (t' := (T50.setTop (mkF m 150 #[.val (.int p0), .val (.int p1), .val (.int p2), .val (.long q0), .second, .val (.int kk), .val (.int (p0 ^^^ ((1 : Int32) <<< (kk &&& 31)))), .val (.int zA), .val (.int zB), .val (.int zC), .val (.int zD), .val (.ref b9), .val (.ref b13), .val (.ref b16), .unset, .unset, .unset, .unset, .unset, .unset] [(.int zD), (.ref b13), (.ref b50), (.ref b50)]))) (fun u k => XS.iload X50.here hx rfl (hb hby at_148) rfl k) ?_
  refine Go.back (t' := (T50.setTop (mkF m 151 #[.val (.int p0), .val (.int p1), .val (.int p2), .val (.long q0), .second, .val (.int kk), .val (.int (p0 ^^^ ((1 : Int32) <<< (kk &&& 31)))), .val (.int zA), .val (.int zB), .val (.int zC), .val (.int zD), .val (.ref b9), .val (.ref b13), .val (.ref b16), .unset, .unset, .unset, .unset, .unset, .unset] [(.long q0), (.int zD), (.ref b13), (.ref b50), (.ref b50)]))) (fun u k => XT.lloadN X50.here hx rfl (hb hby at_150) rfl k) ?_
  refine Go.back (t' := (T50.setTop (mkF m 153 #[.val (.int p0), .val (.int p1), .val (.int p2), .val (.long q0), .second, .val (.int kk), .val (.int (p0 ^^^ ((1 : Int32) <<< (kk &&& 31)))), .val (.int zA), .val (.int zB), .val (.int zC), .val (.int zD), .val (.ref b9), .val (.ref b13), .val (.ref b16), .unset, .unset, .unset, .unset, .unset, .unset] [(.int zC), (.long q0), (.int zD), (.ref b13), (.ref b50), (.ref b50)]))) (fun u k => XS.iload X50.here hx rfl (hb hby at_151) rfl k) ?_
  refine Go.back (t' := (T50.setTop (mkF m 155 #[.val (.int p0), .val (.int p1), .val (.int p2), .val (.long q0), .second, .val (.int kk), .val (.int (p0 ^^^ ((1 : Int32) <<< (kk &&& 31)))), .val (.int zA), .val (.int zB), .val (.int zC), .val (.int zD), .val (.ref b9), .val (.ref b13), .val (.ref b16), .unset, .unset, .unset, .unset, .unset, .unset] [(.int (p0 ^^^ ((1 : Int32) <<< (kk &&& 31)))), (.int zC), (.long q0), (.int zD), (.ref b13), (.ref b50), (.ref b50)]))) (fun u k => XS.iload X50.here hx rfl (hb hby at_153) rfl k) ?_
  obtain ⟨T57, h57, X57, e57, E57, A57, D57, -, st57⟩ := newO X50 hx hZ hown (hw _ (List.mem_of_getElem? (i := 33) rfl)) (hw _ (List.mem_of_getElem? (i := 34) rfl)) (hw _ (List.mem_of_getElem? (i := 35) rfl)) e50 (g := (mkF m 155 #[.val (.int p0), .val (.int p1), .val (.int p2), .val (.long q0), .second, .val (.int kk), .val (.int (p0 ^^^ ((1 : Int32) <<< (kk &&& 31)))), .val (.int zA), .val (.int zB), .val (.int zC), .val (.int zD), .val (.ref b9), .val (.ref b13), .val (.ref b16), .unset, .unset, .unset, .unset, .unset, .unset] [(.int (p0 ^^^ ((1 : Int32) <<< (kk &&& 31)))), (.int zC), (.long q0), (.int zD), (.ref b13), (.ref b50), (.ref b50)])) rfl (hb hby at_155) (by decide) (by decide)
  obtain ⟨b57, g57⟩ : ∃ z, z = h50.size := ⟨_, rfl⟩
  rw [← g57] at A57 D57 st57
  have f58 := (f51.ext E50)
  have ne_b9_b57 : b9 ≠ b57 := Nat.ne_of_lt (Nat.lt_of_lt_of_le f58.lt (Nat.le_of_eq g57.symm))
  have f59 := (f52.ext E50)
  have ne_b13_b57 : b13 ≠ b57 := Nat.ne_of_lt (Nat.lt_of_lt_of_le f59.lt (Nat.le_of_eq g57.symm))
  have f60 := (f53.ext E50)
  have ne_t14_b57 : t14 ≠ b57 := Nat.ne_of_lt (Nat.lt_of_lt_of_le f60.lt (Nat.le_of_eq g57.symm))
  have f61 := (P49_0.ext E50)
  have ne_b16_b57 : b16 ≠ b57 := Nat.ne_of_lt (Nat.lt_of_lt_of_le f61.lt (Nat.le_of_eq g57.symm))
  have f62 := (f54.ext E50)
  have ne_b18_b57 : b18 ≠ b57 := Nat.ne_of_lt (Nat.lt_of_lt_of_le f62.lt (Nat.le_of_eq g57.symm))
  have f63 := (f55.ext E50)
  have ne_b23_b57 : b23 ≠ b57 := Nat.ne_of_lt (Nat.lt_of_lt_of_le f63.lt (Nat.le_of_eq g57.symm))
  have f64 := (f56.ext E50)
  have ne_b29_b57 : b29 ≠ b57 := Nat.ne_of_lt (Nat.lt_of_lt_of_le f64.lt (Nat.le_of_eq g57.symm))
  have ne_b50_b57 : b50 ≠ b57 := Nat.ne_of_lt (Nat.lt_of_lt_of_le A50.lt (Nat.le_of_eq g57.symm))
  have gb57 : n0 ≤ b57 := Nat.le_trans Z50 (Nat.le_of_eq g57.symm)
  have sz57 : h0.size ≤ b57 := Nat.le_trans K50.1 (Nat.le_of_eq g57.symm)
  have Z57 : n0 ≤ h57.size := Nat.le_trans Z50 E57.1
  have K57 := K50.ext E57
  have O57 := O50.ext E57
  refine Go.back (t' := (T57.setTop (mkF m 158 #[.val (.int p0), .val (.int p1), .val (.int p2), .val (.long q0), .second, .val (.int kk), .val (.int (p0 ^^^ ((1 : Int32) <<< (kk &&& 31)))), .val (.int zA), .val (.int zB), .val (.int zC), .val (.int zD), .val (.ref b9), .val (.ref b13), .val (.ref b16), .unset, .unset, .unset, .unset, .unset, .unset] [(.ref b57), (.int (p0 ^^^ ((1 : Int32) <<< (kk &&& 31)))), (.int zC), (.long q0), (.int zD), (.ref b13), (.ref b50), (.ref b50)]))) st57 ?_
  refine Go.back (t' := (T57.setTop (mkF m 159 #[.val (.int p0), .val (.int p1), .val (.int p2), .val (.long q0), .second, .val (.int kk), .val (.int (p0 ^^^ ((1 : Int32) <<< (kk &&& 31)))), .val (.int zA), .val (.int zB), .val (.int zC), .val (.int zD), .val (.ref b9), .val (.ref b13), .val (.ref b16), .unset, .unset, .unset, .unset, .unset, .unset] [(.ref b57), (.ref b57), (.int (p0 ^^^ ((1 : Int32) <<< (kk &&& 31)))), (.int zC), (.long q0), (.int zD), (.ref b13), (.ref b50), (.ref b50)]))) (fun u k => XS.dup X57.here hx rfl (hb hby at_158) rfl rfl k) ?_
  obtain ⟨_, _, ⟨T65, L65, k65, n65⟩, -, X65, ⟨Lc65, hQ65, l65, y65, z65⟩, st65⟩ := X57.specialBack hx (y := (⟨"java/util/ArrayList", "<init>", "()V"⟩ : MethodName)) rfl hown (mvT hZ (hw _ (List.mem_of_getElem? (i := 36) rfl))) (mvT hZ (hw _ (List.mem_of_getElem? (i := 37) rfl))) (mvT hZ (hw _ (List.mem_of_getElem? (i := 38) rfl))) (by decide) (backOf (W := 9) (own_alInit l Z a0 hw [] b57 wD h57 n0 Z57 A57 (D57 (Or.inl (hw _ (List.mem_of_getElem? (i := 53) rfl))) (ty := .int) (by decide)) (D57 (Or.inl (hw _ (List.mem_of_getElem? (i := 56) rfl))) (ty := (.array (.object "java/lang/Object"))) (by decide)) gb57 O57 SD) hZ (hw _ (List.mem_of_getElem? (i := 38) rfl)) (hw _ (List.mem_of_getElem? (i := 35) rfl)) (by decide) (by decide)) (g := (mkF m 159 #[.val (.int p0), .val (.int p1), .val (.int p2), .val (.long q0), .second, .val (.int kk), .val (.int (p0 ^^^ ((1 : Int32) <<< (kk &&& 31)))), .val (.int zA), .val (.int zB), .val (.int zC), .val (.int zD), .val (.ref b9), .val (.ref b13), .val (.ref b16), .unset, .unset, .unset, .unset, .unset, .unset] [(.ref b57), (.ref b57), (.int (p0 ^^^ ((1 : Int32) <<< (kk &&& 31)))), (.int zC), (.long q0), (.int zD), (.ref b13), (.ref b50), (.ref b50)])) rfl (by rw [hml]; rfl) (Steps.refl _) (a := b57) (argsL := []) (rest := [(.ref b57), (.int (p0 ^^^ ((1 : Int32) <<< (kk &&& 31)))), (.int zC), (.long q0), (.int zD), (.ref b13), (.ref b50), (.ref b50)]) (lenOf own_pd0 rfl) rfl (by show 2 * 0 + _ ≤ _; exact Nat.le_of_eq rfl) (hb hby at_159) (fun _ _ => ⟨rfl, e57, (by decide : 9 + 0 ≤ _), (by decide : 42 + 0 ≤ _)⟩)
  dsimp only [Pt.U, Pt.locs, Pt.cells, Pt.slots] at X65 l65 y65 z65 st65 hQ65
  subst l65 y65 z65
  obtain ⟨rfl, N65, Kc65, P65_0⟩ := hQ65
  have NA65 := Fr.app NA49 N65
  have Z65 : n0 ≤ T65.heap.size := Nat.le_trans Z57 Kc65.1
  have K65 := K57.trans Kc65 (allS (Or.inr sz57) all0)
  have O65 := O57.keep Kc65 (allS gb57 all0)
  refine Go.back (t' := (T65.setTop (mkF m 162 #[.val (.int p0), .val (.int p1), .val (.int p2), .val (.long q0), .second, .val (.int kk), .val (.int (p0 ^^^ ((1 : Int32) <<< (kk &&& 31)))), .val (.int zA), .val (.int zB), .val (.int zC), .val (.int zD), .val (.ref b9), .val (.ref b13), .val (.ref b16), .unset, .unset, .unset, .unset, .unset, .unset] [(.ref b57), (.int (p0 ^^^ ((1 : Int32) <<< (kk &&& 31)))), (.int zC), (.long q0), (.int zD), (.ref b13), (.ref b50), (.ref b50)]))) (fun u k => st65.trans k) ?_
  refine Go.back (t' := (T65.setTop (mkF m 163 #[.val (.int p0), .val (.int p1), .val (.int p2), .val (.long q0), .second, .val (.int kk), .val (.int (p0 ^^^ ((1 : Int32) <<< (kk &&& 31)))), .val (.int zA), .val (.int zB), .val (.int zC), .val (.int zD), .val (.ref b9), .val (.ref b13), .val (.ref b16), .unset, .unset, .unset, .unset, .unset, .unset] [(.long q0), (.ref b57), (.int (p0 ^^^ ((1 : Int32) <<< (kk &&& 31)))), (.int zC), (.long q0), (.int zD), (.ref b13), (.ref b50), (.ref b50)]))) (fun u k => XT.lloadN X65.here hx rfl (hb hby at_162) rfl k) ?_
  refine Go.back (t' := (T65.setTop (mkF m 165 #[.val (.int p0), .val (.int p1), .val (.int p2), .val (.long q0), .second, .val (.int kk), .val (.int (p0 ^^^ ((1 : Int32) <<< (kk &&& 31)))), .val (.int zA), .val (.int zB), .val (.int zC), .val (.int zD), .val (.ref b9), .val (.ref b13), .val (.ref b16), .unset, .unset, .unset, .unset, .unset, .unset] [(.int zB), (.long q0), (.ref b57), (.int (p0 ^^^ ((1 : Int32) <<< (kk &&& 31)))), (.int zC), (.long q0), (.int zD), (.ref b13), (.ref b50), (.ref b50)]))) (fun u k => XS.iload X65.here hx rfl (hb hby at_163) rfl k) ?_
  obtain ⟨T66, h66, X66, e66, E66, A66, D66, -, st66⟩ := newO X65 hx hZ hown (hw _ (List.mem_of_getElem? (i := 33) rfl)) (hw _ (List.mem_of_getElem? (i := 34) rfl)) (hw _ (List.mem_of_getElem? (i := 35) rfl)) rfl (g := (mkF m 165 #[.val (.int p0), .val (.int p1), .val (.int p2), .val (.long q0), .second, .val (.int kk), .val (.int (p0 ^^^ ((1 : Int32) <<< (kk &&& 31)))), .val (.int zA), .val (.int zB), .val (.int zC), .val (.int zD), .val (.ref b9), .val (.ref b13), .val (.ref b16), .unset, .unset, .unset, .unset, .unset, .unset] [(.int zB), (.long q0), (.ref b57), (.int (p0 ^^^ ((1 : Int32) <<< (kk &&& 31)))), (.int zC), (.long q0), (.int zD), (.ref b13), (.ref b50), (.ref b50)])) rfl (hb hby at_165) (by decide) (by decide)
  obtain ⟨b66, g66⟩ : ∃ z, z = T65.heap.size := ⟨_, rfl⟩
  rw [← g66] at A66 D66 st66
  have f67 := ((f58.ext E57).keep Kc65 (ninS ne_b9_b57 nin0))
  have ne_b9_b66 : b9 ≠ b66 := Nat.ne_of_lt (Nat.lt_of_lt_of_le f67.lt (Nat.le_of_eq g66.symm))
  have f68 := ((f59.ext E57).keep Kc65)
  have ne_b13_b66 : b13 ≠ b66 := Nat.ne_of_lt (Nat.lt_of_lt_of_le f68.lt (Nat.le_of_eq g66.symm))
  have f69 := ((f60.ext E57).keep Kc65 (ninS ne_t14_b57 nin0))
  have ne_t14_b66 : t14 ≠ b66 := Nat.ne_of_lt (Nat.lt_of_lt_of_le f69.lt (Nat.le_of_eq g66.symm))
  have f70 := ((f61.ext E57).keep Kc65)
  have ne_b16_b66 : b16 ≠ b66 := Nat.ne_of_lt (Nat.lt_of_lt_of_le f70.lt (Nat.le_of_eq g66.symm))
  have f71 := ((f62.ext E57).keep Kc65)
  have ne_b18_b66 : b18 ≠ b66 := Nat.ne_of_lt (Nat.lt_of_lt_of_le f71.lt (Nat.le_of_eq g66.symm))
  have f72 := ((f63.ext E57).keep Kc65)
  have ne_b23_b66 : b23 ≠ b66 := Nat.ne_of_lt (Nat.lt_of_lt_of_le f72.lt (Nat.le_of_eq g66.symm))
  have f73 := ((f64.ext E57).keep Kc65)
  have ne_b29_b66 : b29 ≠ b66 := Nat.ne_of_lt (Nat.lt_of_lt_of_le f73.lt (Nat.le_of_eq g66.symm))
  have f74 := ((A50.ext E57).keep Kc65)
  have ne_b50_b66 : b50 ≠ b66 := Nat.ne_of_lt (Nat.lt_of_lt_of_le f74.lt (Nat.le_of_eq g66.symm))
  have ne_b57_b66 : b57 ≠ b66 := Nat.ne_of_lt (Nat.lt_of_lt_of_le P65_0.lt (Nat.le_of_eq g66.symm))
  have gb66 : n0 ≤ b66 := Nat.le_trans Z65 (Nat.le_of_eq g66.symm)
  have sz66 : h0.size ≤ b66 := Nat.le_trans K65.1 (Nat.le_of_eq g66.symm)
  have Z66 : n0 ≤ h66.size := Nat.le_trans Z65 E66.1
  have K66 := K65.ext E66
  have O66 := O65.ext E66
  refine Go.back (t' := (T66.setTop (mkF m 168 #[.val (.int p0), .val (.int p1), .val (.int p2), .val (.long q0), .second, .val (.int kk), .val (.int (p0 ^^^ ((1 : Int32) <<< (kk &&& 31)))), .val (.int zA), .val (.int zB), .val (.int zC), .val (.int zD), .val (.ref b9), .val (.ref b13), .val (.ref b16), .unset, .unset, .unset, .unset, .unset, .unset] [(.ref b66), (.int zB), (.long q0), (.ref b57), (.int (p0 ^^^ ((1 : Int32) <<< (kk &&& 31)))), (.int zC), (.long q0), (.int zD), (.ref b13), (.ref b50), (.ref b50)]))) st66 ?_
  refine Go.back (t' := (T66.setTop (mkF m 169 #[.val (.int p0), .val (.int p1), .val (.int p2), .val (.long q0), .second, .val (.int kk), .val (.int (p0 ^^^ ((1 : Int32) <<< (kk &&& 31)))), .val (.int zA), .val (.int zB), .val (.int zC), .val (.int zD), .val (.ref b9), .val (.ref b13), .val (.ref b16), .unset, .unset, .unset, .unset, .unset, .unset] [(.ref b66), (.ref b66), (.int zB), (.long q0), (.ref b57), (.int (p0 ^^^ ((1 : Int32) <<< (kk &&& 31)))), (.int zC), (.long q0), (.int zD), (.ref b13), (.ref b50), (.ref b50)]))) (fun u k => XS.dup X66.here hx rfl (hb hby at_168) rfl rfl k) ?_
  obtain ⟨_, _, ⟨T75, L75, k75, n75⟩, -, X75, ⟨Lc75, hQ75, l75, y75, z75⟩, st75⟩ := X66.specialBack hx (y := (⟨"java/util/ArrayList", "<init>", "()V"⟩ : MethodName)) rfl hown (mvT hZ (hw _ (List.mem_of_getElem? (i := 36) rfl))) (mvT hZ (hw _ (List.mem_of_getElem? (i := 37) rfl))) (mvT hZ (hw _ (List.mem_of_getElem? (i := 38) rfl))) (by decide) (backOf (W := 13) (own_alInit l Z a0 hw [] b66 wD h66 n0 Z66 A66 (D66 (Or.inl (hw _ (List.mem_of_getElem? (i := 53) rfl))) (ty := .int) (by decide)) (D66 (Or.inl (hw _ (List.mem_of_getElem? (i := 56) rfl))) (ty := (.array (.object "java/lang/Object"))) (by decide)) gb66 O66 SD) hZ (hw _ (List.mem_of_getElem? (i := 38) rfl)) (hw _ (List.mem_of_getElem? (i := 35) rfl)) (by decide) (by decide)) (g := (mkF m 169 #[.val (.int p0), .val (.int p1), .val (.int p2), .val (.long q0), .second, .val (.int kk), .val (.int (p0 ^^^ ((1 : Int32) <<< (kk &&& 31)))), .val (.int zA), .val (.int zB), .val (.int zC), .val (.int zD), .val (.ref b9), .val (.ref b13), .val (.ref b16), .unset, .unset, .unset, .unset, .unset, .unset] [(.ref b66), (.ref b66), (.int zB), (.long q0), (.ref b57), (.int (p0 ^^^ ((1 : Int32) <<< (kk &&& 31)))), (.int zC), (.long q0), (.int zD), (.ref b13), (.ref b50), (.ref b50)])) rfl (by rw [hml]; rfl) (Steps.refl _) (a := b66) (argsL := []) (rest := [(.ref b66), (.int zB), (.long q0), (.ref b57), (.int (p0 ^^^ ((1 : Int32) <<< (kk &&& 31)))), (.int zC), (.long q0), (.int zD), (.ref b13), (.ref b50), (.ref b50)]) (lenOf own_pd0 rfl) rfl (by show 2 * 0 + _ ≤ _; exact Nat.le_of_eq rfl) (hb hby at_169) (fun _ _ => ⟨rfl, e66, (by decide : 10 + 0 ≤ _), (by decide : 45 + 0 ≤ _)⟩)
  dsimp only [Pt.U, Pt.locs, Pt.cells, Pt.slots] at X75 l75 y75 z75 st75 hQ75
  subst l75 y75 z75
  obtain ⟨rfl, N75, Kc75, P75_0⟩ := hQ75
  have NA75 := Fr.app NA65 N75
  have Z75 : n0 ≤ T75.heap.size := Nat.le_trans Z66 Kc75.1
  have K75 := K66.trans Kc75 (allS (Or.inr sz66) all0)
  have O75 := O66.keep Kc75 (allS gb66 all0)
  refine Go.back (t' := (T75.setTop (mkF m 172 #[.val (.int p0), .val (.int p1), .val (.int p2), .val (.long q0), .second, .val (.int kk), .val (.int (p0 ^^^ ((1 : Int32) <<< (kk &&& 31)))), .val (.int zA), .val (.int zB), .val (.int zC), .val (.int zD), .val (.ref b9), .val (.ref b13), .val (.ref b16), .unset, .unset, .unset, .unset, .unset, .unset] [(.ref b66), (.int zB), (.long q0), (.ref b57), (.int (p0 ^^^ ((1 : Int32) <<< (kk &&& 31)))), (.int zC), (.long q0), (.int zD), (.ref b13), (.ref b50), (.ref b50)]))) (fun u k => st75.trans k) ?_
  obtain ⟨T76, h76, X76, e76, E76, A76, D76, -, st76⟩ := newO X75 hx hZ hown (hw _ (List.mem_of_getElem? (i := 33) rfl)) (hw _ (List.mem_of_getElem? (i := 34) rfl)) (hw _ (List.mem_of_getElem? (i := 35) rfl)) rfl (g := (mkF m 172 #[.val (.int p0), .val (.int p1), .val (.int p2), .val (.long q0), .second, .val (.int kk), .val (.int (p0 ^^^ ((1 : Int32) <<< (kk &&& 31)))), .val (.int zA), .val (.int zB), .val (.int zC), .val (.int zD), .val (.ref b9), .val (.ref b13), .val (.ref b16), .unset, .unset, .unset, .unset, .unset, .unset] [(.ref b66), (.int zB), (.long q0), (.ref b57), (.int (p0 ^^^ ((1 : Int32) <<< (kk &&& 31)))), (.int zC), (.long q0), (.int zD), (.ref b13), (.ref b50), (.ref b50)])) rfl (hb hby at_172) (by decide) (by decide)
  obtain ⟨b76, g76⟩ : ∃ z, z = T75.heap.size := ⟨_, rfl⟩
  rw [← g76] at A76 D76 st76
  have f77 := ((f67.ext E66).keep Kc75 (ninS ne_b9_b66 nin0))
  have ne_b9_b76 : b9 ≠ b76 := Nat.ne_of_lt (Nat.lt_of_lt_of_le f77.lt (Nat.le_of_eq g76.symm))
  have f78 := ((f68.ext E66).keep Kc75)
  have ne_b13_b76 : b13 ≠ b76 := Nat.ne_of_lt (Nat.lt_of_lt_of_le f78.lt (Nat.le_of_eq g76.symm))
  have f79 := ((f69.ext E66).keep Kc75 (ninS ne_t14_b66 nin0))
  have ne_t14_b76 : t14 ≠ b76 := Nat.ne_of_lt (Nat.lt_of_lt_of_le f79.lt (Nat.le_of_eq g76.symm))
  have f80 := ((f70.ext E66).keep Kc75)
  have ne_b16_b76 : b16 ≠ b76 := Nat.ne_of_lt (Nat.lt_of_lt_of_le f80.lt (Nat.le_of_eq g76.symm))
  have f81 := ((f71.ext E66).keep Kc75)
  have ne_b18_b76 : b18 ≠ b76 := Nat.ne_of_lt (Nat.lt_of_lt_of_le f81.lt (Nat.le_of_eq g76.symm))
  have f82 := ((f72.ext E66).keep Kc75)
  have ne_b23_b76 : b23 ≠ b76 := Nat.ne_of_lt (Nat.lt_of_lt_of_le f82.lt (Nat.le_of_eq g76.symm))
  have f83 := ((f73.ext E66).keep Kc75)
  have ne_b29_b76 : b29 ≠ b76 := Nat.ne_of_lt (Nat.lt_of_lt_of_le f83.lt (Nat.le_of_eq g76.symm))
  have f84 := ((f74.ext E66).keep Kc75)
  have ne_b50_b76 : b50 ≠ b76 := Nat.ne_of_lt (Nat.lt_of_lt_of_le f84.lt (Nat.le_of_eq g76.symm))
  have f85 := ((P65_0.ext E66).keep Kc75)
  have ne_b57_b76 : b57 ≠ b76 := Nat.ne_of_lt (Nat.lt_of_lt_of_le f85.lt (Nat.le_of_eq g76.symm))
  have ne_b66_b76 : b66 ≠ b76 := Nat.ne_of_lt (Nat.lt_of_lt_of_le P75_0.lt (Nat.le_of_eq g76.symm))
  have gb76 : n0 ≤ b76 := Nat.le_trans Z75 (Nat.le_of_eq g76.symm)
  have sz76 : h0.size ≤ b76 := Nat.le_trans K75.1 (Nat.le_of_eq g76.symm)
  have Z76 : n0 ≤ h76.size := Nat.le_trans Z75 E76.1
  have K76 := K75.ext E76
  have O76 := O75.ext E76
  refine Go.back (t' := (T76.setTop (mkF m 175 #[.val (.int p0), .val (.int p1), .val (.int p2), .val (.long q0), .second, .val (.int kk), .val (.int (p0 ^^^ ((1 : Int32) <<< (kk &&& 31)))), .val (.int zA), .val (.int zB), .val (.int zC), .val (.int zD), .val (.ref b9), .val (.ref b13), .val (.ref b16), .unset, .unset, .unset, .unset, .unset, .unset] [(.ref b76), (.ref b66), (.int zB), (.long q0), (.ref b57), (.int (p0 ^^^ ((1 : Int32) <<< (kk &&& 31)))), (.int zC), (.long q0), (.int zD), (.ref b13), (.ref b50), (.ref b50)]))) st76 ?_
  refine Go.back (t' := (T76.setTop (mkF m 176 #[.val (.int p0), .val (.int p1), .val (.int p2), .val (.long q0), .second, .val (.int kk), .val (.int (p0 ^^^ ((1 : Int32) <<< (kk &&& 31)))), .val (.int zA), .val (.int zB), .val (.int zC), .val (.int zD), .val (.ref b9), .val (.ref b13), .val (.ref b16), .unset, .unset, .unset, .unset, .unset, .unset] [(.ref b76), (.ref b76), (.ref b66), (.int zB), (.long q0), (.ref b57), (.int (p0 ^^^ ((1 : Int32) <<< (kk &&& 31)))), (.int zC), (.long q0), (.int zD), (.ref b13), (.ref b50), (.ref b50)]))) (fun u k => XS.dup X76.here hx rfl (hb hby at_175) rfl rfl k) ?_
  obtain ⟨_, _, ⟨T86, L86, k86, n86⟩, -, X86, ⟨Lc86, hQ86, l86, y86, z86⟩, st86⟩ := X76.specialBack hx (y := (⟨"java/util/ArrayList", "<init>", "()V"⟩ : MethodName)) rfl hown (mvT hZ (hw _ (List.mem_of_getElem? (i := 36) rfl))) (mvT hZ (hw _ (List.mem_of_getElem? (i := 37) rfl))) (mvT hZ (hw _ (List.mem_of_getElem? (i := 38) rfl))) (by decide) (backOf (W := 14) (own_alInit l Z a0 hw [] b76 wD h76 n0 Z76 A76 (D76 (Or.inl (hw _ (List.mem_of_getElem? (i := 53) rfl))) (ty := .int) (by decide)) (D76 (Or.inl (hw _ (List.mem_of_getElem? (i := 56) rfl))) (ty := (.array (.object "java/lang/Object"))) (by decide)) gb76 O76 SD) hZ (hw _ (List.mem_of_getElem? (i := 38) rfl)) (hw _ (List.mem_of_getElem? (i := 35) rfl)) (by decide) (by decide)) (g := (mkF m 176 #[.val (.int p0), .val (.int p1), .val (.int p2), .val (.long q0), .second, .val (.int kk), .val (.int (p0 ^^^ ((1 : Int32) <<< (kk &&& 31)))), .val (.int zA), .val (.int zB), .val (.int zC), .val (.int zD), .val (.ref b9), .val (.ref b13), .val (.ref b16), .unset, .unset, .unset, .unset, .unset, .unset] [(.ref b76), (.ref b76), (.ref b66), (.int zB), (.long q0), (.ref b57), (.int (p0 ^^^ ((1 : Int32) <<< (kk &&& 31)))), (.int zC), (.long q0), (.int zD), (.ref b13), (.ref b50), (.ref b50)])) rfl (by rw [hml]; rfl) (Steps.refl _) (a := b76) (argsL := []) (rest := [(.ref b76), (.ref b66), (.int zB), (.long q0), (.ref b57), (.int (p0 ^^^ ((1 : Int32) <<< (kk &&& 31)))), (.int zC), (.long q0), (.int zD), (.ref b13), (.ref b50), (.ref b50)]) (lenOf own_pd0 rfl) rfl (by show 2 * 0 + _ ≤ _; exact Nat.le_of_eq rfl) (hb hby at_176) (fun _ _ => ⟨rfl, e76, (by decide : 11 + 0 ≤ _), (by decide : 48 + 0 ≤ _)⟩)
  dsimp only [Pt.U, Pt.locs, Pt.cells, Pt.slots] at X86 l86 y86 z86 st86 hQ86
  subst l86 y86 z86
  obtain ⟨rfl, N86, Kc86, P86_0⟩ := hQ86
  have NA86 := Fr.app NA75 N86
  have Z86 : n0 ≤ T86.heap.size := Nat.le_trans Z76 Kc86.1
  have K86 := K76.trans Kc86 (allS (Or.inr sz76) all0)
  have O86 := O76.keep Kc86 (allS gb76 all0)
  refine Go.back (t' := (T86.setTop (mkF m 179 #[.val (.int p0), .val (.int p1), .val (.int p2), .val (.long q0), .second, .val (.int kk), .val (.int (p0 ^^^ ((1 : Int32) <<< (kk &&& 31)))), .val (.int zA), .val (.int zB), .val (.int zC), .val (.int zD), .val (.ref b9), .val (.ref b13), .val (.ref b16), .unset, .unset, .unset, .unset, .unset, .unset] [(.ref b76), (.ref b66), (.int zB), (.long q0), (.ref b57), (.int (p0 ^^^ ((1 : Int32) <<< (kk &&& 31)))), (.int zC), (.long q0), (.int zD), (.ref b13), (.ref b50), (.ref b50)]))) (fun u k => st86.trans k) ?_
  refine Go.back (t' := (T86.setTop (mkF m 180 #[.val (.int p0), .val (.int p1), .val (.int p2), .val (.long q0), .second, .val (.int kk), .val (.int (p0 ^^^ ((1 : Int32) <<< (kk &&& 31)))), .val (.int zA), .val (.int zB), .val (.int zC), .val (.int zD), .val (.ref b9), .val (.ref b13), .val (.ref b16), .unset, .unset, .unset, .unset, .unset, .unset] [(.int p2), (.ref b76), (.ref b66), (.int zB), (.long q0), (.ref b57), (.int (p0 ^^^ ((1 : Int32) <<< (kk &&& 31)))), (.int zC), (.long q0), (.int zD), (.ref b13), (.ref b50), (.ref b50)]))) (fun u k => XS.iloadN X86.here hx rfl (hb hby at_179) rfl k) ?_
  refine Go.back (t' := (T86.setTop (mkF m 182 #[.val (.int p0), .val (.int p1), .val (.int p2), .val (.long q0), .second, .val (.int kk), .val (.int (p0 ^^^ ((1 : Int32) <<< (kk &&& 31)))), .val (.int zA), .val (.int zB), .val (.int zC), .val (.int zD), .val (.ref b9), .val (.ref b13), .val (.ref b16), .unset, .unset, .unset, .unset, .unset, .unset] [(.int (16 : Int32)), (.int p2), (.ref b76), (.ref b66), (.int zB), (.long q0), (.ref b57), (.int (p0 ^^^ ((1 : Int32) <<< (kk &&& 31)))), (.int zC), (.long q0), (.int zD), (.ref b13), (.ref b50), (.ref b50)]))) (fun u k => XT.bipushV X86.here hx rfl (16 : Int32) (hb hby at_180) (by decide) k) ?_
  refine Go.back (t' := (T86.setTop (mkF m 183 #[.val (.int p0), .val (.int p1), .val (.int p2), .val (.long q0), .second, .val (.int kk), .val (.int (p0 ^^^ ((1 : Int32) <<< (kk &&& 31)))), .val (.int zA), .val (.int zB), .val (.int zC), .val (.int zD), .val (.ref b9), .val (.ref b13), .val (.ref b16), .unset, .unset, .unset, .unset, .unset, .unset] [(.int (XT.ushr p2 (16 : Int32))), (.ref b76), (.ref b66), (.int zB), (.long q0), (.ref b57), (.int (p0 ^^^ ((1 : Int32) <<< (kk &&& 31)))), (.int zC), (.long q0), (.int zD), (.ref b13), (.ref b50), (.ref b50)]))) (fun u k => XT.iushr X86.here hx rfl (hb hby at_182) rfl k) ?_
  refine Go.back (t' := (T86.setTop (mkF m 185 #[.val (.int p0), .val (.int p1), .val (.int p2), .val (.long q0), .second, .val (.int kk), .val (.int (p0 ^^^ ((1 : Int32) <<< (kk &&& 31)))), .val (.int zA), .val (.int zB), .val (.int zC), .val (.int zD), .val (.ref b9), .val (.ref b13), .val (.ref b16), .unset, .unset, .unset, .unset, .unset, .unset] [(.int zA), (.int (XT.ushr p2 (16 : Int32))), (.ref b76), (.ref b66), (.int zB), (.long q0), (.ref b57), (.int (p0 ^^^ ((1 : Int32) <<< (kk &&& 31)))), (.int zC), (.long q0), (.int zD), (.ref b13), (.ref b50), (.ref b50)]))) (fun u k => XS.iload X86.here hx rfl (hb hby at_183) rfl k) ?_
  have f87 := ((f84.ext E76).keep Kc86)
  have f88 := (((((((D50 (Or.inr (hw _ (List.mem_of_getElem? (i := 62) rfl))) (ty := (.object "java/lang/String")) (by decide)).ext E57).keep Kc65 (ninS ne_b50_b57 nin0)).ext E66).keep Kc75 (ninS ne_b50_b66 nin0)).ext E76).keep Kc86 (ninS ne_b50_b76 nin0))
  have f89 := (((((((D50 (Or.inr (hw _ (List.mem_of_getElem? (i := 64) rfl))) (ty := .boolean) (by decide)).ext E57).keep Kc65 (ninS ne_b50_b57 nin0)).ext E66).keep Kc75 (ninS ne_b50_b66 nin0)).ext E76).keep Kc86 (ninS ne_b50_b76 nin0))
  have f90 := (((((((D50 (Or.inr (hw _ (List.mem_of_getElem? (i := 66) rfl))) (ty := .long) (by decide)).ext E57).keep Kc65 (ninS ne_b50_b57 nin0)).ext E66).keep Kc75 (ninS ne_b50_b66 nin0)).ext E76).keep Kc86 (ninS ne_b50_b76 nin0))
  have f91 := (((((((D50 (Or.inr (hw _ (List.mem_of_getElem? (i := 68) rfl))) (ty := .boolean) (by decide)).ext E57).keep Kc65 (ninS ne_b50_b57 nin0)).ext E66).keep Kc75 (ninS ne_b50_b66 nin0)).ext E76).keep Kc86 (ninS ne_b50_b76 nin0))
  have f92 := (((((((D50 (Or.inr (hw _ (List.mem_of_getElem? (i := 70) rfl))) (ty := .int) (by decide)).ext E57).keep Kc65 (ninS ne_b50_b57 nin0)).ext E66).keep Kc75 (ninS ne_b50_b66 nin0)).ext E76).keep Kc86 (ninS ne_b50_b76 nin0))
  have f93 := (((((((D50 (Or.inr (hw _ (List.mem_of_getElem? (i := 72) rfl))) (ty := (.object "java/util/List")) (by decide)).ext E57).keep Kc65 (ninS ne_b50_b57 nin0)).ext E66).keep Kc75 (ninS ne_b50_b66 nin0)).ext E76).keep Kc86 (ninS ne_b50_b76 nin0))
  have f94 := (((((((D50 (Or.inr (hw _ (List.mem_of_getElem? (i := 74) rfl))) (ty := .long) (by decide)).ext E57).keep Kc65 (ninS ne_b50_b57 nin0)).ext E66).keep Kc75 (ninS ne_b50_b66 nin0)).ext E76).keep Kc86 (ninS ne_b50_b76 nin0))
  have f95 := (((((((D50 (Or.inr (hw _ (List.mem_of_getElem? (i := 76) rfl))) (ty := .boolean) (by decide)).ext E57).keep Kc65 (ninS ne_b50_b57 nin0)).ext E66).keep Kc75 (ninS ne_b50_b66 nin0)).ext E76).keep Kc86 (ninS ne_b50_b76 nin0))
  have f96 := (((((((D50 (Or.inr (hw _ (List.mem_of_getElem? (i := 78) rfl))) (ty := (.object "java/util/List")) (by decide)).ext E57).keep Kc65 (ninS ne_b50_b57 nin0)).ext E66).keep Kc75 (ninS ne_b50_b66 nin0)).ext E76).keep Kc86 (ninS ne_b50_b76 nin0))
  have f97 := (((((((D50 (Or.inr (hw _ (List.mem_of_getElem? (i := 80) rfl))) (ty := (.object "java/util/List")) (by decide)).ext E57).keep Kc65 (ninS ne_b50_b57 nin0)).ext E66).keep Kc75 (ninS ne_b50_b66 nin0)).ext E76).keep Kc86 (ninS ne_b50_b76 nin0))
  have f98 := (((((((D50 (Or.inr (hw _ (List.mem_of_getElem? (i := 82) rfl))) (ty := .int) (by decide)).ext E57).keep Kc65 (ninS ne_b50_b57 nin0)).ext E66).keep Kc75 (ninS ne_b50_b66 nin0)).ext E76).keep Kc86 (ninS ne_b50_b76 nin0))
  have f99 := (((((((D50 (Or.inr (hw _ (List.mem_of_getElem? (i := 84) rfl))) (ty := .boolean) (by decide)).ext E57).keep Kc65 (ninS ne_b50_b57 nin0)).ext E66).keep Kc75 (ninS ne_b50_b66 nin0)).ext E76).keep Kc86 (ninS ne_b50_b76 nin0))
  obtain ⟨_, _, ⟨T100, L100, k100, n100⟩, -, X100, ⟨Lc100, hQ100, l100, y100, z100⟩, st100⟩ := X86.specialBack hx (y := (⟨"com/example/persistutils/persistutils/engine/PostgresTables$Table", "<init>", "(Ljava/lang/String;ZJZILjava/util/List;JZLjava/util/List;Ljava/util/List;IZ)V"⟩ : MethodName)) rfl hown (mvT hZ (hw _ (List.mem_of_getElem? (i := 57) rfl))) (mvT hZ (hw _ (List.mem_of_getElem? (i := 58) rfl))) (mvT hZ (hw _ (List.mem_of_getElem? (i := 59) rfl))) (by decide) (backOf (W := 1) (own_tbInit l Z a0 hw [] b50 b13 zD q0 zC (p0 ^^^ ((1 : Int32) <<< (kk &&& 31))) b57 q0 zB b66 b76 (XT.ushr p2 (16 : Int32)) zA T86.heap n0 Z86 f87 f88 f89 f90 f91 f92 f93 f94 f95 f96 f97 f98 f99 gb50 bit_zD bit_zC bit_zB bit_zA) hZ (hw _ (List.mem_of_getElem? (i := 59) rfl)) (hw _ (List.mem_of_getElem? (i := 32) rfl)) (by decide) (by decide)) (g := (mkF m 185 #[.val (.int p0), .val (.int p1), .val (.int p2), .val (.long q0), .second, .val (.int kk), .val (.int (p0 ^^^ ((1 : Int32) <<< (kk &&& 31)))), .val (.int zA), .val (.int zB), .val (.int zC), .val (.int zD), .val (.ref b9), .val (.ref b13), .val (.ref b16), .unset, .unset, .unset, .unset, .unset, .unset] [(.int zA), (.int (XT.ushr p2 (16 : Int32))), (.ref b76), (.ref b66), (.int zB), (.long q0), (.ref b57), (.int (p0 ^^^ ((1 : Int32) <<< (kk &&& 31)))), (.int zC), (.long q0), (.int zD), (.ref b13), (.ref b50), (.ref b50)])) rfl (by rw [hml]; rfl) (Steps.refl _) (a := b50) (argsL := [(.ref b13), (.int zD), (.long q0), (.int zC), (.int (p0 ^^^ ((1 : Int32) <<< (kk &&& 31)))), (.ref b57), (.long q0), (.int zB), (.ref b66), (.ref b76), (.int (XT.ushr p2 (16 : Int32))), (.int zA)]) (rest := [(.ref b50)]) (lenOf own_pd2 rfl) rfl (by show 2 * 0 + _ ≤ _; exact Nat.le_of_eq rfl) (hb hby at_185) (fun _ _ => ⟨rfl, rfl, (by decide : 11 + 0 ≤ _), (by decide : 48 + 0 ≤ _)⟩)
  dsimp only [Pt.U, Pt.locs, Pt.cells, Pt.slots] at X100 l100 y100 z100 st100 hQ100
  subst l100 y100 z100
  obtain ⟨rfl, N100, Kc100, P100_0, P100_1⟩ := hQ100
  have NA100 := Fr.app NA86 N100
  have Z100 : n0 ≤ T100.heap.size := Nat.le_trans Z86 Kc100.1
  have K100 := K86.trans Kc100 (allS (Or.inr sz50) all0)
  have O100 := O86.keep Kc100 (allS gb50 all0)
  refine Go.back (t' := (T100.setTop (mkF m 188 #[.val (.int p0), .val (.int p1), .val (.int p2), .val (.long q0), .second, .val (.int kk), .val (.int (p0 ^^^ ((1 : Int32) <<< (kk &&& 31)))), .val (.int zA), .val (.int zB), .val (.int zC), .val (.int zD), .val (.ref b9), .val (.ref b13), .val (.ref b16), .unset, .unset, .unset, .unset, .unset, .unset] [(.ref b50)]))) (fun u k => st100.trans k) ?_
  refine Go.back (t' := (T100.setTop (mkF m 190 #[.val (.int p0), .val (.int p1), .val (.int p2), .val (.long q0), .second, .val (.int kk), .val (.int (p0 ^^^ ((1 : Int32) <<< (kk &&& 31)))), .val (.int zA), .val (.int zB), .val (.int zC), .val (.int zD), .val (.ref b9), .val (.ref b13), .val (.ref b16), .val (.ref b50), .unset, .unset, .unset, .unset, .unset] []))) (fun u k => XS.astore X100.here hx rfl (hb hby at_188) rfl rfl (l' := #[.val (.int p0), .val (.int p1), .val (.int p2), .val (.long q0), .second, .val (.int kk), .val (.int (p0 ^^^ ((1 : Int32) <<< (kk &&& 31)))), .val (.int zA), .val (.int zB), .val (.int zC), .val (.int zD), .val (.ref b9), .val (.ref b13), .val (.ref b16), .val (.ref b50), .unset, .unset, .unset, .unset, .unset]) rfl k) ?_
  have sg101 : ∀ u, Steps p.tables e below (T100.setTop (mkF m 204 #[.val (.int p0), .val (.int p1), .val (.int p2), .val (.long q0), .second, .val (.int kk), .val (.int (p0 ^^^ ((1 : Int32) <<< (kk &&& 31)))), .val (.int zA), .val (.int zB), .val (.int zC), .val (.int zD), .val (.ref b9), .val (.ref b13), .val (.ref b16), .val (.ref b50), .unset, .unset, .unset, .unset, .unset] [(.int (if ((XT.ushr p0 (5 : Int32)) &&& (1 : Int32)) = (1 : Int32) then (1 : Int32) else (0 : Int32)))])) u → Steps p.tables e below (T100.setTop (mkF m 190 #[.val (.int p0), .val (.int p1), .val (.int p2), .val (.long q0), .second, .val (.int kk), .val (.int (p0 ^^^ ((1 : Int32) <<< (kk &&& 31)))), .val (.int zA), .val (.int zB), .val (.int zC), .val (.int zD), .val (.ref b9), .val (.ref b13), .val (.ref b16), .val (.ref b50), .unset, .unset, .unset, .unset, .unset] [])) u := by
    intro u k
    refine XS.iloadN X100.here hx rfl (hb hby at_190) rfl ?_
    show Steps p.tables e below (T100.setTop (mkF m 191 #[.val (.int p0), .val (.int p1), .val (.int p2), .val (.long q0), .second, .val (.int kk), .val (.int (p0 ^^^ ((1 : Int32) <<< (kk &&& 31)))), .val (.int zA), .val (.int zB), .val (.int zC), .val (.int zD), .val (.ref b9), .val (.ref b13), .val (.ref b16), .val (.ref b50), .unset, .unset, .unset, .unset, .unset] [(.int p0)])) u
    refine XT.iconstV X100.here hx rfl (5 : Int32) (hb hby at_191) (by decide) ?_
    show Steps p.tables e below (T100.setTop (mkF m 192 #[.val (.int p0), .val (.int p1), .val (.int p2), .val (.long q0), .second, .val (.int kk), .val (.int (p0 ^^^ ((1 : Int32) <<< (kk &&& 31)))), .val (.int zA), .val (.int zB), .val (.int zC), .val (.int zD), .val (.ref b9), .val (.ref b13), .val (.ref b16), .val (.ref b50), .unset, .unset, .unset, .unset, .unset] [(.int (5 : Int32)), (.int p0)])) u
    refine XT.iushr X100.here hx rfl (hb hby at_192) rfl ?_
    show Steps p.tables e below (T100.setTop (mkF m 193 #[.val (.int p0), .val (.int p1), .val (.int p2), .val (.long q0), .second, .val (.int kk), .val (.int (p0 ^^^ ((1 : Int32) <<< (kk &&& 31)))), .val (.int zA), .val (.int zB), .val (.int zC), .val (.int zD), .val (.ref b9), .val (.ref b13), .val (.ref b16), .val (.ref b50), .unset, .unset, .unset, .unset, .unset] [(.int (XT.ushr p0 (5 : Int32)))])) u
    refine XT.iconstV X100.here hx rfl (1 : Int32) (hb hby at_193) (by decide) ?_
    show Steps p.tables e below (T100.setTop (mkF m 194 #[.val (.int p0), .val (.int p1), .val (.int p2), .val (.long q0), .second, .val (.int kk), .val (.int (p0 ^^^ ((1 : Int32) <<< (kk &&& 31)))), .val (.int zA), .val (.int zB), .val (.int zC), .val (.int zD), .val (.ref b9), .val (.ref b13), .val (.ref b16), .val (.ref b50), .unset, .unset, .unset, .unset, .unset] [(.int (1 : Int32)), (.int (XT.ushr p0 (5 : Int32)))])) u
    refine XS.iand X100.here hx rfl (hb hby at_194) rfl ?_
    show Steps p.tables e below (T100.setTop (mkF m 195 #[.val (.int p0), .val (.int p1), .val (.int p2), .val (.long q0), .second, .val (.int kk), .val (.int (p0 ^^^ ((1 : Int32) <<< (kk &&& 31)))), .val (.int zA), .val (.int zB), .val (.int zC), .val (.int zD), .val (.ref b9), .val (.ref b13), .val (.ref b16), .val (.ref b50), .unset, .unset, .unset, .unset, .unset] [(.int ((XT.ushr p0 (5 : Int32)) &&& (1 : Int32)))])) u
    refine XT.iconstV X100.here hx rfl (1 : Int32) (hb hby at_195) (by decide) ?_
    show Steps p.tables e below (T100.setTop (mkF m 196 #[.val (.int p0), .val (.int p1), .val (.int p2), .val (.long q0), .second, .val (.int kk), .val (.int (p0 ^^^ ((1 : Int32) <<< (kk &&& 31)))), .val (.int zA), .val (.int zB), .val (.int zC), .val (.int zD), .val (.ref b9), .val (.ref b13), .val (.ref b16), .val (.ref b50), .unset, .unset, .unset, .unset, .unset] [(.int (1 : Int32)), (.int ((XT.ushr p0 (5 : Int32)) &&& (1 : Int32)))])) u
    by_cases hc102 : ((XT.ushr p0 (5 : Int32)) &&& (1 : Int32)) = (1 : Int32)
    · skip
      refine XS.icmpNo X100.here hx rfl (hb hby at_196) rfl (XT.ii_ne_f hc102) ?_
      show Steps p.tables e below (T100.setTop (mkF m 199 #[.val (.int p0), .val (.int p1), .val (.int p2), .val (.long q0), .second, .val (.int kk), .val (.int (p0 ^^^ ((1 : Int32) <<< (kk &&& 31)))), .val (.int zA), .val (.int zB), .val (.int zC), .val (.int zD), .val (.ref b9), .val (.ref b13), .val (.ref b16), .val (.ref b50), .unset, .unset, .unset, .unset, .unset] [])) u
      refine XT.iconstV X100.here hx rfl (1 : Int32) (hb hby at_199) (by decide) ?_
      show Steps p.tables e below (T100.setTop (mkF m 200 #[.val (.int p0), .val (.int p1), .val (.int p2), .val (.long q0), .second, .val (.int kk), .val (.int (p0 ^^^ ((1 : Int32) <<< (kk &&& 31)))), .val (.int zA), .val (.int zB), .val (.int zC), .val (.int zD), .val (.ref b9), .val (.ref b13), .val (.ref b16), .val (.ref b50), .unset, .unset, .unset, .unset, .unset] [(.int (1 : Int32))])) u
      refine XS.goto X100.here hx rfl (pc0 := 200) (pc' := 204) rfl (hb hby at_200) (by decide) (by decide) ?_
      show Steps p.tables e below (T100.setTop (mkF m 204 #[.val (.int p0), .val (.int p1), .val (.int p2), .val (.long q0), .second, .val (.int kk), .val (.int (p0 ^^^ ((1 : Int32) <<< (kk &&& 31)))), .val (.int zA), .val (.int zB), .val (.int zC), .val (.int zD), .val (.ref b9), .val (.ref b13), .val (.ref b16), .val (.ref b50), .unset, .unset, .unset, .unset, .unset] [(.int (1 : Int32))])) u
      try simp only [if_pos hc102] at k
      exact k
    · skip
      refine XS.icmpYes X100.here hx rfl (pc0 := 196) (pc' := 203) rfl (hb hby at_196) rfl (XT.ii_ne_t hc102) (by decide) (by decide) ?_
      show Steps p.tables e below (T100.setTop (mkF m 203 #[.val (.int p0), .val (.int p1), .val (.int p2), .val (.long q0), .second, .val (.int kk), .val (.int (p0 ^^^ ((1 : Int32) <<< (kk &&& 31)))), .val (.int zA), .val (.int zB), .val (.int zC), .val (.int zD), .val (.ref b9), .val (.ref b13), .val (.ref b16), .val (.ref b50), .unset, .unset, .unset, .unset, .unset] [])) u
      refine XT.iconstV X100.here hx rfl (0 : Int32) (hb hby at_203) (by decide) ?_
      show Steps p.tables e below (T100.setTop (mkF m 204 #[.val (.int p0), .val (.int p1), .val (.int p2), .val (.long q0), .second, .val (.int kk), .val (.int (p0 ^^^ ((1 : Int32) <<< (kk &&& 31)))), .val (.int zA), .val (.int zB), .val (.int zC), .val (.int zD), .val (.ref b9), .val (.ref b13), .val (.ref b16), .val (.ref b50), .unset, .unset, .unset, .unset, .unset] [(.int (0 : Int32))])) u
      try simp only [if_neg hc102] at k
      exact k
  refine Go.back (t' := (T100.setTop (mkF m 204 #[.val (.int p0), .val (.int p1), .val (.int p2), .val (.long q0), .second, .val (.int kk), .val (.int (p0 ^^^ ((1 : Int32) <<< (kk &&& 31)))), .val (.int zA), .val (.int zB), .val (.int zC), .val (.int zD), .val (.ref b9), .val (.ref b13), .val (.ref b16), .val (.ref b50), .unset, .unset, .unset, .unset, .unset] [(.int (if ((XT.ushr p0 (5 : Int32)) &&& (1 : Int32)) = (1 : Int32) then (1 : Int32) else (0 : Int32)))]))) sg101 ?_
  obtain ⟨ex, h_ex⟩ : ∃ z : Int32, z = (if ((XT.ushr p0 (5 : Int32)) &&& (1 : Int32)) = (1 : Int32) then (1 : Int32) else (0 : Int32)) := ⟨_, rfl⟩
  rw [← h_ex]
  refine Go.back (t' := (T100.setTop (mkF m 206 #[.val (.int p0), .val (.int p1), .val (.int p2), .val (.long q0), .second, .val (.int kk), .val (.int (p0 ^^^ ((1 : Int32) <<< (kk &&& 31)))), .val (.int zA), .val (.int zB), .val (.int zC), .val (.int zD), .val (.ref b9), .val (.ref b13), .val (.ref b16), .val (.ref b50), .val (.int ex), .unset, .unset, .unset, .unset] []))) (fun u k => XS.istore X100.here hx rfl (hb hby at_204) rfl (l' := #[.val (.int p0), .val (.int p1), .val (.int p2), .val (.long q0), .second, .val (.int kk), .val (.int (p0 ^^^ ((1 : Int32) <<< (kk &&& 31)))), .val (.int zA), .val (.int zB), .val (.int zC), .val (.int zD), .val (.ref b9), .val (.ref b13), .val (.ref b16), .val (.ref b50), .val (.int ex), .unset, .unset, .unset, .unset]) rfl k) ?_
  refine Go.back (t' := (T100.setTop (mkF m 208 #[.val (.int p0), .val (.int p1), .val (.int p2), .val (.long q0), .second, .val (.int kk), .val (.int (p0 ^^^ ((1 : Int32) <<< (kk &&& 31)))), .val (.int zA), .val (.int zB), .val (.int zC), .val (.int zD), .val (.ref b9), .val (.ref b13), .val (.ref b16), .val (.ref b50), .val (.int ex), .unset, .unset, .unset, .unset] [(.ref b16)]))) (fun u k => XS.aload X100.here hx rfl (hb hby at_206) rfl rfl k) ?_
  have f103 := ((((((((P49_1.ext E50).ext E57).keep Kc65 (ninS ne_b16_b57 nin0)).ext E66).keep Kc75 (ninS ne_b16_b66 nin0)).ext E76).keep Kc86 (ninS ne_b16_b76 nin0)).keep Kc100 (ninS ne_b16_b50 nin0))
  have f106 := (((f80.ext E76).keep Kc86).keep Kc100)
  obtain ⟨cq105, kq105, qa105, qb105, qc105⟩ := isOf hZ rfl f106
  obtain ⟨_, _, ⟨T104, L104, k104, n104⟩, -, X104, ⟨Lc104, hQ104, l104, y104, z104⟩, st104⟩ := X100.virtualBack hx (y := (⟨"com/example/persistutils/persistutils/engine/PostgresTables$Table", "triggeredOnTruncate", "()Z"⟩ : MethodName)) (z := (⟨"com/example/persistutils/persistutils/engine/PostgresTables$Table", "triggeredOnTruncate", "()Z"⟩ : MethodName)) hown (mvT hZ (hw _ (List.mem_of_getElem? (i := 85) rfl))) (mvT hZ (hw _ (List.mem_of_getElem? (i := 86) rfl))) (notFace_of_selects (args := #[]) (mvT hZ (hw _ (List.mem_of_getElem? (i := 88) rfl)))) (mvT hZ (hw _ (List.mem_of_getElem? (i := 88) rfl))) (mvT hZ (hw _ (List.mem_of_getElem? (i := 87) rfl))) (by decide) (backOf (W := 0) (own_tr l Z a0 hw [] b16 p0 T100.heap n0 Z100 f103) hZ (hw _ (List.mem_of_getElem? (i := 89) rfl)) (hw _ (List.mem_of_getElem? (i := 32) rfl)) (by decide) (by decide)) qa105 qc105 (g := (mkF m 208 #[.val (.int p0), .val (.int p1), .val (.int p2), .val (.long q0), .second, .val (.int kk), .val (.int (p0 ^^^ ((1 : Int32) <<< (kk &&& 31)))), .val (.int zA), .val (.int zB), .val (.int zC), .val (.int zD), .val (.ref b9), .val (.ref b13), .val (.ref b16), .val (.ref b50), .val (.int ex), .unset, .unset, .unset, .unset] [(.ref b16)])) rfl (by rw [hml]; rfl) (Steps.refl _) (argsL := []) (rest := []) (lenOf own_pd3 rfl) rfl (by show 2 * 0 + _ ≤ _; exact Nat.le_of_eq rfl) (hb hby at_208) (fun _ _ => ⟨rfl, rfl, (by decide : 11 + 0 ≤ _), (by decide : 48 + 0 ≤ _)⟩)
  dsimp only [Pt.U, Pt.locs, Pt.cells, Pt.slots] at X104 l104 y104 z104 st104 hQ104
  subst l104 y104 z104
  obtain ⟨rfl, N104, e104⟩ := hQ104
  have NA104 := Fr.app NA100 N104
  refine Go.back (t' := (T104.setTop (mkF m 211 #[.val (.int p0), .val (.int p1), .val (.int p2), .val (.long q0), .second, .val (.int kk), .val (.int (p0 ^^^ ((1 : Int32) <<< (kk &&& 31)))), .val (.int zA), .val (.int zB), .val (.int zC), .val (.int zD), .val (.ref b9), .val (.ref b13), .val (.ref b16), .val (.ref b50), .val (.int ex), .unset, .unset, .unset, .unset] [(.int (F_tr p0))]))) (fun u k => st104.trans k) ?_
  refine Go.back (t' := (T104.setTop (mkF m 213 #[.val (.int p0), .val (.int p1), .val (.int p2), .val (.long q0), .second, .val (.int kk), .val (.int (p0 ^^^ ((1 : Int32) <<< (kk &&& 31)))), .val (.int zA), .val (.int zB), .val (.int zC), .val (.int zD), .val (.ref b9), .val (.ref b13), .val (.ref b16), .val (.ref b50), .val (.int ex), .val (.int (F_tr p0)), .unset, .unset, .unset] []))) (fun u k => XS.istore X104.here hx rfl (hb hby at_211) rfl (l' := #[.val (.int p0), .val (.int p1), .val (.int p2), .val (.long q0), .second, .val (.int kk), .val (.int (p0 ^^^ ((1 : Int32) <<< (kk &&& 31)))), .val (.int zA), .val (.int zB), .val (.int zC), .val (.int zD), .val (.ref b9), .val (.ref b13), .val (.ref b16), .val (.ref b50), .val (.int ex), .val (.int (F_tr p0)), .unset, .unset, .unset]) rfl k) ?_
  refine Go.back (t' := (T104.setTop (mkF m 215 #[.val (.int p0), .val (.int p1), .val (.int p2), .val (.long q0), .second, .val (.int kk), .val (.int (p0 ^^^ ((1 : Int32) <<< (kk &&& 31)))), .val (.int zA), .val (.int zB), .val (.int zC), .val (.int zD), .val (.ref b9), .val (.ref b13), .val (.ref b16), .val (.ref b50), .val (.int ex), .val (.int (F_tr p0)), .unset, .unset, .unset] [(.ref b50)]))) (fun u k => XS.aload X104.here hx rfl (hb hby at_213) rfl rfl k) ?_
  obtain ⟨cq108, kq108, qa108, qb108, qc108⟩ := isOf hZ e104 P100_0
  obtain ⟨_, _, ⟨T107, L107, k107, n107⟩, -, X107, ⟨Lc107, hQ107, l107, y107, z107⟩, st107⟩ := X104.virtualBack hx (y := (⟨"com/example/persistutils/persistutils/engine/PostgresTables$Table", "triggeredOnTruncate", "()Z"⟩ : MethodName)) (z := (⟨"com/example/persistutils/persistutils/engine/PostgresTables$Table", "triggeredOnTruncate", "()Z"⟩ : MethodName)) hown (mvT hZ (hw _ (List.mem_of_getElem? (i := 85) rfl))) (mvT hZ (hw _ (List.mem_of_getElem? (i := 86) rfl))) (notFace_of_selects (args := #[]) (mvT hZ (hw _ (List.mem_of_getElem? (i := 88) rfl)))) (mvT hZ (hw _ (List.mem_of_getElem? (i := 88) rfl))) (mvT hZ (hw _ (List.mem_of_getElem? (i := 87) rfl))) (by decide) (backOf (W := 0) (own_tr l Z a0 hw [] b50 (p0 ^^^ ((1 : Int32) <<< (kk &&& 31))) T100.heap n0 Z100 P100_1) hZ (hw _ (List.mem_of_getElem? (i := 89) rfl)) (hw _ (List.mem_of_getElem? (i := 32) rfl)) (by decide) (by decide)) qa108 qc108 (g := (mkF m 215 #[.val (.int p0), .val (.int p1), .val (.int p2), .val (.long q0), .second, .val (.int kk), .val (.int (p0 ^^^ ((1 : Int32) <<< (kk &&& 31)))), .val (.int zA), .val (.int zB), .val (.int zC), .val (.int zD), .val (.ref b9), .val (.ref b13), .val (.ref b16), .val (.ref b50), .val (.int ex), .val (.int (F_tr p0)), .unset, .unset, .unset] [(.ref b50)])) rfl (by rw [hml]; rfl) (Steps.refl _) (argsL := []) (rest := []) (lenOf own_pd3 rfl) rfl (by show 2 * 0 + _ ≤ _; exact Nat.le_of_eq rfl) (hb hby at_215) (fun _ _ => ⟨rfl, e104, (by decide : 11 + 0 ≤ _), (by decide : 48 + 0 ≤ _)⟩)
  dsimp only [Pt.U, Pt.locs, Pt.cells, Pt.slots] at X107 l107 y107 z107 st107 hQ107
  subst l107 y107 z107
  obtain ⟨rfl, N107, e107⟩ := hQ107
  have NA107 := Fr.app NA104 N107
  refine Go.back (t' := (T107.setTop (mkF m 218 #[.val (.int p0), .val (.int p1), .val (.int p2), .val (.long q0), .second, .val (.int kk), .val (.int (p0 ^^^ ((1 : Int32) <<< (kk &&& 31)))), .val (.int zA), .val (.int zB), .val (.int zC), .val (.int zD), .val (.ref b9), .val (.ref b13), .val (.ref b16), .val (.ref b50), .val (.int ex), .val (.int (F_tr p0)), .unset, .unset, .unset] [(.int (F_tr (p0 ^^^ ((1 : Int32) <<< (kk &&& 31)))))]))) (fun u k => st107.trans k) ?_
  refine Go.back (t' := (T107.setTop (mkF m 220 #[.val (.int p0), .val (.int p1), .val (.int p2), .val (.long q0), .second, .val (.int kk), .val (.int (p0 ^^^ ((1 : Int32) <<< (kk &&& 31)))), .val (.int zA), .val (.int zB), .val (.int zC), .val (.int zD), .val (.ref b9), .val (.ref b13), .val (.ref b16), .val (.ref b50), .val (.int ex), .val (.int (F_tr p0)), .val (.int (F_tr (p0 ^^^ ((1 : Int32) <<< (kk &&& 31))))), .unset, .unset] []))) (fun u k => XS.istore X107.here hx rfl (hb hby at_218) rfl (l' := #[.val (.int p0), .val (.int p1), .val (.int p2), .val (.long q0), .second, .val (.int kk), .val (.int (p0 ^^^ ((1 : Int32) <<< (kk &&& 31)))), .val (.int zA), .val (.int zB), .val (.int zC), .val (.int zD), .val (.ref b9), .val (.ref b13), .val (.ref b16), .val (.ref b50), .val (.int ex), .val (.int (F_tr p0)), .val (.int (F_tr (p0 ^^^ ((1 : Int32) <<< (kk &&& 31))))), .unset, .unset]) rfl k) ?_
  refine Go.back (t' := (T107.setTop (mkF m 222 #[.val (.int p0), .val (.int p1), .val (.int p2), .val (.long q0), .second, .val (.int kk), .val (.int (p0 ^^^ ((1 : Int32) <<< (kk &&& 31)))), .val (.int zA), .val (.int zB), .val (.int zC), .val (.int zD), .val (.ref b9), .val (.ref b13), .val (.ref b16), .val (.ref b50), .val (.int ex), .val (.int (F_tr p0)), .val (.int (F_tr (p0 ^^^ ((1 : Int32) <<< (kk &&& 31))))), .unset, .unset] [(.int (F_tr p0))]))) (fun u k => XS.iload X107.here hx rfl (hb hby at_220) rfl k) ?_
  refine Go.back (t' := (T107.setTop (mkF m 224 #[.val (.int p0), .val (.int p1), .val (.int p2), .val (.long q0), .second, .val (.int kk), .val (.int (p0 ^^^ ((1 : Int32) <<< (kk &&& 31)))), .val (.int zA), .val (.int zB), .val (.int zC), .val (.int zD), .val (.ref b9), .val (.ref b13), .val (.ref b16), .val (.ref b50), .val (.int ex), .val (.int (F_tr p0)), .val (.int (F_tr (p0 ^^^ ((1 : Int32) <<< (kk &&& 31))))), .unset, .unset] [(.int ex), (.int (F_tr p0))]))) (fun u k => XS.iload X107.here hx rfl (hb hby at_222) rfl k) ?_
  refine Go.back (t' := (T107.setTop (mkF m 227 #[.val (.int p0), .val (.int p1), .val (.int p2), .val (.long q0), .second, .val (.int kk), .val (.int (p0 ^^^ ((1 : Int32) <<< (kk &&& 31)))), .val (.int zA), .val (.int zB), .val (.int zC), .val (.int zD), .val (.ref b9), .val (.ref b13), .val (.ref b16), .val (.ref b50), .val (.int ex), .val (.int (F_tr p0)), .val (.int (F_tr (p0 ^^^ ((1 : Int32) <<< (kk &&& 31))))), .unset, .unset] []))) (fun u k => XS.icmpNo X107.here hx rfl (hb hby at_224) rfl (XT.ii_ne_f (own_tr1 h_ex)) k) ?_
  refine Go.back (t' := (T107.setTop (mkF m 228 #[.val (.int p0), .val (.int p1), .val (.int p2), .val (.long q0), .second, .val (.int kk), .val (.int (p0 ^^^ ((1 : Int32) <<< (kk &&& 31)))), .val (.int zA), .val (.int zB), .val (.int zC), .val (.int zD), .val (.ref b9), .val (.ref b13), .val (.ref b16), .val (.ref b50), .val (.int ex), .val (.int (F_tr p0)), .val (.int (F_tr (p0 ^^^ ((1 : Int32) <<< (kk &&& 31))))), .unset, .unset] [(.int (1 : Int32))]))) (fun u k => XT.iconstV X107.here hx rfl (1 : Int32) (hb hby at_227) (by decide) k) ?_
  refine Go.back (t' := (T107.setTop (mkF m 232 #[.val (.int p0), .val (.int p1), .val (.int p2), .val (.long q0), .second, .val (.int kk), .val (.int (p0 ^^^ ((1 : Int32) <<< (kk &&& 31)))), .val (.int zA), .val (.int zB), .val (.int zC), .val (.int zD), .val (.ref b9), .val (.ref b13), .val (.ref b16), .val (.ref b50), .val (.int ex), .val (.int (F_tr p0)), .val (.int (F_tr (p0 ^^^ ((1 : Int32) <<< (kk &&& 31))))), .unset, .unset] [(.int (1 : Int32))]))) (fun u k => XS.goto X107.here hx rfl (pc0 := 228) (pc' := 232) rfl (hb hby at_228) (by decide) (by decide) k) ?_
  refine Go.back (t' := (T107.setTop (mkF m 234 #[.val (.int p0), .val (.int p1), .val (.int p2), .val (.long q0), .second, .val (.int kk), .val (.int (p0 ^^^ ((1 : Int32) <<< (kk &&& 31)))), .val (.int zA), .val (.int zB), .val (.int zC), .val (.int zD), .val (.ref b9), .val (.ref b13), .val (.ref b16), .val (.ref b50), .val (.int ex), .val (.int (F_tr p0)), .val (.int (F_tr (p0 ^^^ ((1 : Int32) <<< (kk &&& 31))))), .val (.int (1 : Int32)), .unset] []))) (fun u k => XS.istore X107.here hx rfl (hb hby at_232) rfl (l' := #[.val (.int p0), .val (.int p1), .val (.int p2), .val (.long q0), .second, .val (.int kk), .val (.int (p0 ^^^ ((1 : Int32) <<< (kk &&& 31)))), .val (.int zA), .val (.int zB), .val (.int zC), .val (.int zD), .val (.ref b9), .val (.ref b13), .val (.ref b16), .val (.ref b50), .val (.int ex), .val (.int (F_tr p0)), .val (.int (F_tr (p0 ^^^ ((1 : Int32) <<< (kk &&& 31))))), .val (.int (1 : Int32)), .unset]) rfl k) ?_
  refine Go.back (t' := (T107.setTop (mkF m 236 #[.val (.int p0), .val (.int p1), .val (.int p2), .val (.long q0), .second, .val (.int kk), .val (.int (p0 ^^^ ((1 : Int32) <<< (kk &&& 31)))), .val (.int zA), .val (.int zB), .val (.int zC), .val (.int zD), .val (.ref b9), .val (.ref b13), .val (.ref b16), .val (.ref b50), .val (.int ex), .val (.int (F_tr p0)), .val (.int (F_tr (p0 ^^^ ((1 : Int32) <<< (kk &&& 31))))), .val (.int (1 : Int32)), .unset] [(.int kk)]))) (fun u k => XS.iload X107.here hx rfl (hb hby at_234) rfl k) ?_
  refine Go.back (t' := (T107.setTop (mkF m 237 #[.val (.int p0), .val (.int p1), .val (.int p2), .val (.long q0), .second, .val (.int kk), .val (.int (p0 ^^^ ((1 : Int32) <<< (kk &&& 31)))), .val (.int zA), .val (.int zB), .val (.int zC), .val (.int zD), .val (.ref b9), .val (.ref b13), .val (.ref b16), .val (.ref b50), .val (.int ex), .val (.int (F_tr p0)), .val (.int (F_tr (p0 ^^^ ((1 : Int32) <<< (kk &&& 31))))), .val (.int (1 : Int32)), .unset] [(.int (5 : Int32)), (.int kk)]))) (fun u k => XT.iconstV X107.here hx rfl (5 : Int32) (hb hby at_236) (by decide) k) ?_
  by_cases hk5 : kk = (5 : Int32)
  · skip
    refine Go.back (t' := (T107.setTop (mkF m 240 #[.val (.int p0), .val (.int p1), .val (.int p2), .val (.long q0), .second, .val (.int kk), .val (.int (p0 ^^^ ((1 : Int32) <<< (kk &&& 31)))), .val (.int zA), .val (.int zB), .val (.int zC), .val (.int zD), .val (.ref b9), .val (.ref b13), .val (.ref b16), .val (.ref b50), .val (.int ex), .val (.int (F_tr p0)), .val (.int (F_tr (p0 ^^^ ((1 : Int32) <<< (kk &&& 31))))), .val (.int (1 : Int32)), .unset] []))) (fun u k => XS.icmpNo X107.here hx rfl (hb hby at_237) rfl (XT.ii_ne_f hk5) k) ?_
    refine Go.back (t' := (T107.setTop (mkF m 242 #[.val (.int p0), .val (.int p1), .val (.int p2), .val (.long q0), .second, .val (.int kk), .val (.int (p0 ^^^ ((1 : Int32) <<< (kk &&& 31)))), .val (.int zA), .val (.int zB), .val (.int zC), .val (.int zD), .val (.ref b9), .val (.ref b13), .val (.ref b16), .val (.ref b50), .val (.int ex), .val (.int (F_tr p0)), .val (.int (F_tr (p0 ^^^ ((1 : Int32) <<< (kk &&& 31))))), .val (.int (1 : Int32)), .unset] [(.int (F_tr (p0 ^^^ ((1 : Int32) <<< (kk &&& 31)))))]))) (fun u k => XS.iload X107.here hx rfl (hb hby at_240) rfl k) ?_
    refine Go.back (t' := (T107.setTop (mkF m 244 #[.val (.int p0), .val (.int p1), .val (.int p2), .val (.long q0), .second, .val (.int kk), .val (.int (p0 ^^^ ((1 : Int32) <<< (kk &&& 31)))), .val (.int zA), .val (.int zB), .val (.int zC), .val (.int zD), .val (.ref b9), .val (.ref b13), .val (.ref b16), .val (.ref b50), .val (.int ex), .val (.int (F_tr p0)), .val (.int (F_tr (p0 ^^^ ((1 : Int32) <<< (kk &&& 31))))), .val (.int (1 : Int32)), .unset] [(.int (F_tr p0)), (.int (F_tr (p0 ^^^ ((1 : Int32) <<< (kk &&& 31)))))]))) (fun u k => XS.iload X107.here hx rfl (hb hby at_242) rfl k) ?_
    refine Go.back (t' := (T107.setTop (mkF m 247 #[.val (.int p0), .val (.int p1), .val (.int p2), .val (.long q0), .second, .val (.int kk), .val (.int (p0 ^^^ ((1 : Int32) <<< (kk &&& 31)))), .val (.int zA), .val (.int zB), .val (.int zC), .val (.int zD), .val (.ref b9), .val (.ref b13), .val (.ref b16), .val (.ref b50), .val (.int ex), .val (.int (F_tr p0)), .val (.int (F_tr (p0 ^^^ ((1 : Int32) <<< (kk &&& 31))))), .val (.int (1 : Int32)), .unset] []))) (fun u k => XS.icmpNo X107.here hx rfl (hb hby at_244) rfl (XT.ii_eq_f (own_trY h_kk hk5)) k) ?_
    refine Go.back (t' := (T107.setTop (mkF m 248 #[.val (.int p0), .val (.int p1), .val (.int p2), .val (.long q0), .second, .val (.int kk), .val (.int (p0 ^^^ ((1 : Int32) <<< (kk &&& 31)))), .val (.int zA), .val (.int zB), .val (.int zC), .val (.int zD), .val (.ref b9), .val (.ref b13), .val (.ref b16), .val (.ref b50), .val (.int ex), .val (.int (F_tr p0)), .val (.int (F_tr (p0 ^^^ ((1 : Int32) <<< (kk &&& 31))))), .val (.int (1 : Int32)), .unset] [(.int (1 : Int32))]))) (fun u k => XT.iconstV X107.here hx rfl (1 : Int32) (hb hby at_247) (by decide) k) ?_
    refine Go.back (t' := (T107.setTop (mkF m 252 #[.val (.int p0), .val (.int p1), .val (.int p2), .val (.long q0), .second, .val (.int kk), .val (.int (p0 ^^^ ((1 : Int32) <<< (kk &&& 31)))), .val (.int zA), .val (.int zB), .val (.int zC), .val (.int zD), .val (.ref b9), .val (.ref b13), .val (.ref b16), .val (.ref b50), .val (.int ex), .val (.int (F_tr p0)), .val (.int (F_tr (p0 ^^^ ((1 : Int32) <<< (kk &&& 31))))), .val (.int (1 : Int32)), .unset] [(.int (1 : Int32))]))) (fun u k => XS.goto X107.here hx rfl (pc0 := 248) (pc' := 252) rfl (hb hby at_248) (by decide) (by decide) k) ?_
    refine Go.back (t' := (T107.setTop (mkF m 254 #[.val (.int p0), .val (.int p1), .val (.int p2), .val (.long q0), .second, .val (.int kk), .val (.int (p0 ^^^ ((1 : Int32) <<< (kk &&& 31)))), .val (.int zA), .val (.int zB), .val (.int zC), .val (.int zD), .val (.ref b9), .val (.ref b13), .val (.ref b16), .val (.ref b50), .val (.int ex), .val (.int (F_tr p0)), .val (.int (F_tr (p0 ^^^ ((1 : Int32) <<< (kk &&& 31))))), .val (.int (1 : Int32)), .val (.int (1 : Int32))] []))) (fun u k => XS.istore X107.here hx rfl (hb hby at_252) rfl (l' := #[.val (.int p0), .val (.int p1), .val (.int p2), .val (.long q0), .second, .val (.int kk), .val (.int (p0 ^^^ ((1 : Int32) <<< (kk &&& 31)))), .val (.int zA), .val (.int zB), .val (.int zC), .val (.int zD), .val (.ref b9), .val (.ref b13), .val (.ref b16), .val (.ref b50), .val (.int ex), .val (.int (F_tr p0)), .val (.int (F_tr (p0 ^^^ ((1 : Int32) <<< (kk &&& 31))))), .val (.int (1 : Int32)), .val (.int (1 : Int32))]) rfl k) ?_
    refine Go.back (t' := (T107.setTop (mkF m 271 #[.val (.int p0), .val (.int p1), .val (.int p2), .val (.long q0), .second, .val (.int kk), .val (.int (p0 ^^^ ((1 : Int32) <<< (kk &&& 31)))), .val (.int zA), .val (.int zB), .val (.int zC), .val (.int zD), .val (.ref b9), .val (.ref b13), .val (.ref b16), .val (.ref b50), .val (.int ex), .val (.int (F_tr p0)), .val (.int (F_tr (p0 ^^^ ((1 : Int32) <<< (kk &&& 31))))), .val (.int (1 : Int32)), .val (.int (1 : Int32))] []))) (fun u k => XS.goto X107.here hx rfl (pc0 := 254) (pc' := 271) rfl (hb hby at_254) (by decide) (by decide) k) ?_
    refine Go.back (t' := (T107.setTop (mkF m 273 #[.val (.int p0), .val (.int p1), .val (.int p2), .val (.long q0), .second, .val (.int kk), .val (.int (p0 ^^^ ((1 : Int32) <<< (kk &&& 31)))), .val (.int zA), .val (.int zB), .val (.int zC), .val (.int zD), .val (.ref b9), .val (.ref b13), .val (.ref b16), .val (.ref b50), .val (.int ex), .val (.int (F_tr p0)), .val (.int (F_tr (p0 ^^^ ((1 : Int32) <<< (kk &&& 31))))), .val (.int (1 : Int32)), .val (.int (1 : Int32))] [(.int (1 : Int32))]))) (fun u k => XS.iload X107.here hx rfl (hb hby at_271) rfl k) ?_
    refine Go.back (t' := (T107.setTop (mkF m 276 #[.val (.int p0), .val (.int p1), .val (.int p2), .val (.long q0), .second, .val (.int kk), .val (.int (p0 ^^^ ((1 : Int32) <<< (kk &&& 31)))), .val (.int zA), .val (.int zB), .val (.int zC), .val (.int zD), .val (.ref b9), .val (.ref b13), .val (.ref b16), .val (.ref b50), .val (.int ex), .val (.int (F_tr p0)), .val (.int (F_tr (p0 ^^^ ((1 : Int32) <<< (kk &&& 31))))), .val (.int (1 : Int32)), .val (.int (1 : Int32))] []))) (fun u k => XS.ifNo X107.here hx rfl (hb hby at_273) rfl (XT.i0_eq_f (by decide)) k) ?_
    refine Go.back (t' := (T107.setTop (mkF m 278 #[.val (.int p0), .val (.int p1), .val (.int p2), .val (.long q0), .second, .val (.int kk), .val (.int (p0 ^^^ ((1 : Int32) <<< (kk &&& 31)))), .val (.int zA), .val (.int zB), .val (.int zC), .val (.int zD), .val (.ref b9), .val (.ref b13), .val (.ref b16), .val (.ref b50), .val (.int ex), .val (.int (F_tr p0)), .val (.int (F_tr (p0 ^^^ ((1 : Int32) <<< (kk &&& 31))))), .val (.int (1 : Int32)), .val (.int (1 : Int32))] [(.int (1 : Int32))]))) (fun u k => XS.iload X107.here hx rfl (hb hby at_276) rfl k) ?_
    refine Go.back (t' := (T107.setTop (mkF m 281 #[.val (.int p0), .val (.int p1), .val (.int p2), .val (.long q0), .second, .val (.int kk), .val (.int (p0 ^^^ ((1 : Int32) <<< (kk &&& 31)))), .val (.int zA), .val (.int zB), .val (.int zC), .val (.int zD), .val (.ref b9), .val (.ref b13), .val (.ref b16), .val (.ref b50), .val (.int ex), .val (.int (F_tr p0)), .val (.int (F_tr (p0 ^^^ ((1 : Int32) <<< (kk &&& 31))))), .val (.int (1 : Int32)), .val (.int (1 : Int32))] []))) (fun u k => XS.ifNo X107.here hx rfl (hb hby at_278) rfl (XT.i0_eq_f (by decide)) k) ?_
    refine Go.back (t' := (T107.setTop (mkF m 282 #[.val (.int p0), .val (.int p1), .val (.int p2), .val (.long q0), .second, .val (.int kk), .val (.int (p0 ^^^ ((1 : Int32) <<< (kk &&& 31)))), .val (.int zA), .val (.int zB), .val (.int zC), .val (.int zD), .val (.ref b9), .val (.ref b13), .val (.ref b16), .val (.ref b50), .val (.int ex), .val (.int (F_tr p0)), .val (.int (F_tr (p0 ^^^ ((1 : Int32) <<< (kk &&& 31))))), .val (.int (1 : Int32)), .val (.int (1 : Int32))] [(.int (1 : Int32))]))) (fun u k => XT.iconstV X107.here hx rfl (1 : Int32) (hb hby at_281) (by decide) k) ?_
    refine Go.back (t' := (T107.setTop (mkF m 286 #[.val (.int p0), .val (.int p1), .val (.int p2), .val (.long q0), .second, .val (.int kk), .val (.int (p0 ^^^ ((1 : Int32) <<< (kk &&& 31)))), .val (.int zA), .val (.int zB), .val (.int zC), .val (.int zD), .val (.ref b9), .val (.ref b13), .val (.ref b16), .val (.ref b50), .val (.int ex), .val (.int (F_tr p0)), .val (.int (F_tr (p0 ^^^ ((1 : Int32) <<< (kk &&& 31))))), .val (.int (1 : Int32)), .val (.int (1 : Int32))] [(.int (1 : Int32))]))) (fun u k => XS.goto X107.here hx rfl (pc0 := 282) (pc' := 286) rfl (hb hby at_282) (by decide) (by decide) k) ?_
    obtain ⟨fs, hr, hrun, hended, hW, hsame⟩ := X107.leave (v := some (.int (1 : Int32))) (fun h => by rw [Bd.returns] at h; cases h)
    refine ⟨_, _, retN X107 hx (t := .boolean) Bd.returns (by simp) (hb hby at_286) hr, hrun, hended, _, _, rfl, ?_, ⟨_, rfl⟩, hW, hsame.mono (by decide) (by decide)⟩
    show Q_own_law0 Z p0 p1 p2 q0 wD gC h0 n0 _ T107.heap _
    rw [e107]
    exact ⟨rfl, NA107, K100⟩
  · skip
    refine Go.back (t' := (T107.setTop (mkF m 257 #[.val (.int p0), .val (.int p1), .val (.int p2), .val (.long q0), .second, .val (.int kk), .val (.int (p0 ^^^ ((1 : Int32) <<< (kk &&& 31)))), .val (.int zA), .val (.int zB), .val (.int zC), .val (.int zD), .val (.ref b9), .val (.ref b13), .val (.ref b16), .val (.ref b50), .val (.int ex), .val (.int (F_tr p0)), .val (.int (F_tr (p0 ^^^ ((1 : Int32) <<< (kk &&& 31))))), .val (.int (1 : Int32)), .unset] []))) (fun u k => XS.icmpYes X107.here hx rfl (pc0 := 237) (pc' := 257) rfl (hb hby at_237) rfl (XT.ii_ne_t hk5) (by decide) (by decide) k) ?_
    refine Go.back (t' := (T107.setTop (mkF m 259 #[.val (.int p0), .val (.int p1), .val (.int p2), .val (.long q0), .second, .val (.int kk), .val (.int (p0 ^^^ ((1 : Int32) <<< (kk &&& 31)))), .val (.int zA), .val (.int zB), .val (.int zC), .val (.int zD), .val (.ref b9), .val (.ref b13), .val (.ref b16), .val (.ref b50), .val (.int ex), .val (.int (F_tr p0)), .val (.int (F_tr (p0 ^^^ ((1 : Int32) <<< (kk &&& 31))))), .val (.int (1 : Int32)), .unset] [(.int (F_tr (p0 ^^^ ((1 : Int32) <<< (kk &&& 31)))))]))) (fun u k => XS.iload X107.here hx rfl (hb hby at_257) rfl k) ?_
    refine Go.back (t' := (T107.setTop (mkF m 261 #[.val (.int p0), .val (.int p1), .val (.int p2), .val (.long q0), .second, .val (.int kk), .val (.int (p0 ^^^ ((1 : Int32) <<< (kk &&& 31)))), .val (.int zA), .val (.int zB), .val (.int zC), .val (.int zD), .val (.ref b9), .val (.ref b13), .val (.ref b16), .val (.ref b50), .val (.int ex), .val (.int (F_tr p0)), .val (.int (F_tr (p0 ^^^ ((1 : Int32) <<< (kk &&& 31))))), .val (.int (1 : Int32)), .unset] [(.int (F_tr p0)), (.int (F_tr (p0 ^^^ ((1 : Int32) <<< (kk &&& 31)))))]))) (fun u k => XS.iload X107.here hx rfl (hb hby at_259) rfl k) ?_
    refine Go.back (t' := (T107.setTop (mkF m 264 #[.val (.int p0), .val (.int p1), .val (.int p2), .val (.long q0), .second, .val (.int kk), .val (.int (p0 ^^^ ((1 : Int32) <<< (kk &&& 31)))), .val (.int zA), .val (.int zB), .val (.int zC), .val (.int zD), .val (.ref b9), .val (.ref b13), .val (.ref b16), .val (.ref b50), .val (.int ex), .val (.int (F_tr p0)), .val (.int (F_tr (p0 ^^^ ((1 : Int32) <<< (kk &&& 31))))), .val (.int (1 : Int32)), .unset] []))) (fun u k => XS.icmpNo X107.here hx rfl (hb hby at_261) rfl (XT.ii_ne_f (own_trN h_kk hk5)) k) ?_
    refine Go.back (t' := (T107.setTop (mkF m 265 #[.val (.int p0), .val (.int p1), .val (.int p2), .val (.long q0), .second, .val (.int kk), .val (.int (p0 ^^^ ((1 : Int32) <<< (kk &&& 31)))), .val (.int zA), .val (.int zB), .val (.int zC), .val (.int zD), .val (.ref b9), .val (.ref b13), .val (.ref b16), .val (.ref b50), .val (.int ex), .val (.int (F_tr p0)), .val (.int (F_tr (p0 ^^^ ((1 : Int32) <<< (kk &&& 31))))), .val (.int (1 : Int32)), .unset] [(.int (1 : Int32))]))) (fun u k => XT.iconstV X107.here hx rfl (1 : Int32) (hb hby at_264) (by decide) k) ?_
    refine Go.back (t' := (T107.setTop (mkF m 269 #[.val (.int p0), .val (.int p1), .val (.int p2), .val (.long q0), .second, .val (.int kk), .val (.int (p0 ^^^ ((1 : Int32) <<< (kk &&& 31)))), .val (.int zA), .val (.int zB), .val (.int zC), .val (.int zD), .val (.ref b9), .val (.ref b13), .val (.ref b16), .val (.ref b50), .val (.int ex), .val (.int (F_tr p0)), .val (.int (F_tr (p0 ^^^ ((1 : Int32) <<< (kk &&& 31))))), .val (.int (1 : Int32)), .unset] [(.int (1 : Int32))]))) (fun u k => XS.goto X107.here hx rfl (pc0 := 265) (pc' := 269) rfl (hb hby at_265) (by decide) (by decide) k) ?_
    refine Go.back (t' := (T107.setTop (mkF m 271 #[.val (.int p0), .val (.int p1), .val (.int p2), .val (.long q0), .second, .val (.int kk), .val (.int (p0 ^^^ ((1 : Int32) <<< (kk &&& 31)))), .val (.int zA), .val (.int zB), .val (.int zC), .val (.int zD), .val (.ref b9), .val (.ref b13), .val (.ref b16), .val (.ref b50), .val (.int ex), .val (.int (F_tr p0)), .val (.int (F_tr (p0 ^^^ ((1 : Int32) <<< (kk &&& 31))))), .val (.int (1 : Int32)), .val (.int (1 : Int32))] []))) (fun u k => XS.istore X107.here hx rfl (hb hby at_269) rfl (l' := #[.val (.int p0), .val (.int p1), .val (.int p2), .val (.long q0), .second, .val (.int kk), .val (.int (p0 ^^^ ((1 : Int32) <<< (kk &&& 31)))), .val (.int zA), .val (.int zB), .val (.int zC), .val (.int zD), .val (.ref b9), .val (.ref b13), .val (.ref b16), .val (.ref b50), .val (.int ex), .val (.int (F_tr p0)), .val (.int (F_tr (p0 ^^^ ((1 : Int32) <<< (kk &&& 31))))), .val (.int (1 : Int32)), .val (.int (1 : Int32))]) rfl k) ?_
    refine Go.back (t' := (T107.setTop (mkF m 273 #[.val (.int p0), .val (.int p1), .val (.int p2), .val (.long q0), .second, .val (.int kk), .val (.int (p0 ^^^ ((1 : Int32) <<< (kk &&& 31)))), .val (.int zA), .val (.int zB), .val (.int zC), .val (.int zD), .val (.ref b9), .val (.ref b13), .val (.ref b16), .val (.ref b50), .val (.int ex), .val (.int (F_tr p0)), .val (.int (F_tr (p0 ^^^ ((1 : Int32) <<< (kk &&& 31))))), .val (.int (1 : Int32)), .val (.int (1 : Int32))] [(.int (1 : Int32))]))) (fun u k => XS.iload X107.here hx rfl (hb hby at_271) rfl k) ?_
    refine Go.back (t' := (T107.setTop (mkF m 276 #[.val (.int p0), .val (.int p1), .val (.int p2), .val (.long q0), .second, .val (.int kk), .val (.int (p0 ^^^ ((1 : Int32) <<< (kk &&& 31)))), .val (.int zA), .val (.int zB), .val (.int zC), .val (.int zD), .val (.ref b9), .val (.ref b13), .val (.ref b16), .val (.ref b50), .val (.int ex), .val (.int (F_tr p0)), .val (.int (F_tr (p0 ^^^ ((1 : Int32) <<< (kk &&& 31))))), .val (.int (1 : Int32)), .val (.int (1 : Int32))] []))) (fun u k => XS.ifNo X107.here hx rfl (hb hby at_273) rfl (XT.i0_eq_f (by decide)) k) ?_
    refine Go.back (t' := (T107.setTop (mkF m 278 #[.val (.int p0), .val (.int p1), .val (.int p2), .val (.long q0), .second, .val (.int kk), .val (.int (p0 ^^^ ((1 : Int32) <<< (kk &&& 31)))), .val (.int zA), .val (.int zB), .val (.int zC), .val (.int zD), .val (.ref b9), .val (.ref b13), .val (.ref b16), .val (.ref b50), .val (.int ex), .val (.int (F_tr p0)), .val (.int (F_tr (p0 ^^^ ((1 : Int32) <<< (kk &&& 31))))), .val (.int (1 : Int32)), .val (.int (1 : Int32))] [(.int (1 : Int32))]))) (fun u k => XS.iload X107.here hx rfl (hb hby at_276) rfl k) ?_
    refine Go.back (t' := (T107.setTop (mkF m 281 #[.val (.int p0), .val (.int p1), .val (.int p2), .val (.long q0), .second, .val (.int kk), .val (.int (p0 ^^^ ((1 : Int32) <<< (kk &&& 31)))), .val (.int zA), .val (.int zB), .val (.int zC), .val (.int zD), .val (.ref b9), .val (.ref b13), .val (.ref b16), .val (.ref b50), .val (.int ex), .val (.int (F_tr p0)), .val (.int (F_tr (p0 ^^^ ((1 : Int32) <<< (kk &&& 31))))), .val (.int (1 : Int32)), .val (.int (1 : Int32))] []))) (fun u k => XS.ifNo X107.here hx rfl (hb hby at_278) rfl (XT.i0_eq_f (by decide)) k) ?_
    refine Go.back (t' := (T107.setTop (mkF m 282 #[.val (.int p0), .val (.int p1), .val (.int p2), .val (.long q0), .second, .val (.int kk), .val (.int (p0 ^^^ ((1 : Int32) <<< (kk &&& 31)))), .val (.int zA), .val (.int zB), .val (.int zC), .val (.int zD), .val (.ref b9), .val (.ref b13), .val (.ref b16), .val (.ref b50), .val (.int ex), .val (.int (F_tr p0)), .val (.int (F_tr (p0 ^^^ ((1 : Int32) <<< (kk &&& 31))))), .val (.int (1 : Int32)), .val (.int (1 : Int32))] [(.int (1 : Int32))]))) (fun u k => XT.iconstV X107.here hx rfl (1 : Int32) (hb hby at_281) (by decide) k) ?_
    refine Go.back (t' := (T107.setTop (mkF m 286 #[.val (.int p0), .val (.int p1), .val (.int p2), .val (.long q0), .second, .val (.int kk), .val (.int (p0 ^^^ ((1 : Int32) <<< (kk &&& 31)))), .val (.int zA), .val (.int zB), .val (.int zC), .val (.int zD), .val (.ref b9), .val (.ref b13), .val (.ref b16), .val (.ref b50), .val (.int ex), .val (.int (F_tr p0)), .val (.int (F_tr (p0 ^^^ ((1 : Int32) <<< (kk &&& 31))))), .val (.int (1 : Int32)), .val (.int (1 : Int32))] [(.int (1 : Int32))]))) (fun u k => XS.goto X107.here hx rfl (pc0 := 282) (pc' := 286) rfl (hb hby at_282) (by decide) (by decide) k) ?_
    obtain ⟨fs, hr, hrun, hended, hW, hsame⟩ := X107.leave (v := some (.int (1 : Int32))) (fun h => by rw [Bd.returns] at h; cases h)
    refine ⟨_, _, retN X107 hx (t := .boolean) Bd.returns (by simp) (hb hby at_286) hr, hrun, hended, _, _, rfl, ?_, ⟨_, rfl⟩, hW, hsame.mono (by decide) (by decide)⟩
    show Q_own_law0 Z p0 p1 p2 q0 wD gC h0 n0 _ T107.heap _
    rw [e107]
    exact ⟨rfl, NA107, K100⟩
set_option maxRecDepth 65536 in
set_option maxHeartbeats 40000000 in
theorem own_comes {Post : Tables → Env → Array Value → State → Outcome → State → Prop} (hpost : ∀ tb e args s v u, (limb_1_1.after args s (.returned v) u = true ∧ limb_1_2.after args s (.returned v) u = true ∧ True) → FrameEnd s (.returned v) u (Jvm.fieldLocs frame_1_writes args s ++ Jvm.arrayLocs frame_1_arrays args s ++ Jvm.staticLocs frame_1_statics s) 32 192 → Post tb e args s (.returned v) u) :
    ArmFor flags0 classFile x code maxLocals ret World_1 tables_1 room_1 Calls_1 rest_1 Pre_1 Post := by
  intro l hfl _ _ p e ha hc hk s m args below hf hA hF happ hP
  obtain ⟨hcalls, hrest, hpre⟩ := hP
  obtain ⟨-, -, -, hnamed, -, -, -, hat⟩ := (Spec.applies_iff hf).mp happ
  obtain ⟨hg, hn⟩ := and_e (Cond.before_iff.mp (show (Jvm.Cond.and given_1 narrow_1).before args s = true from hpre))
  obtain ⟨hg1, hg2⟩ := and_e hg
  obtain ⟨hg3, hg4⟩ := and_e hg2
  obtain ⟨hg5, hg6⟩ := and_e hg4
  obtain ⟨hg7, hg8⟩ := and_e hg6
  obtain ⟨w0, w1, w2, w3, rfl⟩ : ∃ w0 w1 w2 w3 : Value, args = #[w0, w1, w2, w3] := by
    have hs : args.size = 4 := by simpa [Cond.value, given_1] using hg1
    obtain ⟨L⟩ := args
    match L, hs with
    | [w0, w1, w2, w3], _ => exact ⟨w0, w1, w2, w3, rfl⟩
  have hw := fun d (hd : d ∈ tables_1) => atoms_spec (ws := Jvm.Cond.code x code maxLocals ret :: tables_1) hat d (List.mem_cons_of_mem _ hd)
  have hfit : Fit s := fun {y c} hc i hi => by
    obtain ⟨ha, rfl⟩ := Array.getElem?_eq_some_iff.mp hc
    have q := List.all_eq_true.mp ((Array.all_eq_true_iff_forall_mem.mp hF) _ (Array.getElem_mem ha)) i (List.mem_range.mpr hi)
    simpa [Array.getElem?_eq_getElem hi] using q
  obtain ⟨hsets, hown0⟩ := atoms_of _ (rest_1_c_eq ▸ (show rest_1_c.before _ s = true from hrest))
  have hr0 := Cond.before_iff.mp hown0
  obtain ⟨i0, ei0⟩ := is_v hg3
  obtain rfl : w0 = (.int i0) := Option.some.inj ei0
  obtain ⟨i1, ei1⟩ := is_v hg5
  obtain rfl : w1 = (.int i1) := Option.some.inj ei1
  obtain ⟨i2, ei2⟩ := is_v hg7
  obtain rfl : w2 = (.int i2) := Option.some.inj ei2
  obtain ⟨i3, ei3⟩ := isL_v hg8
  obtain rfl : w3 = (.long i3) := Option.some.inj ei3
  obtain ⟨xD, exD⟩ := exa_v (Cond.before_iff.mp (hsets _ (List.mem_of_getElem? (i := 16) rfl)))
  have XD := Sta.start exD (Or.inr ⟨(hw _ (List.mem_of_getElem? (i := 35) rfl)), (hsets _ (List.mem_of_getElem? (i := 11) rfl))⟩)
  obtain ⟨gC, egC⟩ := is_v (Cond.before_iff.mp (hsets _ (List.mem_of_getElem? (i := 1) rfl)))
  have XG := Sta.start egC (Or.inl (hsets _ (List.mem_of_getElem? (i := 0) rfl)))
  have XP : ¬ (gC = (0 : Int32)) := gotF (Cond.eq_ints egC (Term.int_eval (0))) (not_v (Cond.before_iff.mp (hsets _ (List.mem_of_getElem? (i := 2) rfl))))
  obtain ⟨n, o, h1, h2, h3, _, L, rfl, ⟨rfl, N, -⟩, hq⟩ := own_law0 l s _ hw tables_1 i0 i1 i2 i3 xD gC s.heap s.heap.size (Nat.le_refl _) (Old.start s) XD XG XP p e ha hc hk s m _ below hf ((Spec.applies_iff_loose hf).mp happ).1 ⟨rfl, State.Warmed39.refl s, rfl⟩ trivial
  refine ⟨n, _, h1, h2, h3, hpost _ _ _ _ _ _ ⟨Cond.after_iff.mpr rfl, Cond.after_iff.mpr (eq_i res_at (Term.int_eval (1)) rfl), trivial⟩ ⟨hq.1, hq.2.1, (hq.2.2.sift fun y hy => Or.inr (N y hy)).mono (by decide) (by decide)⟩⟩
theorem main_1_1 : Claimed_1_1 := own_comes fun _ _ _ _ _ _ h hF => ⟨h.1, hF⟩
theorem main_1_2 : Claimed_1_2 := own_comes fun _ _ _ _ _ _ h hF => ⟨h.2.1, hF⟩
end Jvm.Pilot.@@N@@
namespace Jvm.Pilot.@@N@@
open Jvm Jvm.ClassFile Sem Op Lib Jvm.Free Jvm.Stand Jvm.Pilot.@@N@@.Jvm.D
/-! MADE BY PROGRAM (witnessworld.py) out of the Statement's table words and the real class files: 29 classes; the members and pool entries that the words name. The judged class is class 1, her method 1. -/
namespace start1
open Jvm.ClassFile
def u (s : String) : CpInfo := .utf8 (stringToUtf16 s)
/-- a pool by its gaps: so many unusable entries, then the entry; so many at the end -/
def gap : Nat → List CpInfo → List CpInfo
  | 0, r => r
  | n + 1, r => .unusable :: gap n r
def poolList (es : List (Nat × CpInfo)) (last : Nat) : List CpInfo := es.foldr (fun e r => gap e.1 (e.2 :: r)) (gap last [])
def pool (es : List (Nat × CpInfo)) (last : Nat) : Array CpInfo := ⟨poolList es last⟩
def fileOf (pool : Array CpInfo) (this : Nat) (attrs : Array Attribute := #[]) (ms : Array MethodInfo := #[]) (fl : Nat := 33) (sup : Nat := 0) (ifs : Array Nat := #[]) (fds : Array FieldInfo := #[]) : ClassFile where
  minorVersion := 0
  majorVersion := 65
  constantPool := pool
  accessFlags := fl
  thisClass := this
  superClass := sup
  interfaces := ifs
  fields := fds
  methods := ms
  attributes := attrs
def plain (name : String) (sup : Option ClassId) : Class where
  name := name
  kind := .ordinary
  loader := none
  accessFlags := 33
  super := sup
  interfaces := #[]
  cf := none
  fields := #[]
  methods := #[]
  instanceTypes := #[]
  staticTypes := #[]
  resolved := #[]
  callSites := []
  init := .initialized
  statics := none
  mirror := none

def pool0 : Array CpInfo := pool [(5, u "<init>"), (0, u "()V"), (1, .class_ 10), (1, u "java/lang/Object")] 113

def k0c0 : Code := { maxStack := 0, maxLocals := 1, code := object_method_1_code, exceptionTable := #[], attributes := #[] }
def k0m0 : Method := { name := "<init>", desc := "()V", sig := { parameters := [], returnType := none }, accessFlags := 1, code := some k0c0 }
/-- java/lang/Object -/
def k0 : Class := { plain "java/lang/Object" none with
  accessFlags := 33
  interfaces := #[]
  cf := some (fileOf pool0 8 #[] #[{ accessFlags := 1, nameIndex := 5, descriptorIndex := 6, attributes := #[] }] 33 0 #[] #[])
  fields := #[]
  methods := #[k0m0]
  instanceTypes := #[]
  staticTypes := #[]
  resolved := Array.replicate 124 none
  statics := none }

def pool1 : Array CpInfo := pool [(2, .class_ 4), (0, .nameAndType 5 6), (0, u "java/lang/Object"), (0, u "<init>"), (0, u "()V"), (0, .class_ 8), (0, u "java/lang/String"), (0, .methodref 7 10), (0, .nameAndType 5 11), (0, u "([C)V"), (0, .class_ 13), (0, u "com/example/persistutils/persistutils/engine/PostgresTables$Table"), (0, .class_ 15), (0, u "java/util/ArrayList"), (0, .methodref 14 3), (0, .methodref 12 18), (0, .nameAndType 5 19), (0, u "(Ljava/lang/String;ZJZILjava/util/List;JZLjava/util/List;Ljava/util/List;IZ)V"), (0, .methodref 12 21), (0, .nameAndType 22 23), (0, u "triggeredOnTruncate"), (0, u "()Z"), (0, .class_ 25), (0, u "com/example/persistutils/persistutils/engine/TableTriggeredOnTruncatePinLaw"), (2, u "law"), (0, u "(IIIJ)Z")] 9

def k1m0 : Method := { name := "<init>", desc := "()V", sig := { parameters := [], returnType := none }, accessFlags := 1, code := none }
def k1c1 : Code := { maxStack := 16, maxLocals := 20, code := code, exceptionTable := #[], attributes := #[] }
def k1m1 : Method := { name := "law", desc := "(IIIJ)Z", sig := { parameters := [.int, .int, .int, .long], returnType := some .boolean }, accessFlags := 9, code := some k1c1 }
/-- com/example/persistutils/persistutils/engine/TableTriggeredOnTruncatePinLaw -/
def k1 : Class := { plain "com/example/persistutils/persistutils/engine/TableTriggeredOnTruncatePinLaw" (some 0) with
  accessFlags := 49
  interfaces := #[]
  cf := some (fileOf pool1 24 #[] #[{ accessFlags := 1, nameIndex := 5, descriptorIndex := 6, attributes := #[] }, { accessFlags := 9, nameIndex := 28, descriptorIndex := 29, attributes := #[] }] 49 2 #[] #[])
  fields := #[]
  methods := #[k1m0, k1m1]
  instanceTypes := #[]
  staticTypes := #[]
  resolved := Array.replicate 39 none
  statics := none }

def pool2 : Array CpInfo := pool [(1, .class_ 2), (0, u "java/io/Serializable"), (0, .class_ 4), (0, u "java/lang/Object")] 2

/-- java/io/Serializable -/
def k2 : Class := { plain "java/io/Serializable" (some 0) with
  accessFlags := 1537
  interfaces := #[]
  cf := some (fileOf pool2 1 #[] #[] 1537 3 #[] #[])
  fields := #[]
  methods := #[]
  instanceTypes := #[]
  staticTypes := #[]
  resolved := Array.replicate 7 none
  statics := none }

def pool3 : Array CpInfo := pool [(1, .class_ 2), (0, u "java/lang/Comparable"), (0, .class_ 4), (0, u "java/lang/Object")] 7

/-- java/lang/Comparable -/
def k3 : Class := { plain "java/lang/Comparable" (some 0) with
  accessFlags := 1537
  interfaces := #[]
  cf := some (fileOf pool3 1 #[] #[] 1537 3 #[] #[])
  fields := #[]
  methods := #[]
  instanceTypes := #[]
  staticTypes := #[]
  resolved := Array.replicate 12 none
  statics := none }

def pool4 : Array CpInfo := pool [(2, .class_ 4), (1, u "java/lang/CharSequence"), (42, .class_ 48), (0, u "java/lang/CharSequence$1CodePointIterator"), (10, .class_ 60), (0, u "java/lang/CharSequence$1CharIterator"), (5, .class_ 67), (0, u "java/lang/Object")] 63

/-- java/lang/CharSequence -/
def k4 : Class := { plain "java/lang/CharSequence" (some 0) with
  accessFlags := 1537
  interfaces := #[]
  cf := some (fileOf pool4 2 #[.nestMembers #[47, 59]] #[] 1537 66 #[] #[])
  fields := #[]
  methods := #[]
  instanceTypes := #[]
  staticTypes := #[]
  resolved := Array.replicate 131 none
  statics := none }

def pool5 : Array CpInfo := pool [(1, .class_ 2), (0, u "java/lang/constant/Constable"), (0, .class_ 4), (0, u "java/lang/Object")] 6

/-- java/lang/constant/Constable -/
def k5 : Class := { plain "java/lang/constant/Constable" (some 0) with
  accessFlags := 1537
  interfaces := #[]
  cf := some (fileOf pool5 1 #[] #[] 1537 3 #[] #[])
  fields := #[]
  methods := #[]
  instanceTypes := #[]
  staticTypes := #[]
  resolved := Array.replicate 11 none
  statics := none }

def pool6 : Array CpInfo := pool [(1, .class_ 2), (0, u "java/lang/constant/ConstantDesc"), (0, .class_ 4), (0, u "java/lang/Object")] 32

/-- java/lang/constant/ConstantDesc -/
def k6 : Class := { plain "java/lang/constant/ConstantDesc" (some 0) with
  accessFlags := 1537
  interfaces := #[]
  cf := some (fileOf pool6 1 #[] #[] 1537 3 #[] #[])
  fields := #[]
  methods := #[]
  instanceTypes := #[]
  staticTypes := #[]
  resolved := Array.replicate 37 none
  statics := none }

def pool7 : Array CpInfo := pool [(1, .methodref 2 3), (0, .class_ 4), (0, .nameAndType 5 6), (0, u "java/lang/Object"), (0, u "<init>"), (0, u "()V"), (2, .fieldref 10 11), (0, .class_ 12), (0, .nameAndType 13 14), (0, u "java/lang/String"), (0, u "value"), (0, u "[B"), (0, .fieldref 10 16), (0, .nameAndType 17 18), (0, u "coder"), (0, u "B"), (2, u "hash"), (0, u "I"), (2, u "hashIsZero"), (0, u "Z"), (0, .methodref 10 28), (0, .nameAndType 5 29), (0, u "([CIILjava/lang/Void;)V"), (8, .fieldref 10 39), (0, .nameAndType 40 26), (0, u "COMPACT_STRINGS"), (1, .class_ 44), (1, u "java/lang/StringUTF16"), (0, u "compress"), (1, .methodref 42 48), (0, .nameAndType 49 50), (0, u "coderFromArrayLen"), (0, u "([BI)B"), (126, .methodref 42 178), (0, .nameAndType 45 179), (0, u "([CII)[B"), (395, .class_ 576), (0, u "java/lang/CharSequence"), (22, u "CASE_INSENSITIVE_ORDER"), (0, u "Ljava/util/Comparator;"), (409, u "([C)V"), (90, u "serialPersistentFields"), (0, u "[Ljava/io/ObjectStreamField;"), (0, .class_ 1104), (0, u "java/lang/String$CaseInsensitiveComparator"), (1, .class_ 1107), (0, u "java/io/Serializable"), (0, .class_ 1109), (0, u "java/lang/Comparable"), (0, .class_ 1111), (0, u "java/lang/constant/Constable"), (0, .class_ 1113), (0, u "java/lang/constant/ConstantDesc"), (2, u "serialVersionUID"), (0, u "J"), (3, u "REPL"), (0, u "C"), (2, u "LATIN1"), (1, u "UTF16")] 323

def k7m0 : Method := { name := "<init>", desc := "()V", sig := { parameters := [], returnType := none }, accessFlags := 1, code := none }
def k7c1 : Code := { maxStack := 5, maxLocals := 2, code := jdk_42_method_3_code, exceptionTable := #[], attributes := #[] }
def k7m1 : Method := { name := "<init>", desc := "([C)V", sig := { parameters := [(.array .char)], returnType := none }, accessFlags := 1, code := some k7c1 }
def k7c2 : Code := { maxStack := 4, maxLocals := 6, code := jdk_42_method_149_code, exceptionTable := #[], attributes := #[] }
def k7m2 : Method := { name := "<init>", desc := "([CIILjava/lang/Void;)V", sig := { parameters := [(.array .char), .int, .int, (.object "java/lang/Void")], returnType := none }, accessFlags := 2, code := some k7c2 }
/-- java/lang/String -/
def k7 : Class := { plain "java/lang/String" (some 0) with
  accessFlags := 49
  interfaces := #[2, 3, 4, 5, 6]
  cf := some (fileOf pool7 10 #[.nestMembers #[1103]] #[{ accessFlags := 1, nameIndex := 5, descriptorIndex := 6, attributes := #[] }, { accessFlags := 1, nameIndex := 5, descriptorIndex := 1010, attributes := #[] }, { accessFlags := 2, nameIndex := 5, descriptorIndex := 29, attributes := #[] }] 49 2 #[1106, 1108, 575, 1110, 1112] #[{ accessFlags := 18, nameIndex := 13, descriptorIndex := 14, attributes := #[] }, { accessFlags := 18, nameIndex := 17, descriptorIndex := 18, attributes := #[] }, { accessFlags := 2, nameIndex := 21, descriptorIndex := 22, attributes := #[] }, { accessFlags := 2, nameIndex := 25, descriptorIndex := 26, attributes := #[] }, { accessFlags := 26, nameIndex := 1116, descriptorIndex := 1117, attributes := #[] }, { accessFlags := 24, nameIndex := 40, descriptorIndex := 26, attributes := #[] }, { accessFlags := 26, nameIndex := 1101, descriptorIndex := 1102, attributes := #[] }, { accessFlags := 26, nameIndex := 1121, descriptorIndex := 1122, attributes := #[] }, { accessFlags := 25, nameIndex := 599, descriptorIndex := 600, attributes := #[] }, { accessFlags := 24, nameIndex := 1125, descriptorIndex := 18, attributes := #[] }, { accessFlags := 24, nameIndex := 1127, descriptorIndex := 18, attributes := #[] }])
  fields := #[{ name := "value", type := (.array .byte), accessFlags := 18, slot := 0, constantValue := 0 }, { name := "coder", type := .byte, accessFlags := 18, slot := 1, constantValue := 0 }, { name := "hash", type := .int, accessFlags := 2, slot := 2, constantValue := 0 }, { name := "hashIsZero", type := .boolean, accessFlags := 2, slot := 3, constantValue := 0 }, { name := "serialVersionUID", type := .long, accessFlags := 26, slot := 0, constantValue := 0 }, { name := "COMPACT_STRINGS", type := .boolean, accessFlags := 24, slot := 1, constantValue := 0 }, { name := "serialPersistentFields", type := (.array (.object "java/io/ObjectStreamField")), accessFlags := 26, slot := 2, constantValue := 0 }, { name := "REPL", type := .char, accessFlags := 26, slot := 3, constantValue := 0 }, { name := "CASE_INSENSITIVE_ORDER", type := (.object "java/util/Comparator"), accessFlags := 25, slot := 4, constantValue := 0 }, { name := "LATIN1", type := .byte, accessFlags := 24, slot := 5, constantValue := 0 }, { name := "UTF16", type := .byte, accessFlags := 24, slot := 6, constantValue := 0 }]
  methods := #[k7m0, k7m1, k7m2]
  instanceTypes := #[(.array .byte), .byte, .int, .boolean]
  staticTypes := #[.long, .boolean, (.array (.object "java/io/ObjectStreamField")), .char, (.object "java/util/Comparator"), .byte, .byte]
  resolved := Array.replicate 1451 none
  statics := some 0 }

def pool8 : Array CpInfo := pool [(6, .class_ 8), (1, u "java/lang/Object"), (0, u "<init>"), (0, u "()V"), (1, .class_ 14), (1, u "java/lang/StringUTF16"), (31, u "$assertionsDisabled"), (0, u "Z"), (13, u "HI_BYTE_SHIFT"), (0, u "I"), (2, u "LO_BYTE_SHIFT"), (49, .methodref 12 116), (0, .nameAndType 117 118), (0, u "compress"), (0, u "([CI[BII)I"), (3, u "([CII)[B"), (138, u "coderFromArrayLen"), (0, u "([BI)B"), (106, .class_ 371), (1, u "java/lang/StringUTF16$LinesSpliterator"), (58, u "MAX_LENGTH"), (196, .class_ 628), (0, u "java/lang/StringUTF16$CodePointsSpliterator"), (0, .class_ 630), (0, u "java/lang/StringUTF16$CharsSpliterator")] 4

def k8m0 : Method := { name := "<init>", desc := "()V", sig := { parameters := [], returnType := none }, accessFlags := 0, code := none }
def k8c1 : Code := { maxStack := 2, maxLocals := 2, code := jdk_52_method_15_code, exceptionTable := #[], attributes := #[] }
def k8m1 : Method := { name := "coderFromArrayLen", desc := "([BI)B", sig := { parameters := [(.array .byte), .int], returnType := some .byte }, accessFlags := 8, code := some k8c1 }
def k8c2 : Code := { maxStack := 5, maxLocals := 6, code := jdk_52_method_16_code, exceptionTable := #[], attributes := #[] }
def k8m2 : Method := { name := "compress", desc := "([CII)[B", sig := { parameters := [(.array .char), .int, .int], returnType := some (.array .byte) }, accessFlags := 9, code := some k8c2 }
def k8c3 : Code := { maxStack := 3, maxLocals := 7, code := jdk_52_method_21_code, exceptionTable := #[], attributes := #[] }
def k8m3 : Method := { name := "compress", desc := "([CI[BII)I", sig := { parameters := [(.array .char), .int, (.array .byte), .int, .int], returnType := some .int }, accessFlags := 9, code := some k8c3 }
/-- java/lang/StringUTF16 -/
def k8 : Class := { plain "java/lang/StringUTF16" (some 0) with
  accessFlags := 48
  interfaces := #[]
  cf := some (fileOf pool8 12 #[.nestMembers #[627, 629, 369]] #[{ accessFlags := 0, nameIndex := 9, descriptorIndex := 10, attributes := #[] }, { accessFlags := 8, nameIndex := 261, descriptorIndex := 262, attributes := #[] }, { accessFlags := 9, nameIndex := 117, descriptorIndex := 122, attributes := #[] }, { accessFlags := 9, nameIndex := 117, descriptorIndex := 118, attributes := #[] }] 48 6 #[] #[{ accessFlags := 26, nameIndex := 61, descriptorIndex := 62, attributes := #[] }, { accessFlags := 26, nameIndex := 65, descriptorIndex := 62, attributes := #[] }, { accessFlags := 24, nameIndex := 430, descriptorIndex := 62, attributes := #[] }, { accessFlags := 4120, nameIndex := 46, descriptorIndex := 47, attributes := #[] }])
  fields := #[{ name := "HI_BYTE_SHIFT", type := .int, accessFlags := 26, slot := 0, constantValue := 0 }, { name := "LO_BYTE_SHIFT", type := .int, accessFlags := 26, slot := 1, constantValue := 0 }, { name := "MAX_LENGTH", type := .int, accessFlags := 24, slot := 2, constantValue := 0 }, { name := "$assertionsDisabled", type := .boolean, accessFlags := 4120, slot := 3, constantValue := 0 }]
  methods := #[k8m0, k8m1, k8m2, k8m3]
  instanceTypes := #[]
  staticTypes := #[.int, .int, .int, .boolean]
  resolved := Array.replicate 635 none
  statics := none }

def pool9 : Array CpInfo := pool [(1, .class_ 2), (0, u "com/example/persistutils/persistutils/engine/PostgresTables"), (0, .methodref 4 5), (0, .class_ 6), (0, .nameAndType 7 8), (0, u "java/lang/Object"), (0, u "<init>"), (0, u "()V"), (0, .fieldref 10 11), (0, .class_ 12), (0, .nameAndType 13 14), (0, u "com/example/persistutils/persistutils/engine/PostgresTables$Table"), (0, u "name"), (0, u "Ljava/lang/String;"), (0, .fieldref 10 16), (0, .nameAndType 17 18), (0, u "ofAnExtension"), (0, u "Z"), (0, .fieldref 10 20), (0, .nameAndType 21 22), (0, u "oid"), (0, u "J"), (0, .fieldref 10 24), (0, .nameAndType 25 18), (0, u "truncatable"), (0, .fieldref 10 27), (0, .nameAndType 28 29), (0, u "triggerEvents"), (0, u "I"), (0, .fieldref 10 31), (0, .nameAndType 32 33), (0, u "referencing"), (0, u "Ljava/util/List;"), (0, .fieldref 10 35), (0, .nameAndType 36 22), (0, u "size"), (0, .fieldref 10 38), (0, .nameAndType 39 18), (0, u "ruledOnDelete"), (0, .fieldref 10 41), (0, .nameAndType 42 33), (0, u "partitionsElsewhere"), (0, .fieldref 10 44), (0, .nameAndType 45 33), (0, u "referencingUnindexed"), (0, .fieldref 10 47), (0, .nameAndType 48 29), (0, u "indexes"), (0, .fieldref 10 50), (0, .nameAndType 51 18), (0, u "toasted"), (3, u "(Ljava/lang/String;ZJZILjava/util/List;JZLjava/util/List;Ljava/util/List;IZ)V"), (5, u "()Z"), (2, u "triggeredOnTruncate")] 8

def k9c0 : Code := { maxStack := 3, maxLocals := 15, code := prog_51_method_1_code, exceptionTable := #[], attributes := #[] }
def k9m0 : Method := { name := "<init>", desc := "(Ljava/lang/String;ZJZILjava/util/List;JZLjava/util/List;Ljava/util/List;IZ)V", sig := { parameters := [(.object "java/lang/String"), .boolean, .long, .boolean, .int, (.object "java/util/List"), .long, .boolean, (.object "java/util/List"), (.object "java/util/List"), .int, .boolean], returnType := none }, accessFlags := 0, code := some k9c0 }
def k9c1 : Code := { maxStack := 2, maxLocals := 1, code := prog_51_method_6_code, exceptionTable := #[], attributes := #[] }
def k9m1 : Method := { name := "triggeredOnTruncate", desc := "()Z", sig := { parameters := [], returnType := some .boolean }, accessFlags := 0, code := some k9c1 }
/-- com/example/persistutils/persistutils/engine/PostgresTables$Table -/
def k9 : Class := { plain "com/example/persistutils/persistutils/engine/PostgresTables$Table" (some 0) with
  accessFlags := 32
  interfaces := #[]
  cf := some (fileOf pool9 10 #[.nestHost 1] #[{ accessFlags := 0, nameIndex := 7, descriptorIndex := 55, attributes := #[] }, { accessFlags := 0, nameIndex := 64, descriptorIndex := 61, attributes := #[] }] 32 4 #[] #[{ accessFlags := 18, nameIndex := 13, descriptorIndex := 14, attributes := #[] }, { accessFlags := 18, nameIndex := 17, descriptorIndex := 18, attributes := #[] }, { accessFlags := 18, nameIndex := 21, descriptorIndex := 22, attributes := #[] }, { accessFlags := 18, nameIndex := 25, descriptorIndex := 18, attributes := #[] }, { accessFlags := 18, nameIndex := 28, descriptorIndex := 29, attributes := #[] }, { accessFlags := 18, nameIndex := 32, descriptorIndex := 33, attributes := #[] }, { accessFlags := 18, nameIndex := 36, descriptorIndex := 22, attributes := #[] }, { accessFlags := 18, nameIndex := 39, descriptorIndex := 18, attributes := #[] }, { accessFlags := 18, nameIndex := 42, descriptorIndex := 33, attributes := #[] }, { accessFlags := 18, nameIndex := 45, descriptorIndex := 33, attributes := #[] }, { accessFlags := 18, nameIndex := 48, descriptorIndex := 29, attributes := #[] }, { accessFlags := 18, nameIndex := 51, descriptorIndex := 18, attributes := #[] }])
  fields := #[{ name := "name", type := (.object "java/lang/String"), accessFlags := 18, slot := 0, constantValue := 0 }, { name := "ofAnExtension", type := .boolean, accessFlags := 18, slot := 1, constantValue := 0 }, { name := "oid", type := .long, accessFlags := 18, slot := 2, constantValue := 0 }, { name := "truncatable", type := .boolean, accessFlags := 18, slot := 3, constantValue := 0 }, { name := "triggerEvents", type := .int, accessFlags := 18, slot := 4, constantValue := 0 }, { name := "referencing", type := (.object "java/util/List"), accessFlags := 18, slot := 5, constantValue := 0 }, { name := "size", type := .long, accessFlags := 18, slot := 6, constantValue := 0 }, { name := "ruledOnDelete", type := .boolean, accessFlags := 18, slot := 7, constantValue := 0 }, { name := "partitionsElsewhere", type := (.object "java/util/List"), accessFlags := 18, slot := 8, constantValue := 0 }, { name := "referencingUnindexed", type := (.object "java/util/List"), accessFlags := 18, slot := 9, constantValue := 0 }, { name := "indexes", type := .int, accessFlags := 18, slot := 10, constantValue := 0 }, { name := "toasted", type := .boolean, accessFlags := 18, slot := 11, constantValue := 0 }]
  methods := #[k9m0, k9m1]
  instanceTypes := #[(.object "java/lang/String"), .boolean, .long, .boolean, .int, (.object "java/util/List"), .long, .boolean, (.object "java/util/List"), (.object "java/util/List"), .int, .boolean]
  staticTypes := #[]
  resolved := Array.replicate 73 none
  statics := none }

def pool10 : Array CpInfo := pool [(8, .class_ 10), (1, u "java/lang/Iterable"), (24, .class_ 36), (0, u "java/lang/Object")] 25

/-- java/lang/Iterable -/
def k10 : Class := { plain "java/lang/Iterable" (some 0) with
  accessFlags := 1537
  interfaces := #[]
  cf := some (fileOf pool10 8 #[] #[] 1537 35 #[] #[])
  fields := #[]
  methods := #[]
  instanceTypes := #[]
  staticTypes := #[]
  resolved := Array.replicate 62 none
  statics := none }

def pool11 : Array CpInfo := pool [(10, .class_ 12), (1, u "java/util/Collection"), (47, .class_ 61), (0, u "java/lang/Object"), (0, .class_ 63), (0, u "java/lang/Iterable")] 51

/-- java/util/Collection -/
def k11 : Class := { plain "java/util/Collection" (some 0) with
  accessFlags := 1537
  interfaces := #[10]
  cf := some (fileOf pool11 10 #[] #[] 1537 60 #[62] #[])
  fields := #[]
  methods := #[]
  instanceTypes := #[]
  staticTypes := #[]
  resolved := Array.replicate 115 none
  statics := none }

def pool12 : Array CpInfo := pool [(1, .methodref 2 3), (0, .class_ 4), (0, .nameAndType 5 6), (0, u "java/lang/Object"), (0, u "<init>"), (0, u "()V"), (1, .class_ 10), (1, u "java/util/AbstractCollection"), (66, .class_ 78), (0, u "java/util/Collection")] 81

def k12c0 : Code := { maxStack := 1, maxLocals := 1, code := jdk_22_method_1_code, exceptionTable := #[], attributes := #[] }
def k12m0 : Method := { name := "<init>", desc := "()V", sig := { parameters := [], returnType := none }, accessFlags := 4, code := some k12c0 }
/-- java/util/AbstractCollection -/
def k12 : Class := { plain "java/util/AbstractCollection" (some 0) with
  accessFlags := 1057
  interfaces := #[11]
  cf := some (fileOf pool12 8 #[] #[{ accessFlags := 4, nameIndex := 5, descriptorIndex := 6, attributes := #[] }] 1057 2 #[77] #[])
  fields := #[]
  methods := #[k12m0]
  instanceTypes := #[]
  staticTypes := #[]
  resolved := Array.replicate 160 none
  statics := none }

def pool13 : Array CpInfo := pool [(8, .class_ 10), (1, u "java/util/SequencedCollection"), (15, .class_ 27), (0, u "java/lang/Object"), (0, .class_ 29), (0, u "java/util/Collection")] 27

/-- java/util/SequencedCollection -/
def k13 : Class := { plain "java/util/SequencedCollection" (some 0) with
  accessFlags := 1537
  interfaces := #[11]
  cf := some (fileOf pool13 8 #[] #[] 1537 26 #[28] #[])
  fields := #[]
  methods := #[]
  instanceTypes := #[]
  staticTypes := #[]
  resolved := Array.replicate 57 none
  statics := none }

def pool14 : Array CpInfo := pool [(8, .class_ 10), (1, u "java/util/List"), (92, .class_ 104), (0, u "java/lang/Object"), (15, .class_ 121), (0, u "java/util/SequencedCollection")] 129

/-- java/util/List -/
def k14 : Class := { plain "java/util/List" (some 0) with
  accessFlags := 1537
  interfaces := #[13]
  cf := some (fileOf pool14 8 #[] #[] 1537 103 #[120] #[])
  fields := #[]
  methods := #[]
  instanceTypes := #[]
  staticTypes := #[]
  resolved := Array.replicate 251 none
  statics := none }

def pool15 : Array CpInfo := pool [(1, .methodref 2 3), (0, .class_ 4), (0, .nameAndType 5 6), (0, u "java/util/AbstractCollection"), (0, u "<init>"), (0, u "()V"), (0, .fieldref 8 9), (0, .class_ 10), (0, .nameAndType 11 12), (0, u "java/util/AbstractList"), (0, u "modCount"), (0, u "I"), (64, .class_ 78), (0, u "java/util/AbstractList$Itr"), (3, .class_ 83), (0, u "java/util/AbstractList$ListItr"), (9, .class_ 94), (0, u "java/util/AbstractList$RandomAccessSubList"), (3, .class_ 99), (0, u "java/util/AbstractList$SubList"), (33, .class_ 134), (0, u "java/util/List"), (73, .class_ 209), (0, u "java/util/AbstractList$SubList$1"), (0, .class_ 211), (0, u "java/util/AbstractList$RandomAccessSpliterator")] 6

def k15c0 : Code := { maxStack := 2, maxLocals := 1, code := jdk_39_method_1_code, exceptionTable := #[], attributes := #[] }
def k15m0 : Method := { name := "<init>", desc := "()V", sig := { parameters := [], returnType := none }, accessFlags := 4, code := some k15c0 }
/-- java/util/AbstractList -/
def k15 : Class := { plain "java/util/AbstractList" (some 12) with
  accessFlags := 1057
  interfaces := #[14]
  cf := some (fileOf pool15 8 #[.nestMembers #[93, 98, 208, 210, 82, 77]] #[{ accessFlags := 4, nameIndex := 5, descriptorIndex := 6, attributes := #[] }] 1057 2 #[133] #[{ accessFlags := 132, nameIndex := 11, descriptorIndex := 12, attributes := #[] }])
  fields := #[{ name := "modCount", type := .int, accessFlags := 132, slot := 0, constantValue := 0 }]
  methods := #[k15m0]
  instanceTypes := #[.int]
  staticTypes := #[]
  resolved := Array.replicate 218 none
  statics := none }

def pool16 : Array CpInfo := pool [(1, .class_ 2), (0, u "java/util/RandomAccess"), (0, .class_ 4), (0, u "java/lang/Object")] 2

/-- java/util/RandomAccess -/
def k16 : Class := { plain "java/util/RandomAccess" (some 0) with
  accessFlags := 1537
  interfaces := #[]
  cf := some (fileOf pool16 1 #[] #[] 1537 3 #[] #[])
  fields := #[]
  methods := #[]
  instanceTypes := #[]
  staticTypes := #[]
  resolved := Array.replicate 7 none
  statics := none }

def pool17 : Array CpInfo := pool [(1, .class_ 2), (0, u "java/lang/Cloneable"), (0, .class_ 4), (0, u "java/lang/Object")] 2

/-- java/lang/Cloneable -/
def k17 : Class := { plain "java/lang/Cloneable" (some 0) with
  accessFlags := 1537
  interfaces := #[]
  cf := some (fileOf pool17 1 #[] #[] 1537 3 #[] #[])
  fields := #[]
  methods := #[]
  instanceTypes := #[]
  staticTypes := #[]
  resolved := Array.replicate 7 none
  statics := none }

def pool18 : Array CpInfo := pool [(1, .methodref 2 3), (0, .class_ 4), (0, .nameAndType 5 6), (0, u "java/util/AbstractList"), (0, u "<init>"), (0, u "()V"), (2, .fieldref 10 11), (0, .class_ 12), (0, .nameAndType 13 14), (0, u "java/util/ArrayList"), (0, u "elementData"), (0, u "[Ljava/lang/Object;"), (2, u "EMPTY_ELEMENTDATA"), (21, .fieldref 10 40), (0, .nameAndType 41 14), (0, u "DEFAULTCAPACITY_EMPTY_ELEMENTDATA"), (8, u "size"), (0, u "I"), (96, .class_ 149), (0, u "java/util/List"), (112, .class_ 263), (0, u "java/util/ArrayList$ListItr"), (3, .class_ 268), (0, u "java/util/ArrayList$Itr"), (7, .class_ 277), (0, u "java/util/ArrayList$SubList"), (12, .class_ 291), (0, u "java/util/ArrayList$ArrayListSpliterator"), (37, .class_ 330), (0, u "java/util/RandomAccess"), (0, .class_ 332), (0, u "java/lang/Cloneable"), (0, .class_ 334), (0, u "java/io/Serializable"), (0, u "serialVersionUID"), (0, u "J"), (3, u "DEFAULT_CAPACITY"), (159, .class_ 501), (0, u "java/util/ArrayList$SubList$2"), (0, .class_ 503), (0, u "java/util/ArrayList$SubList$1")] 5

def k18c0 : Code := { maxStack := 2, maxLocals := 1, code := jdk_38_method_2_code, exceptionTable := #[], attributes := #[] }
def k18m0 : Method := { name := "<init>", desc := "()V", sig := { parameters := [], returnType := none }, accessFlags := 1, code := some k18c0 }
/-- java/util/ArrayList -/
def k18 : Class := { plain "java/util/ArrayList" (some 15) with
  accessFlags := 33
  interfaces := #[14, 16, 17, 2]
  cf := some (fileOf pool18 10 #[.nestMembers #[290, 276, 500, 502, 262, 267]] #[{ accessFlags := 1, nameIndex := 5, descriptorIndex := 6, attributes := #[] }] 33 2 #[148, 329, 331, 333] #[{ accessFlags := 26, nameIndex := 335, descriptorIndex := 336, attributes := #[] }, { accessFlags := 26, nameIndex := 340, descriptorIndex := 51, attributes := #[] }, { accessFlags := 26, nameIndex := 17, descriptorIndex := 14, attributes := #[] }, { accessFlags := 26, nameIndex := 41, descriptorIndex := 14, attributes := #[] }, { accessFlags := 128, nameIndex := 13, descriptorIndex := 14, attributes := #[] }, { accessFlags := 2, nameIndex := 50, descriptorIndex := 51, attributes := #[] }])
  fields := #[{ name := "serialVersionUID", type := .long, accessFlags := 26, slot := 0, constantValue := 0 }, { name := "DEFAULT_CAPACITY", type := .int, accessFlags := 26, slot := 1, constantValue := 0 }, { name := "EMPTY_ELEMENTDATA", type := (.array (.object "java/lang/Object")), accessFlags := 26, slot := 2, constantValue := 0 }, { name := "DEFAULTCAPACITY_EMPTY_ELEMENTDATA", type := (.array (.object "java/lang/Object")), accessFlags := 26, slot := 3, constantValue := 0 }, { name := "elementData", type := (.array (.object "java/lang/Object")), accessFlags := 128, slot := 1, constantValue := 0 }, { name := "size", type := .int, accessFlags := 2, slot := 2, constantValue := 0 }]
  methods := #[k18m0]
  instanceTypes := #[.int, (.array (.object "java/lang/Object")), .int]
  staticTypes := #[.long, .int, (.array (.object "java/lang/Object")), (.array (.object "java/lang/Object"))]
  resolved := Array.replicate 509 none
  statics := some 1 }

def pool19 : Array CpInfo := pool [(4, .class_ 6), (1, u "java/lang/Object"), (0, u "<init>"), (0, u "()V"), (5, .class_ 16), (1, u "java/lang/StringLatin1"), (104, u "$assertionsDisabled"), (0, u "Z"), (98, .class_ 223), (1, u "java/lang/StringLatin1$LinesSpliterator"), (166, .class_ 391), (0, u "java/lang/StringLatin1$CharsSpliterator")] 3

def k19m0 : Method := { name := "<init>", desc := "()V", sig := { parameters := [], returnType := none }, accessFlags := 0, code := none }
/-- java/lang/StringLatin1 -/
def k19 : Class := { plain "java/lang/StringLatin1" (some 0) with
  accessFlags := 48
  interfaces := #[]
  cf := some (fileOf pool19 14 #[.nestMembers #[390, 221]] #[{ accessFlags := 0, nameIndex := 7, descriptorIndex := 8, attributes := #[] }] 48 4 #[] #[{ accessFlags := 4120, nameIndex := 121, descriptorIndex := 122, attributes := #[] }])
  fields := #[{ name := "$assertionsDisabled", type := .boolean, accessFlags := 4120, slot := 0, constantValue := 0 }]
  methods := #[k19m0]
  instanceTypes := #[]
  staticTypes := #[.boolean]
  resolved := Array.replicate 395 none
  statics := none }

def pool20 : Array CpInfo := pool [(2, .class_ 4), (1, u "java/lang/Object"), (0, u "<init>"), (0, u "()V"), (17, .class_ 26), (1, u "jdk/internal/util/Preconditions"), (28, .class_ 56), (0, u "jdk/internal/util/Preconditions$4"), (57, .class_ 115), (0, u "jdk/internal/util/Preconditions$1"), (7, u "SIOOBE_FORMATTER"), (0, u "Ljava/util/function/BiFunction;"), (0, .class_ 126), (0, u "jdk/internal/util/Preconditions$2"), (3, u "AIOOBE_FORMATTER"), (0, .class_ 132), (0, u "jdk/internal/util/Preconditions$3"), (3, u "IOOBE_FORMATTER")] 57

def k20m0 : Method := { name := "<init>", desc := "()V", sig := { parameters := [], returnType := none }, accessFlags := 1, code := none }
/-- jdk/internal/util/Preconditions -/
def k20 : Class := { plain "jdk/internal/util/Preconditions" (some 0) with
  accessFlags := 33
  interfaces := #[]
  cf := some (fileOf pool20 24 #[.nestMembers #[55, 131, 125, 114]] #[{ accessFlags := 1, nameIndex := 5, descriptorIndex := 6, attributes := #[] }] 33 2 #[] #[{ accessFlags := 25, nameIndex := 123, descriptorIndex := 124, attributes := #[] }, { accessFlags := 25, nameIndex := 130, descriptorIndex := 124, attributes := #[] }, { accessFlags := 25, nameIndex := 136, descriptorIndex := 124, attributes := #[] }])
  fields := #[{ name := "SIOOBE_FORMATTER", type := (.object "java/util/function/BiFunction"), accessFlags := 25, slot := 0, constantValue := 0 }, { name := "AIOOBE_FORMATTER", type := (.object "java/util/function/BiFunction"), accessFlags := 25, slot := 1, constantValue := 0 }, { name := "IOOBE_FORMATTER", type := (.object "java/util/function/BiFunction"), accessFlags := 25, slot := 2, constantValue := 0 }]
  methods := #[k20m0]
  instanceTypes := #[]
  staticTypes := #[(.object "java/util/function/BiFunction"), (.object "java/util/function/BiFunction"), (.object "java/util/function/BiFunction")]
  resolved := Array.replicate 194 none
  statics := some 2 }

def pool21 : Array CpInfo := pool [(9, u "<init>"), (6, .class_ 18), (1, u "java/lang/Object"), (0, u "()V"), (1, .class_ 23), (1, u "jdk/internal/util/ArraysSupport"), (0, u "LOG2_ARRAY_LONG_INDEX_SCALE"), (0, u "I"), (2, u "U"), (0, u "Ljdk/internal/misc/Unsafe;"), (8, u "BIG_ENDIAN"), (0, u "Z"), (8, u "LOG2_BYTE_BIT_SIZE"), (4, u "LOG2_ARRAY_INT_INDEX_SCALE"), (54, u "JLA"), (0, u "Ljdk/internal/access/JavaLangAccess;"), (11, u "LOG2_ARRAY_BOOLEAN_INDEX_SCALE"), (9, u "LOG2_ARRAY_BYTE_INDEX_SCALE"), (5, u "LOG2_ARRAY_CHAR_INDEX_SCALE"), (5, u "LOG2_ARRAY_SHORT_INDEX_SCALE"), (18, u "LOG2_ARRAY_FLOAT_INDEX_SCALE"), (24, u "LOG2_ARRAY_DOUBLE_INDEX_SCALE"), (89, u "T_BOOLEAN"), (2, u "T_CHAR"), (1, u "T_FLOAT"), (1, u "T_DOUBLE"), (1, u "T_BYTE"), (1, u "T_SHORT"), (1, u "T_INT"), (1, u "T_LONG"), (1, u "SOFT_MAX_ARRAY_LENGTH")] 83

def k21m0 : Method := { name := "<init>", desc := "()V", sig := { parameters := [], returnType := none }, accessFlags := 2, code := none }
/-- jdk/internal/util/ArraysSupport -/
def k21 : Class := { plain "jdk/internal/util/ArraysSupport" (some 0) with
  accessFlags := 33
  interfaces := #[]
  cf := some (fileOf pool21 21 #[] #[{ accessFlags := 2, nameIndex := 9, descriptorIndex := 19, attributes := #[] }] 33 16 #[] #[{ accessFlags := 24, nameIndex := 28, descriptorIndex := 29, attributes := #[] }, { accessFlags := 26, nameIndex := 38, descriptorIndex := 39, attributes := #[] }, { accessFlags := 25, nameIndex := 121, descriptorIndex := 25, attributes := #[] }, { accessFlags := 25, nameIndex := 131, descriptorIndex := 25, attributes := #[] }, { accessFlags := 25, nameIndex := 137, descriptorIndex := 25, attributes := #[] }, { accessFlags := 25, nameIndex := 143, descriptorIndex := 25, attributes := #[] }, { accessFlags := 25, nameIndex := 53, descriptorIndex := 25, attributes := #[] }, { accessFlags := 25, nameIndex := 24, descriptorIndex := 25, attributes := #[] }, { accessFlags := 25, nameIndex := 162, descriptorIndex := 25, attributes := #[] }, { accessFlags := 25, nameIndex := 187, descriptorIndex := 25, attributes := #[] }, { accessFlags := 26, nameIndex := 48, descriptorIndex := 25, attributes := #[] }, { accessFlags := 25, nameIndex := 277, descriptorIndex := 25, attributes := #[] }, { accessFlags := 25, nameIndex := 280, descriptorIndex := 25, attributes := #[] }, { accessFlags := 25, nameIndex := 282, descriptorIndex := 25, attributes := #[] }, { accessFlags := 25, nameIndex := 284, descriptorIndex := 25, attributes := #[] }, { accessFlags := 25, nameIndex := 286, descriptorIndex := 25, attributes := #[] }, { accessFlags := 25, nameIndex := 288, descriptorIndex := 25, attributes := #[] }, { accessFlags := 25, nameIndex := 290, descriptorIndex := 25, attributes := #[] }, { accessFlags := 25, nameIndex := 292, descriptorIndex := 25, attributes := #[] }, { accessFlags := 26, nameIndex := 108, descriptorIndex := 109, attributes := #[] }, { accessFlags := 25, nameIndex := 294, descriptorIndex := 25, attributes := #[] }])
  fields := #[{ name := "U", type := (.object "jdk/internal/misc/Unsafe"), accessFlags := 24, slot := 0, constantValue := 0 }, { name := "BIG_ENDIAN", type := .boolean, accessFlags := 26, slot := 1, constantValue := 0 }, { name := "LOG2_ARRAY_BOOLEAN_INDEX_SCALE", type := .int, accessFlags := 25, slot := 2, constantValue := 0 }, { name := "LOG2_ARRAY_BYTE_INDEX_SCALE", type := .int, accessFlags := 25, slot := 3, constantValue := 0 }, { name := "LOG2_ARRAY_CHAR_INDEX_SCALE", type := .int, accessFlags := 25, slot := 4, constantValue := 0 }, { name := "LOG2_ARRAY_SHORT_INDEX_SCALE", type := .int, accessFlags := 25, slot := 5, constantValue := 0 }, { name := "LOG2_ARRAY_INT_INDEX_SCALE", type := .int, accessFlags := 25, slot := 6, constantValue := 0 }, { name := "LOG2_ARRAY_LONG_INDEX_SCALE", type := .int, accessFlags := 25, slot := 7, constantValue := 0 }, { name := "LOG2_ARRAY_FLOAT_INDEX_SCALE", type := .int, accessFlags := 25, slot := 8, constantValue := 0 }, { name := "LOG2_ARRAY_DOUBLE_INDEX_SCALE", type := .int, accessFlags := 25, slot := 9, constantValue := 0 }, { name := "LOG2_BYTE_BIT_SIZE", type := .int, accessFlags := 26, slot := 10, constantValue := 0 }, { name := "T_BOOLEAN", type := .int, accessFlags := 25, slot := 11, constantValue := 0 }, { name := "T_CHAR", type := .int, accessFlags := 25, slot := 12, constantValue := 0 }, { name := "T_FLOAT", type := .int, accessFlags := 25, slot := 13, constantValue := 0 }, { name := "T_DOUBLE", type := .int, accessFlags := 25, slot := 14, constantValue := 0 }, { name := "T_BYTE", type := .int, accessFlags := 25, slot := 15, constantValue := 0 }, { name := "T_SHORT", type := .int, accessFlags := 25, slot := 16, constantValue := 0 }, { name := "T_INT", type := .int, accessFlags := 25, slot := 17, constantValue := 0 }, { name := "T_LONG", type := .int, accessFlags := 25, slot := 18, constantValue := 0 }, { name := "JLA", type := (.object "jdk/internal/access/JavaLangAccess"), accessFlags := 26, slot := 19, constantValue := 0 }, { name := "SOFT_MAX_ARRAY_LENGTH", type := .int, accessFlags := 25, slot := 20, constantValue := 0 }]
  methods := #[k21m0]
  instanceTypes := #[]
  staticTypes := #[(.object "jdk/internal/misc/Unsafe"), .boolean, .int, .int, .int, .int, .int, .int, .int, .int, .int, .int, .int, .int, .int, .int, .int, .int, .int, (.object "jdk/internal/access/JavaLangAccess"), .int]
  resolved := Array.replicate 378 none
  statics := none }

/-- the primitive byte -/
def k22 : Class := { plain "byte" none with kind := .primitive 'B', accessFlags := 0x411 }
/-- [B -/
def k23 : Class := { plain "[B" (some 0) with kind := .array 22 .byte, interfaces := #[17, 2], accessFlags := 1041 }

/-- the primitive char -/
def k24 : Class := { plain "char" none with kind := .primitive 'C', accessFlags := 0x411 }
/-- [C -/
def k25 : Class := { plain "[C" (some 0) with kind := .array 24 .char, interfaces := #[17, 2], accessFlags := 1041 }

/-- the primitive int -/
def k26 : Class := { plain "int" none with kind := .primitive 'I', accessFlags := 0x411 }
/-- [I -/
def k27 : Class := { plain "[I" (some 0) with kind := .array 26 .int, interfaces := #[17, 2], accessFlags := 1041 }

/-- [Ljava/lang/Object; -/
def k28 : Class := { plain "[Ljava/lang/Object;" (some 0) with kind := .array 0 (.object "java/lang/Object"), interfaces := #[17, 2], accessFlags := 1041 }

def heap : Heap := #[{ cls := 7, slots := #[.long 0, .int 1, .null, .int 0, .null, .int 0, .int 0], vm := .statics 7 },
  { cls := 18, slots := #[.long 0, .int 0, .ref 3, .ref 4], vm := .statics 18 },
  { cls := 20, slots := #[.null, .null, .null], vm := .statics 20 },
  { cls := 28, slots := #[], vm := .none },
  { cls := 28, slots := #[], vm := .none }]
def classes : Array Class := #[k0, k1, k2, k3, k4, k5, k6, k7, k8, k9, k10, k11, k12, k13, k14, k15, k16, k17, k18, k19, k20, k21, k22, k23, k24, k25, k26, k27, k28]
def interned : List (Array UInt16 × Addr) := []
def slotsUsed : Nat := 14
def theMethod : MethodId := ⟨1, 1⟩
def args0 : Array Value := #[.int 5, .int 6, .int 7, .long 8]
def aboutOver (below : List Frame) : State where
  vm := { classes := classes, interned := interned.toArray }
  heap := heap
  slotsUsed := slotsUsed
  threads := #[{ frames := .invoking theMethod args0 :: below }]
def below0 : List Frame := [.native { method := ⟨0, 0⟩, args := #[] }]
def about1 : State := aboutOver below0
def p0 : Program := .bare "" "" ""
def e0 : Env := launch0.env 0 0 0
theorem w_frames : about1.frames = Frame.invoking theMethod args0 :: below0 := rfl
set_option maxRecDepth 65536 in
theorem w_args : argsFit about1.vm theMethod args0 = true := by decide +kernel
set_option maxRecDepth 65536 in
theorem w_heap : heapFits about1 = true := by decide +kernel
set_option maxRecDepth 65536 in
theorem w_runnable : about1.curStatus? = some .runnable := by decide +kernel
set_option maxRecDepth 65536 in
theorem w_alone : about1.alone = true := by decide +kernel
set_option maxRecDepth 65536 in
theorem w_named : about1.methodNamed? x = some theMethod := by decide +kernel
set_option maxRecDepth 65536 in
theorem w_hears : about1.hears theMethod below0 = true := by decide +kernel
set_option maxRecDepth 65536 in
theorem w_ripe : about1.ripe theMethod args0 below0 = true := by decide +kernel
theorem w_running : about1.status = .running := rfl
set_option maxRecDepth 65536 in
theorem w_room : about1.hasRoom e0.platform room_1 = true :=
  launch0.hasRoom_least _ room_1 (by decide +kernel) (by decide +kernel) (by decide +kernel) (by decide +kernel) (by decide +kernel) (by decide +kernel)
theorem allAtoms_all (ts : List Jvm.Cond) (a : Array Jvm.Value) (st : Jvm.State) : (allAtoms ts).before a st = ts.all (fun c => c.before a st) := by
  induction ts with
  | nil => rfl
  | cons c t ih =>
    show (Jvm.Cond.and c (allAtoms t)).before a st = _
    rw [Jvm.Cond.before_and, ih, List.all_cons]
def words1 : List Jvm.Cond := Jvm.Cond.code x code maxLocals ret :: tables_1
/-- a 'code' word, met by the world's own term for the bytes: nothing is compared byte by byte -/
theorem code_word {y : MethodName} {bytes : ByteArray} {mx : Nat} {rt : Option FieldType} {a : Array Value} {s : State} {m : MethodId} {meth : Method} {c : Code} (h1 : s.methodNamed? y = some m) (h2 : s.vm.method? m = some meth) (h3 : meth.code = some c) (h4 : c.code = bytes)
    (h5 : (c.maxLocals == mx && c.exceptionTable.isEmpty && decide (c.maxStack ≤ mostOperands) && decide (meth.sig.returnType = rt) && !meth.locks && decide (parseMethodDescriptor y.desc = some meth.sig)) = true) : (Jvm.Cond.code y bytes mx rt).before a s = true := by
  simp only [Bool.and_eq_true, beq_iff_eq, Bool.not_eq_true', decide_eq_true_eq] at h5
  obtain ⟨⟨⟨⟨⟨g1, g2⟩, g3⟩, g4⟩, g5⟩, g6⟩ := h5
  simp [Cond.before, Cond.holds, Cond.value, h1, h2, h3, h4, g1, g2, g3, g4, g5, g6]
def isCode : Jvm.Cond → Bool
  | .code _ _ _ _ => true
  | _ => false
theorem all_split {L : List Jvm.Cond} {P : Jvm.Cond → Bool} (h1 : L.all (fun c => isCode c || P c) = true) (h2 : ∀ c ∈ L.filter isCode, P c = true) : L.all P = true := by
  refine List.all_eq_true.mpr fun c hc => ?_
  have h := List.all_eq_true.mp h1 c hc
  rcases Bool.eq_false_or_eq_true (isCode c) with hi | hi
  · exact h2 c (List.mem_filter.mpr ⟨hc, hi⟩)
  · simpa [hi] using h
set_option maxRecDepth 65536 in
theorem w_c0 : (Jvm.Cond.code x code maxLocals ret).before args0 about1 = true := code_word (m := ⟨1, 1⟩) (meth := k1m1) (c := k1c1) (by decide +kernel) rfl rfl rfl (by decide +kernel)
set_option maxRecDepth 65536 in
theorem w_c1 : (Jvm.Cond.code ({ cls := "java/lang/String", name := "<init>", desc := "([C)V" } : Jvm.MethodName) jdk_42_method_3_code (2 : Nat) (Option.none : Option Jvm.ClassFile.FieldType)).before args0 about1 = true := code_word (m := ⟨7, 1⟩) (meth := k7m1) (c := k7c1) (by decide +kernel) rfl rfl rfl (by decide +kernel)
set_option maxRecDepth 65536 in
theorem w_c2 : (Jvm.Cond.code ({ cls := "java/lang/String", name := "<init>", desc := "([CIILjava/lang/Void;)V" } : Jvm.MethodName) jdk_42_method_149_code (6 : Nat) (Option.none : Option Jvm.ClassFile.FieldType)).before args0 about1 = true := code_word (m := ⟨7, 2⟩) (meth := k7m2) (c := k7c2) (by decide +kernel) rfl rfl rfl (by decide +kernel)
set_option maxRecDepth 65536 in
theorem w_c3 : (Jvm.Cond.code ({ cls := "java/lang/Object", name := "<init>", desc := "()V" } : Jvm.MethodName) object_method_1_code (1 : Nat) (Option.none : Option Jvm.ClassFile.FieldType)).before args0 about1 = true := code_word (m := ⟨0, 0⟩) (meth := k0m0) (c := k0c0) (by decide +kernel) rfl rfl rfl (by decide +kernel)
set_option maxRecDepth 65536 in
theorem w_c4 : (Jvm.Cond.code ({ cls := "java/lang/StringUTF16", name := "compress", desc := "([CII)[B" } : Jvm.MethodName) jdk_52_method_16_code (6 : Nat) (Option.some (Jvm.ClassFile.FieldType.array Jvm.ClassFile.FieldType.byte))).before args0 about1 = true := code_word (m := ⟨8, 2⟩) (meth := k8m2) (c := k8c2) (by decide +kernel) rfl rfl rfl (by decide +kernel)
set_option maxRecDepth 65536 in
theorem w_c5 : (Jvm.Cond.code ({ cls := "java/lang/StringUTF16", name := "compress", desc := "([CI[BII)I" } : Jvm.MethodName) jdk_52_method_21_code (7 : Nat) (Option.some Jvm.ClassFile.FieldType.int)).before args0 about1 = true := code_word (m := ⟨8, 3⟩) (meth := k8m3) (c := k8c3) (by decide +kernel) rfl rfl rfl (by decide +kernel)
set_option maxRecDepth 65536 in
theorem w_c6 : (Jvm.Cond.code ({ cls := "java/lang/StringUTF16", name := "coderFromArrayLen", desc := "([BI)B" } : Jvm.MethodName) jdk_52_method_15_code (2 : Nat) (Option.some Jvm.ClassFile.FieldType.byte)).before args0 about1 = true := code_word (m := ⟨8, 1⟩) (meth := k8m1) (c := k8c1) (by decide +kernel) rfl rfl rfl (by decide +kernel)
set_option maxRecDepth 65536 in
theorem w_c7 : (Jvm.Cond.code ({ cls := "java/util/ArrayList", name := "<init>", desc := "()V" } : Jvm.MethodName) jdk_38_method_2_code (1 : Nat) (Option.none : Option Jvm.ClassFile.FieldType)).before args0 about1 = true := code_word (m := ⟨18, 0⟩) (meth := k18m0) (c := k18c0) (by decide +kernel) rfl rfl rfl (by decide +kernel)
set_option maxRecDepth 65536 in
theorem w_c8 : (Jvm.Cond.code ({ cls := "java/util/AbstractList", name := "<init>", desc := "()V" } : Jvm.MethodName) jdk_39_method_1_code (1 : Nat) (Option.none : Option Jvm.ClassFile.FieldType)).before args0 about1 = true := code_word (m := ⟨15, 0⟩) (meth := k15m0) (c := k15c0) (by decide +kernel) rfl rfl rfl (by decide +kernel)
set_option maxRecDepth 65536 in
theorem w_c9 : (Jvm.Cond.code ({ cls := "java/util/AbstractCollection", name := "<init>", desc := "()V" } : Jvm.MethodName) jdk_22_method_1_code (1 : Nat) (Option.none : Option Jvm.ClassFile.FieldType)).before args0 about1 = true := code_word (m := ⟨12, 0⟩) (meth := k12m0) (c := k12c0) (by decide +kernel) rfl rfl rfl (by decide +kernel)
set_option maxRecDepth 65536 in
theorem w_c10 : (Jvm.Cond.code ({ cls := "com/example/persistutils/persistutils/engine/PostgresTables$Table", name := "<init>", desc := "(Ljava/lang/String;ZJZILjava/util/List;JZLjava/util/List;Ljava/util/List;IZ)V" } : Jvm.MethodName) prog_51_method_1_code (15 : Nat) (Option.none : Option Jvm.ClassFile.FieldType)).before args0 about1 = true := code_word (m := ⟨9, 0⟩) (meth := k9m0) (c := k9c0) (by decide +kernel) rfl rfl rfl (by decide +kernel)
set_option maxRecDepth 65536 in
theorem w_c11 : (Jvm.Cond.code ({ cls := "com/example/persistutils/persistutils/engine/PostgresTables$Table", name := "triggeredOnTruncate", desc := "()Z" } : Jvm.MethodName) prog_51_method_6_code (1 : Nat) (Option.some Jvm.ClassFile.FieldType.boolean)).before args0 about1 = true := code_word (m := ⟨9, 1⟩) (meth := k9m1) (c := k9c1) (by decide +kernel) rfl rfl rfl (by decide +kernel)
def codes1 : List Jvm.Cond := [Jvm.Cond.code x code maxLocals ret, Jvm.Cond.code ({ cls := "java/lang/String", name := "<init>", desc := "([C)V" } : Jvm.MethodName) jdk_42_method_3_code (2 : Nat) (Option.none : Option Jvm.ClassFile.FieldType), Jvm.Cond.code ({ cls := "java/lang/String", name := "<init>", desc := "([CIILjava/lang/Void;)V" } : Jvm.MethodName) jdk_42_method_149_code (6 : Nat) (Option.none : Option Jvm.ClassFile.FieldType), Jvm.Cond.code ({ cls := "java/lang/Object", name := "<init>", desc := "()V" } : Jvm.MethodName) object_method_1_code (1 : Nat) (Option.none : Option Jvm.ClassFile.FieldType), Jvm.Cond.code ({ cls := "java/lang/StringUTF16", name := "compress", desc := "([CII)[B" } : Jvm.MethodName) jdk_52_method_16_code (6 : Nat) (Option.some (Jvm.ClassFile.FieldType.array Jvm.ClassFile.FieldType.byte)), Jvm.Cond.code ({ cls := "java/lang/StringUTF16", name := "compress", desc := "([CI[BII)I" } : Jvm.MethodName) jdk_52_method_21_code (7 : Nat) (Option.some Jvm.ClassFile.FieldType.int), Jvm.Cond.code ({ cls := "java/lang/StringUTF16", name := "coderFromArrayLen", desc := "([BI)B" } : Jvm.MethodName) jdk_52_method_15_code (2 : Nat) (Option.some Jvm.ClassFile.FieldType.byte), Jvm.Cond.code ({ cls := "java/util/ArrayList", name := "<init>", desc := "()V" } : Jvm.MethodName) jdk_38_method_2_code (1 : Nat) (Option.none : Option Jvm.ClassFile.FieldType), Jvm.Cond.code ({ cls := "java/util/AbstractList", name := "<init>", desc := "()V" } : Jvm.MethodName) jdk_39_method_1_code (1 : Nat) (Option.none : Option Jvm.ClassFile.FieldType), Jvm.Cond.code ({ cls := "java/util/AbstractCollection", name := "<init>", desc := "()V" } : Jvm.MethodName) jdk_22_method_1_code (1 : Nat) (Option.none : Option Jvm.ClassFile.FieldType), Jvm.Cond.code ({ cls := "com/example/persistutils/persistutils/engine/PostgresTables$Table", name := "<init>", desc := "(Ljava/lang/String;ZJZILjava/util/List;JZLjava/util/List;Ljava/util/List;IZ)V" } : Jvm.MethodName) prog_51_method_1_code (15 : Nat) (Option.none : Option Jvm.ClassFile.FieldType), Jvm.Cond.code ({ cls := "com/example/persistutils/persistutils/engine/PostgresTables$Table", name := "triggeredOnTruncate", desc := "()Z" } : Jvm.MethodName) prog_51_method_6_code (1 : Nat) (Option.some Jvm.ClassFile.FieldType.boolean)]
set_option maxRecDepth 65536 in
theorem codes_eq : words1.filter isCode = codes1 := rfl
theorem w_codes : ∀ c ∈ words1.filter isCode, c.before args0 about1 = true := by
  rw [codes_eq]
  intro c hc
  simp only [codes1, List.mem_cons, List.not_mem_nil, or_false] at hc
  rcases hc with rfl | rfl | rfl | rfl | rfl | rfl | rfl | rfl | rfl | rfl | rfl | rfl
  · exact w_c0
  · exact w_c1
  · exact w_c2
  · exact w_c3
  · exact w_c4
  · exact w_c5
  · exact w_c6
  · exact w_c7
  · exact w_c8
  · exact w_c9
  · exact w_c10
  · exact w_c11
set_option maxRecDepth 65536 in
theorem w_t1 : (words1.take 24).all (fun c => isCode c || c.before args0 about1) = true := by decide +kernel
set_option maxRecDepth 65536 in
theorem w_t2 : ((words1.drop 24).take 24).all (fun c => isCode c || c.before args0 about1) = true := by decide +kernel
set_option maxRecDepth 65536 in
theorem w_t3 : (((words1.drop 24).drop 24).take 24).all (fun c => isCode c || c.before args0 about1) = true := by decide +kernel
set_option maxRecDepth 65536 in
theorem w_t4 : (((words1.drop 24).drop 24).drop 24).all (fun c => isCode c || c.before args0 about1) = true := by decide +kernel
theorem w_tables : (allAtoms (Jvm.Cond.code x code maxLocals ret :: tables_1)).before args0 about1 = true := by
  rw [allAtoms_all]
  show words1.all (fun c => c.before args0 about1) = true
  refine all_split ?_ w_codes
  rw [← List.take_append_drop 24 words1, List.all_append, w_t1, ← List.take_append_drop 24 (words1.drop 24), List.all_append, w_t2, ← List.take_append_drop 24 ((words1.drop 24).drop 24), List.all_append, w_t3, w_t4]
  rfl
set_option maxRecDepth 65536 in
theorem w_rest : rest_1_c.before args0 about1 = true := by decide +kernel
set_option maxRecDepth 65536 in
theorem w_case : (Jvm.Cond.and given_1 narrow_1).before args0 about1 = true := by decide +kernel
theorem w_applies : (headSpec (Jvm.Cond.code x code maxLocals ret :: tables_1) room_1).applies x e0.platform about1 = true :=
  (Spec.applies_iff w_frames).mpr ⟨w_running, w_runnable, w_alone, w_named, w_hears, w_ripe, w_room, w_tables⟩
theorem atStart : AtStart classFile x code maxLocals ret World_1 tables_1 room_1 Calls_1 rest_1 Pre_1 launch0 p0 e0 about1 theMethod args0 below0 :=
  ⟨lists_1, trivial, launch0.admits_env _ _ _, launch0.least_env, fairChoices_fair.cas, fairChoices_fair.clock, w_frames, w_args, w_heap, w_applies, trivial, w_rest, w_case⟩
end start1
theorem witness_1 : WitnessClaimed_1 := ⟨start1.p0, start1.e0, start1.about1, start1.theMethod, start1.args0, start1.below0, start1.atStart⟩
end Jvm.Pilot.@@N@@
