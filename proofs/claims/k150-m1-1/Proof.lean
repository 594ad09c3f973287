import JvmDerived
import JvmDerived.Pilot.@@N@@Statement
import JvmDerived.Pilot.@@N@@Code
set_option linter.unusedVariables false
set_option linter.unusedSimpArgs false
@@BLOCK:NumsL.lean.txt@@
/- laws to paste: Road.backV (cut by pick.py; bodies as the Statement names them) -/
namespace Jvm.Pilot.@@N@@
namespace StrChars
open Jvm Sem ClassFile Op Lib Jvm.Stand Jvm.Free.XT Jvm.Free.ALB Jvm.Free.JM Jvm.Free
open Jvm.Lib.Cold (StaticIs)
/-- a char array whose places are chars -/
def Ch (a : Addr) (A : Cell) (U : State) : Prop := Arr .char a A U ∧ Typed .char A
theorem Ch.mv {a : Addr} {A : Cell} {U U' : State} (h : Ch a A U) (hal : U.vm.Alike U'.vm) (hh : U'.heap = U.heap) : Ch a A U' := ⟨h.1.mv hal hh, h.2⟩
theorem Ch.keep {a : Addr} {A : Cell} {U U' : State} (h : Ch a A U) (hal : U.vm.Alike U'.vm) (hk : U'.heap[a]? = some A) : Ch a A U' := ⟨h.1.keep hal hk, h.2⟩
/-- what place i of a char[]'s cell holds -/
def cv (A : Cell) (i : Nat) : Int32 := match A.slots[i]? with | some (.int x) => x | _ => 0
theorem Ch.get {a : Addr} {A : Cell} {U : State} (h : Ch a A U) {i : Nat} (hi : i < A.slots.size) : A.slots[i]? = some (.int (cv A i)) := by
  have e := Array.getElem?_eq_getElem hi
  have f := h.2 i _ e
  unfold cv; rw [e]
  generalize A.slots[i] = v at f
  cases v <;> simp [fits] at f ⊢
/-- the byte that i2b leaves of a char -/
def lo8 (x : Int32) : Int32 := x.toInt8.toInt32
theorem fits_lo8 (y : Int32) : fits .byte (.int (lo8 y)) = true := by
  have h1 := y.toInt8.le_toInt
  have h2 := y.toInt8.toInt_lt
  simp only [lo8, fits, Bool.and_eq_true, decide_eq_true_eq, Int32.le_iff_toInt_le, Int8.toInt_toInt32, show (-128 : Int32).toInt = -128 from by decide, show (127 : Int32).toInt = 127 from by decide]
  omega
/-- A' is A but that each place j of lo .. hi - 1 holds f j -/
def Laid (A A' : Cell) (lo hi : Nat) (f : Nat → Value) : Prop := A'.cls = A.cls ∧ A'.vm = A.vm ∧ A'.slots.size = A.slots.size ∧ ∀ i, A'.slots[i]? = if lo ≤ i ∧ i < hi then some (f i) else A.slots[i]?
theorem Laid.zero (A : Cell) (lo : Nat) (f : Nat → Value) : Laid A A lo (lo + 0) f := ⟨rfl, rfl, rfl, fun i => by rw [if_neg (by omega)]⟩
theorem Laid.step {A Ak : Cell} {lo k : Nat} {f : Nat → Value} {v : Value} (h : Laid A Ak lo k f) (hlo : lo ≤ k) (hk : k < Ak.slots.size) (hv : v = f k) : Laid A (Ak.setSlot k v) lo (k + 1) f := by
  refine ⟨h.1, h.2.1, by simpa [Cell.setSlot] using h.2.2.1, fun i => ?_⟩
  by_cases e : k = i
  · subst e; rw [Cell.slots_setSlot_self v hk, if_pos (by omega), hv]
  · rw [Cell.slots_setSlot_ne v e, h.2.2.2 i]
    by_cases q : lo ≤ i ∧ i < k
    · rw [if_pos q, if_pos (by omega)]
    · rw [if_neg q, if_neg (by omega)]
def U16 : String := "java/lang/StringUTF16"
namespace Cmp5
def yN : MethodName := ⟨"java/lang/StringUTF16", "compress", "([CI[BII)I"⟩
abbrev yB : ByteArray := jdk_52_method_21_code
theorem d0 : decode yB 0 = .ok (.iconst 0, 1) := by decide +kernel
theorem d1 : decode yB 1 = .ok (.istore 5, 2) := by decide +kernel
theorem d3 : decode yB 3 = .ok (.iload 5, 2) := by decide +kernel
theorem d5 : decode yB 5 = .ok (.iload 4, 2) := by decide +kernel
theorem d7 : decode yB 7 = .ok (.if_icmp (.ge) 37, 3) := by decide +kernel
theorem d10 : decode yB 10 = .ok (.aload_n 0, 1) := by decide +kernel
theorem d11 : decode yB 11 = .ok (.iload_n 1, 1) := by decide +kernel
theorem d12 : decode yB 12 = .ok (.caload, 1) := by decide +kernel
theorem d13 : decode yB 13 = .ok (.istore 6, 2) := by decide +kernel
theorem d15 : decode yB 15 = .ok (.iload 6, 2) := by decide +kernel
theorem d17 : decode yB 17 = .ok (.sipush 255, 3) := by decide +kernel
theorem d20 : decode yB 20 = .ok (.if_icmp (.le) 6, 3) := by decide +kernel
theorem d26 : decode yB 26 = .ok (.aload_n 2, 1) := by decide +kernel
theorem d27 : decode yB 27 = .ok (.iload_n 3, 1) := by decide +kernel
theorem d28 : decode yB 28 = .ok (.iload 6, 2) := by decide +kernel
theorem d30 : decode yB 30 = .ok (.i2b, 1) := by decide +kernel
theorem d31 : decode yB 31 = .ok (.bastore, 1) := by decide +kernel
theorem d32 : decode yB 32 = .ok (.iinc 1 1, 3) := by decide +kernel
theorem d35 : decode yB 35 = .ok (.iinc 3 1, 3) := by decide +kernel
theorem d38 : decode yB 38 = .ok (.iinc 5 1, 3) := by decide +kernel
theorem d41 : decode yB 41 = .ok (.goto (-38), 3) := by decide +kernel
theorem d44 : decode yB 44 = .ok (.iload 4, 2) := by decide +kernel
theorem d46 : decode yB 46 = .ok (.ireturn, 1) := by decide +kernel
def site : List Cond := []
def tab : Cond := tabOf yN yB 7 (some .int) site
def P (b : Addr) (A : Cell) (d : Addr) (B : Cell) (o q len : Nat) (args : Array Value) (s : State) : Prop := args = #[.ref b, .int (Int32.ofNat o), .ref d, .int (Int32.ofNat q), .int (Int32.ofNat len)] ∧ Ch b A s ∧ Arr .byte d B s ∧ b ≠ d ∧ o + len ≤ A.slots.size ∧ q + len ≤ B.slots.size ∧ ∀ i, i < len → ¬ 255 < cv A (o + i)
def E (b : Addr) (A : Cell) (d : Addr) (B : Cell) (o q len : Nat) (r : Option Value) (s u : State) : Prop := r = some (.int (Int32.ofNat len)) ∧ ∃ B', Put d B' s u ∧ Laid B B' q (q + len) (fun j => Value.int (lo8 (cv A (o + (j - q)))))
/-- no char of the range above 255: len; the places written hold each char's low byte -/
theorem law (l : Launch) (b : Addr) (A : Cell) (d : Addr) (B : Cell) (o q len : Nat) : Law l yN 5 5 0 0 yB 7 (some .int) site (P b A d B o q len) (E b A d B o q len) (copyLocs d q len) 0 0 := by
  refine Law.of_walk (plainFor_of_name (by decide +kernel)) (by decide +kernel) (by decide +kernel) (by decide) (fun _ _ h => by rw [h.1]; rfl) (fun _ U U' hal hh h => ⟨h.1, h.2.1.mv hal hh, h.2.2.1.mv hal hh, h.2.2.2⟩) (fun r U U' V V' h1 hal h2 h => ⟨h.1, h.2.elim fun B' q => ⟨B', q.1.mv h1 h2, q.2⟩⟩) ?_
  intro p e s m args below meth c s₁ X0 hexec hbytes hml hret hlk hnm hown hh0 W hP
  obtain ⟨rfl, hA, hB, hne, l1, l2, hp⟩ := hP
  have c1 : Steps p.tables e below (s₁.setTop (entryFrame m #[.ref b, .int (Int32.ofNat o), .ref d, .int (Int32.ofNat q), .int (Int32.ofNat len)] 7)) (s₁.setTop (mkF m 0 #[.val (.ref b), .val (.int (Int32.ofNat o)), .val (.ref d), .val (.int (Int32.ofNat q)), .val (.int (Int32.ofNat len)), .unset, .unset] [])) := entry rfl
  have hA0 := hA.1.mv X0.warmed.alike hh0
  have hB0 := hB.mv X0.warmed.alike hh0
  have a31 := hA.1.2.2.2
  have c2 : Steps p.tables e below (s₁.setTop (entryFrame m #[.ref b, .int (Int32.ofNat o), .ref d, .int (Int32.ofNat q), .int (Int32.ofNat len)] 7)) (s₁.setTop (mkF m 3 #[.val (.ref b), .val (.int (Int32.ofNat o)), .val (.ref d), .val (.int (Int32.ofNat q)), .val (.int (Int32.ofNat len)), .val (.int 0), .unset] [])) := c1.trans (by
    refine iconstV X0.here hexec rfl 0 (hb hbytes d0) (by decide) ?_
    refine XS.istore X0.here hexec rfl (hb hbytes d1) rfl rfl ?_
    exact Steps.refl _)
  have loop : ∀ (r i : Nat), i + r = len → ∀ (z : Slot), (z = .unset ∨ ∃ w, z = .val w ∧ w.category = 1) → ∀ (Tl : State) (Bk : Cell), Stand p l e { frames := 0, locals := 0, cells := 0, slots := 0 } s m #[.ref b, .int (Int32.ofNat o), .ref d, .int (Int32.ofNat q), .int (Int32.ofNat len)] below meth c Tl ([] ++ copyLocs d q i) 0 0 → Put d Bk s₁ Tl → Laid B Bk q (q + i) (fun j => Value.int (lo8 (cv A (o + (j - q))))) →
      Steps p.tables e below (s₁.setTop (entryFrame m #[.ref b, .int (Int32.ofNat o), .ref d, .int (Int32.ofNat q), .int (Int32.ofNat len)] 7)) (Tl.setTop (mkF m 3 #[.val (.ref b), .val (.int (Int32.ofNat (o + i))), .val (.ref d), .val (.int (Int32.ofNat (q + i))), .val (.int (Int32.ofNat len)), .val (.int (Int32.ofNat i)), z] [])) → ∃ (T' : State) (B' : Cell) (z' : Slot), Stand p l e { frames := 0, locals := 0, cells := 0, slots := 0 } s m #[.ref b, .int (Int32.ofNat o), .ref d, .int (Int32.ofNat q), .int (Int32.ofNat len)] below meth c T' ([] ++ copyLocs d q len) 0 0 ∧ Put d B' s₁ T' ∧ Laid B B' q (q + len) (fun j => Value.int (lo8 (cv A (o + (j - q))))) ∧
      Steps p.tables e below (s₁.setTop (entryFrame m #[.ref b, .int (Int32.ofNat o), .ref d, .int (Int32.ofNat q), .int (Int32.ofNat len)] 7)) (T'.setTop (mkF m 3 #[.val (.ref b), .val (.int (Int32.ofNat (o + len))), .val (.ref d), .val (.int (Int32.ofNat (q + len))), .val (.int (Int32.ofNat len)), .val (.int (Int32.ofNat len)), z'] [])) := by
    intro r
    induction r with
    | zero =>
      intro i hi z hz Tl Bk Xl pl fl cl
      have hil : i = len := by omega
      rw [hil] at Xl fl cl
      exact ⟨Tl, Bk, z, Xl, pl, fl, cl⟩
    | succ r ih =>
      intro i hi z hz Tl Bk Xl pl fl cl
      have all := X0.warmed.alike.symm.trans Xl.warmed.alike
      have hAl := hA0.keep all (pl.other hne hA0.1)
      have hBk := hB0.like all pl.1 fl.1 fl.2.1 fl.2.2.1
      have hlt : q + i < Bk.slots.size := by rw [fl.2.2.1]; omega
      have c3 : Steps p.tables e below (s₁.setTop (entryFrame m #[.ref b, .int (Int32.ofNat o), .ref d, .int (Int32.ofNat q), .int (Int32.ofNat len)] 7)) (Tl.setTop (mkF m 12 #[.val (.ref b), .val (.int (Int32.ofNat (o + i))), .val (.ref d), .val (.int (Int32.ofNat (q + i))), .val (.int (Int32.ofNat len)), .val (.int (Int32.ofNat i)), z] [.int (Int32.ofNat (o + i)), .ref b])) := cl.trans (by
        refine XS.iload Xl.here hexec rfl (hb hbytes d3) rfl ?_
        refine XS.iload Xl.here hexec rfl (hb hbytes d5) rfl ?_
        refine XS.icmpNo Xl.here hexec rfl (hb hbytes d7) rfl (ii_ge_f (lt32 (by omega) (by omega))) ?_
        refine XS.aloadN Xl.here hexec rfl (hb hbytes d10) rfl rfl ?_
        refine XS.iloadN Xl.here hexec rfl (hb hbytes d11) rfl ?_
        exact Steps.refl _)
      have c4 : Steps p.tables e below (s₁.setTop (entryFrame m #[.ref b, .int (Int32.ofNat o), .ref d, .int (Int32.ofNat q), .int (Int32.ofNat len)] 7)) (Tl.setTop (mkF m 13 #[.val (.ref b), .val (.int (Int32.ofNat (o + i))), .val (.ref d), .val (.int (Int32.ofNat (q + i))), .val (.int (Int32.ofNat len)), .val (.int (Int32.ofNat i)), z] [.int (cv A (o + i))])) := c3.trans (by
        refine Xl.aget hexec hAl rfl (hA.get (i := o + i) (by omega)) rfl rfl (hb hbytes d12) ?_
        exact Steps.refl _)
      have c5 : Steps p.tables e below (s₁.setTop (entryFrame m #[.ref b, .int (Int32.ofNat o), .ref d, .int (Int32.ofNat q), .int (Int32.ofNat len)] 7)) (Tl.setTop (mkF m 15 #[.val (.ref b), .val (.int (Int32.ofNat (o + i))), .val (.ref d), .val (.int (Int32.ofNat (q + i))), .val (.int (Int32.ofNat len)), .val (.int (Int32.ofNat i)), .val (.int (cv A (o + i)))] [])) := c4.trans (by
        refine XS.istoreS Xl.here hexec rfl (hb hbytes d13) rfl rfl hz ?_
        exact Steps.refl _)
      have c6 : Steps p.tables e below (s₁.setTop (entryFrame m #[.ref b, .int (Int32.ofNat o), .ref d, .int (Int32.ofNat q), .int (Int32.ofNat len)] 7)) (Tl.setTop (mkF m 31 #[.val (.ref b), .val (.int (Int32.ofNat (o + i))), .val (.ref d), .val (.int (Int32.ofNat (q + i))), .val (.int (Int32.ofNat len)), .val (.int (Int32.ofNat i)), .val (.int (cv A (o + i)))] [.int (lo8 (cv A (o + i))), .int (Int32.ofNat (q + i)), .ref d])) := c5.trans (by
        refine XS.iload Xl.here hexec rfl (hb hbytes d15) rfl ?_
        refine sipushV Xl.here hexec rfl 255 (hb hbytes d17) (by decide) ?_
        refine XS.icmpYes Xl.here hexec rfl (pc0 := 20) rfl (hb hbytes d20) rfl (ii_le_t (hp i (by omega))) (by decide) rfl ?_
        refine XS.aloadN Xl.here hexec rfl (hb hbytes d26) rfl rfl ?_
        refine XS.iloadN Xl.here hexec rfl (hb hbytes d27) rfl ?_
        refine XS.iload Xl.here hexec rfl (hb hbytes d28) rfl ?_
        refine i2b Xl.here hexec rfl (hb hbytes d30) rfl ?_
        exact Steps.refl _)
      obtain ⟨T7, X7, p7, st7⟩ := Xl.aput hexec hBk rfl hlt rfl (fits_lo8 (cv A (o + i))) (g := (mkF m 31 #[.val (.ref b), .val (.int (Int32.ofNat (o + i))), .val (.ref d), .val (.int (Int32.ofNat (q + i))), .val (.int (Int32.ofNat len)), .val (.int (Int32.ofNat i)), .val (.int (cv A (o + i)))] [.int (lo8 (cv A (o + i))), .int (Int32.ofNat (q + i)), .ref d])) rfl (rest := []) rfl (hb hbytes d31)
      have c8 : Steps p.tables e below (s₁.setTop (entryFrame m #[.ref b, .int (Int32.ofNat o), .ref d, .int (Int32.ofNat q), .int (Int32.ofNat len)] 7)) (T7.setTop (mkF m 32 #[.val (.ref b), .val (.int (Int32.ofNat (o + i))), .val (.ref d), .val (.int (Int32.ofNat (q + i))), .val (.int (Int32.ofNat len)), .val (.int (Int32.ofNat i)), .val (.int (cv A (o + i)))] [])) := c6.trans (st7 _ (Steps.refl _))
      have c9 : Steps p.tables e below (s₁.setTop (entryFrame m #[.ref b, .int (Int32.ofNat o), .ref d, .int (Int32.ofNat q), .int (Int32.ofNat len)] 7)) (T7.setTop (mkF m 3 #[.val (.ref b), .val (.int (Int32.ofNat (o + i) + 1)), .val (.ref d), .val (.int (Int32.ofNat (q + i) + 1)), .val (.int (Int32.ofNat len)), .val (.int (Int32.ofNat i + 1)), .val (.int (cv A (o + i)))] [])) := c8.trans (by
        refine iincV X7.here hexec rfl 1 (hb hbytes d32) (by decide) rfl rfl ?_
        refine iincV X7.here hexec rfl 1 (hb hbytes d35) (by decide) rfl rfl ?_
        refine iincV X7.here hexec rfl 1 (hb hbytes d38) (by decide) rfl rfl ?_
        refine XS.goto X7.here hexec rfl (pc0 := 41) rfl (hb hbytes d41) (by decide) rfl ?_
        exact Steps.refl _)
      have c10 : Steps p.tables e below (s₁.setTop (entryFrame m #[.ref b, .int (Int32.ofNat o), .ref d, .int (Int32.ofNat q), .int (Int32.ofNat len)] 7)) (T7.setTop (mkF m 3 #[.val (.ref b), .val (.int (Int32.ofNat (o + (i + 1)))), .val (.ref d), .val (.int (Int32.ofNat (q + (i + 1)))), .val (.int (Int32.ofNat len)), .val (.int (Int32.ofNat (i + 1))), .val (.int (cv A (o + i)))] [])) := by
        have := c9
        rw [succ32, succ32, succ32] at this
        exact this
      exact ih (i + 1) (by omega) _ (Or.inr ⟨_, rfl, rfl⟩) T7 _ (by rw [copyLocs_step, ← List.append_assoc]; exact X7) (pl.trans p7) (fl.step (by omega) hlt (by simp)) c10
  obtain ⟨T9, B9, z9, X9, p9, f9, g9⟩ := loop len 0 (by omega) .unset (Or.inl rfl) s₁ B (by simpa [copyLocs] using X0) ⟨hB0.1, fun _ _ => rfl, rfl⟩ (Laid.zero _ _ _) c2
  have c11 : Steps p.tables e below (s₁.setTop (entryFrame m #[.ref b, .int (Int32.ofNat o), .ref d, .int (Int32.ofNat q), .int (Int32.ofNat len)] 7)) (T9.setTop (mkF m 46 #[.val (.ref b), .val (.int (Int32.ofNat (o + len))), .val (.ref d), .val (.int (Int32.ofNat (q + len))), .val (.int (Int32.ofNat len)), .val (.int (Int32.ofNat len)), z9] [.int (Int32.ofNat len)])) := g9.trans (by
    refine XS.iload X9.here hexec rfl (hb hbytes d3) rfl ?_
    refine XS.iload X9.here hexec rfl (hb hbytes d5) rfl ?_
    refine XS.icmpYes X9.here hexec rfl (pc0 := 7) rfl (hb hbytes d7) rfl (ii_ge_t (nlt32 (by omega) (Nat.le_refl _))) (by decide) rfl ?_
    refine XS.iload X9.here hexec rfl (hb hbytes d44) rfl ?_
    exact Steps.refl _)
  exact ⟨T9, some (.int (Int32.ofNat len)), _, _, _, X9, by simp, rfl, rfl, (fun h => by cases h), ⟨rfl, B9, p9.from hh0, f9⟩, fun fs hl => c11.trans (X9.ireturnOut hexec hret rfl (Or.inl rfl) (hb hbytes d46) hl)⟩
end Cmp5
namespace Cmp3
def yN : MethodName := ⟨"java/lang/StringUTF16", "compress", "([CII)[B"⟩
abbrev yB : ByteArray := jdk_52_method_16_code
theorem d0 : decode yB 0 = .ok (.iload_n 2, 1) := by decide +kernel
theorem d1 : decode yB 1 = .ok (.newarray .byte, 2) := by decide +kernel
theorem d3 : decode yB 3 = .ok (.astore_n 3, 1) := by decide +kernel
theorem d4 : decode yB 4 = .ok (.aload_n 0, 1) := by decide +kernel
theorem d5 : decode yB 5 = .ok (.iload_n 1, 1) := by decide +kernel
theorem d6 : decode yB 6 = .ok (.aload_n 3, 1) := by decide +kernel
theorem d7 : decode yB 7 = .ok (.iconst 0, 1) := by decide +kernel
theorem d8 : decode yB 8 = .ok (.iload_n 2, 1) := by decide +kernel
theorem d9 : decode yB 9 = .ok (.invokestatic 115, 3) := by decide +kernel
theorem d12 : decode yB 12 = .ok (.istore 4, 2) := by decide +kernel
theorem d14 : decode yB 14 = .ok (.iload 4, 2) := by decide +kernel
theorem d16 : decode yB 16 = .ok (.iload_n 2, 1) := by decide +kernel
theorem d17 : decode yB 17 = .ok (.if_icmp (.eq) 40, 3) := by decide +kernel
theorem d57 : decode yB 57 = .ok (.aload_n 3, 1) := by decide +kernel
theorem d58 : decode yB 58 = .ok (.areturn, 1) := by decide +kernel
def site : List Cond := [.arrayClass .byte, Cmp5.tab] ++ staticW U16 115 Cmp5.yN
def tab : Cond := tabOf yN yB 6 (some (.array .byte)) site
def P (b : Addr) (A : Cell) (o len : Nat) (args : Array Value) (s : State) : Prop := args = #[.ref b, .int (Int32.ofNat o), .int (Int32.ofNat len)] ∧ Ch b A s ∧ o + len ≤ A.slots.size ∧ len ≤ 536870912 ∧ ∀ i, i < len → ¬ 255 < cv A (o + i)
def E (b : Addr) (A : Cell) (o len : Nat) (r : Option Value) (s u : State) : Prop := NewArr .byte "[B" len (fun j => .int (lo8 (cv A (o + j)))) r s u ∧ u.heap.size = s.heap.size + 1
/-- no char of the range above 255: a new byte[] of their low bytes -/
theorem law (l : Launch) (b : Addr) (A : Cell) (o len : Nat) : Law l yN 3 3 1 18 yB 6 (some (.array .byte)) site (P b A o len) (E b A o len) [] 1 len := by
  refine Law.of_walk (plainFor_of_name (by decide +kernel)) (by decide +kernel) (by decide +kernel) (by decide) (fun _ _ h => by rw [h.1]; rfl) (fun _ U U' hal hh h => ⟨h.1, h.2.1.mv hal hh, h.2.2⟩) (fun r U U' V V' h1 hal h2 h => ⟨NewArr.mv r U U' V V' h1 hal h2 h.1, by rw [h1, h2]; exact h.2⟩) ?_
  intro p e s m args below meth c s₁ X0 hexec hbytes hml hret hlk hnm hown hh0 W hP
  obtain ⟨rfl, hA, l1, l2, hp⟩ := hP
  have a31 := hA.1.2.2.2
  have c1 : Steps p.tables e below (s₁.setTop (entryFrame m #[.ref b, .int (Int32.ofNat o), .int (Int32.ofNat len)] 6)) (s₁.setTop (mkF m 0 #[.val (.ref b), .val (.int (Int32.ofNat o)), .val (.int (Int32.ofNat len)), .unset, .unset, .unset] [])) := entry rfl
  have c2 : Steps p.tables e below (s₁.setTop (entryFrame m #[.ref b, .int (Int32.ofNat o), .int (Int32.ofNat len)] 6)) (s₁.setTop (mkF m 1 #[.val (.ref b), .val (.int (Int32.ofNat o)), .val (.int (Int32.ofNat len)), .unset, .unset, .unset] [.int (Int32.ofNat len)])) := c1.trans (by
    refine XS.iloadN X0.here hexec rfl (hb hbytes d0) rfl ?_
    exact Steps.refl _)
  obtain ⟨T3, B3, X3, ba3, bs3, bv3, bh3, bf3, st3⟩ := X0.anew hexec (atype := .byte) (wk W (.arrayClass .byte)) rfl (by show len * 1 ≤ _; omega) (by omega) (g := (mkF m 1 #[.val (.ref b), .val (.int (Int32.ofNat o)), .val (.int (Int32.ofNat len)), .unset, .unset, .unset] [.int (Int32.ofNat len)])) rfl (hb hbytes d1) (rest := []) rfl (Nat.le_refl _) (by show 0 + len ≤ len; omega)
  rw [hh0] at ba3 st3
  have kp3 : XT.Kept s T3 := (XT.Kept.of_eq hh0).push bh3
  have hA3 := hA.keep X3.warmed.alike (kp3 _ _ hA.1.1)
  have hne : b ≠ s.heap.size := hA.1.ne
  have c4 : Steps p.tables e below (s₁.setTop (entryFrame m #[.ref b, .int (Int32.ofNat o), .int (Int32.ofNat len)] 6)) (T3.setTop (mkF m 3 #[.val (.ref b), .val (.int (Int32.ofNat o)), .val (.int (Int32.ofNat len)), .unset, .unset, .unset] [.ref s.heap.size])) := c2.trans (st3 _ (Steps.refl _))
  have c5 : Steps p.tables e below (s₁.setTop (entryFrame m #[.ref b, .int (Int32.ofNat o), .int (Int32.ofNat len)] 6)) (T3.setTop (mkF m 9 #[.val (.ref b), .val (.int (Int32.ofNat o)), .val (.int (Int32.ofNat len)), .val (.ref s.heap.size), .unset, .unset] [.int (Int32.ofNat len), .int 0, .ref s.heap.size, .int (Int32.ofNat o), .ref b])) := c4.trans (by
    refine XS.astoreN X3.here hexec rfl (hb hbytes d3) rfl rfl rfl ?_
    refine XS.aloadN X3.here hexec rfl (hb hbytes d4) rfl rfl ?_
    refine XS.iloadN X3.here hexec rfl (hb hbytes d5) rfl ?_
    refine XS.aloadN X3.here hexec rfl (hb hbytes d6) rfl rfl ?_
    refine iconstV X3.here hexec rfl 0 (hb hbytes d7) (by decide) ?_
    refine XS.iloadN X3.here hexec rfl (hb hbytes d8) rfl ?_
    exact Steps.refl _)
  obtain ⟨v6, T6, X6, E6, g6⟩ := X3.callS hexec (Cmp5.law l b A s.heap.size B3 o 0 len) hown (wks W (staticW U16 115 Cmp5.yN)) (wk W Cmp5.tab) (W := 0) (Nat.le_of_ble_eq_true rfl) (Nat.le_of_ble_eq_true rfl) (Nat.le_refl _) (by show 0 + len + 0 ≤ len; omega) (g := (mkF m 9 #[.val (.ref b), .val (.int (Int32.ofNat o)), .val (.int (Int32.ofNat len)), .val (.ref s.heap.size), .unset, .unset] [.int (Int32.ofNat len), .int (Int32.ofNat 0), .ref s.heap.size, .int (Int32.ofNat o), .ref b])) rfl (by rw [hml]; rfl) c5 (argsL := [.ref b, .int (Int32.ofNat o), .ref s.heap.size, .int (Int32.ofNat 0), .int (Int32.ofNat len)]) (rest := []) rfl rfl (by show 2 * 0 + 0 ≤ _; decide) (hb hbytes d9) (⟨rfl, hA3, ba3, hne, l1, by rw [bs3]; simp, hp⟩)
  obtain ⟨rfl, B6, p6, f6⟩ := E6
  have c7 : Steps p.tables e below (s₁.setTop (entryFrame m #[.ref b, .int (Int32.ofNat o), .int (Int32.ofNat len)] 6)) (T6.setTop (mkF m 12 #[.val (.ref b), .val (.int (Int32.ofNat o)), .val (.int (Int32.ofNat len)), .val (.ref s.heap.size), .unset, .unset] [.int (Int32.ofNat len)])) := g6
  have c8 : Steps p.tables e below (s₁.setTop (entryFrame m #[.ref b, .int (Int32.ofNat o), .int (Int32.ofNat len)] 6)) (T6.setTop (mkF m 58 #[.val (.ref b), .val (.int (Int32.ofNat o)), .val (.int (Int32.ofNat len)), .val (.ref s.heap.size), .val (.int (Int32.ofNat len)), .unset] [.ref s.heap.size])) := c7.trans (by
    refine XS.istore X6.here hexec rfl (hb hbytes d12) rfl rfl ?_
    refine XS.iload X6.here hexec rfl (hb hbytes d14) rfl ?_
    refine XS.iloadN X6.here hexec rfl (hb hbytes d16) rfl ?_
    refine XS.icmpYes X6.here hexec rfl (pc0 := 17) rfl (hb hbytes d17) rfl (ii_eq_t rfl) (by decide) rfl ?_
    refine XS.aloadN X6.here hexec rfl (hb hbytes d57) rfl rfl ?_
    exact Steps.refl _)
  have X8 := X6.wide (L' := []) (cells' := 1) (slots' := len) (fun x hx hlt => by
    simp only [List.nil_append, copyLocs, List.mem_map, List.mem_range] at hx
    obtain ⟨i, -, rfl⟩ := hx
    exact absurd hlt (Nat.lt_irrefl _)) (Nat.le_refl _) (by omega)
  exact ⟨T6, some (.ref s.heap.size), _, _, _, X8, rfl, rfl, rfl, (fun h => by cases h), ⟨⟨rfl, B6, ba3.like (X3.warmed.alike.symm.trans X6.warmed.alike) p6.1 f6.1 f6.2.1 f6.2.2.1, f6.2.1.trans bv3, by rw [X6.warmed.alike.findClass, f6.1]; exact bf3, by rw [f6.2.2.1, bs3]; simp, fun j hj => by rw [f6.2.2.2 j, if_pos (by omega)]; rfl, kp3.put p6 (Nat.le_refl _)⟩, by rw [p6.2.2, bh3, hh0]; simp⟩, fun fs hl => c8.trans (X8.areturnOut hexec rfl hret rfl (hb hbytes d58) hl)⟩
end Cmp3
namespace CodL
def yN : MethodName := ⟨"java/lang/StringUTF16", "coderFromArrayLen", "([BI)B"⟩
abbrev yB : ByteArray := jdk_52_method_15_code
theorem d0 : decode yB 0 = .ok (.iload_n 1, 1) := by decide +kernel
theorem d1 : decode yB 1 = .ok (.aload_n 0, 1) := by decide +kernel
theorem d2 : decode yB 2 = .ok (.arraylength, 1) := by decide +kernel
theorem d3 : decode yB 3 = .ok (.isub, 1) := by decide +kernel
theorem d4 : decode yB 4 = .ok (.bipush 31, 2) := by decide +kernel
theorem d6 : decode yB 6 = .ok (.iushr, 1) := by decide +kernel
theorem d7 : decode yB 7 = .ok (.i2b, 1) := by decide +kernel
theorem d8 : decode yB 8 = .ok (.ireturn, 1) := by decide +kernel
def site : List Cond := []
def tab : Cond := tabOf yN yB 2 (some .byte) site
def P (d : Addr) (B : Cell) (args : Array Value) (s : State) : Prop := args = #[.ref d, .int (Int32.ofNat B.slots.size)] ∧ Arr .byte d B s
def E (r : Option Value) (s u : State) : Prop := XT.PureE (some (.int 0)) r s u
/-- an array as long as the number of chars: LATIN1 -/
theorem law (l : Launch) (d : Addr) (B : Cell) : Law l yN 2 2 0 0 yB 2 (some .byte) site (P d B) E [] 0 0 := by
  refine Law.of_walk (plainFor_of_name (by decide +kernel)) (by decide +kernel) (by decide +kernel) (by decide) (fun _ _ h => by rw [h.1]; rfl) (fun _ U U' hal hh h => ⟨h.1, h.2.mv hal hh⟩) (fun r U U' V V' h1 hal h2 h => XT.PureE.mv r U U' V V' h1 hal h2 h) ?_
  intro p e s m args below meth c s₁ X0 hexec hbytes hml hret hlk hnm hown hh0 W hP
  obtain ⟨rfl, hB⟩ := hP
  have hB0 := hB.mv X0.warmed.alike hh0
  have c1 : Steps p.tables e below (s₁.setTop (entryFrame m #[.ref d, .int (Int32.ofNat B.slots.size)] 2)) (s₁.setTop (mkF m 0 #[.val (.ref d), .val (.int (Int32.ofNat B.slots.size))] [])) := entry rfl
  have c2 : Steps p.tables e below (s₁.setTop (entryFrame m #[.ref d, .int (Int32.ofNat B.slots.size)] 2)) (s₁.setTop (mkF m 2 #[.val (.ref d), .val (.int (Int32.ofNat B.slots.size))] [.ref d, .int (Int32.ofNat B.slots.size)])) := c1.trans (by
    refine XS.iloadN X0.here hexec rfl (hb hbytes d0) rfl ?_
    refine XS.aloadN X0.here hexec rfl (hb hbytes d1) rfl rfl ?_
    exact Steps.refl _)
  have c3 : Steps p.tables e below (s₁.setTop (entryFrame m #[.ref d, .int (Int32.ofNat B.slots.size)] 2)) (s₁.setTop (mkF m 8 #[.val (.ref d), .val (.int (Int32.ofNat B.slots.size))] [.int (lo8 (ushr (Int32.ofNat B.slots.size - Int32.ofNat B.slots.size) 31))])) := c2.trans (by
    refine X0.alen hexec hB0 rfl rfl (hb hbytes d2) ?_
    refine XS.isub X0.here hexec rfl (hb hbytes d3) rfl ?_
    refine bipushV X0.here hexec rfl 31 (hb hbytes d4) (by decide) ?_
    refine iushr X0.here hexec rfl (hb hbytes d6) rfl ?_
    refine i2b X0.here hexec rfl (hb hbytes d7) rfl ?_
    exact Steps.refl _)
  have e0 : lo8 (ushr (Int32.ofNat B.slots.size - Int32.ofNat B.slots.size) 31) = 0 := by rw [Int32.sub_self]; decide
  rw [e0] at c3
  exact ⟨s₁, some (.int 0), _, _, _, X0, rfl, rfl, rfl, (fun h => by cases h), ⟨rfl, hh0⟩, fun fs hl => c3.trans (X0.ireturnOut hexec hret rfl (Or.inr (Or.inr (Or.inl rfl))) (hb hbytes d8) hl)⟩
end CodL
/-- the String at a is Latin-1 over a new byte[] (the heap's one new cell): the low bytes of the len chars of A from o on; every cell but a is kept -/
def Got (a : Addr) (D : Cell) (fV fC : Field) (A : Cell) (o len : Nat) (r : Option Value) (s u : State) : Prop := r = none ∧ ∃ D' V : Cell, Blank "java/lang/String" a D' u ∧ Same D D' [fV.slot, fC.slot] ∧ D'.slots[fV.slot]? = some (.ref s.heap.size) ∧ D'.slots[fC.slot]? = some (.int 0) ∧ Arr .byte s.heap.size V u ∧ V.vm = .none ∧ u.vm.findClass "[B" = some V.cls ∧ V.slots.size = len ∧ (∀ j, j < len → V.slots[j]? = some (.int (lo8 (cv A (o + j))))) ∧ (∀ (y : Addr) (c : Cell), y ≠ a → s.heap[y]? = some c → u.heap[y]? = some c) ∧ u.heap.size = s.heap.size + 1
theorem Got.mv {a : Addr} {D A : Cell} {fV fC : Field} {o len : Nat} : ∀ r (U U' V V' : State), U'.heap = U.heap → V.vm.Alike V'.vm → V'.heap = V.heap → Got a D fV fC A o len r U V → Got a D fV fC A o len r U' V' :=
  fun r U U' V V' h1 hal h2 ⟨e0, D', X, a1, a2, a3, a4, a5, a6, a7, a8, a9, a10, a11⟩ => ⟨e0, D', X, a1.mv hal h2, a2, by rw [h1]; exact a3, a4, by rw [h1]; exact a5.mv hal h2, a6, by rw [hal.findClass]; exact a7, a8, a9, by rw [h1, h2]; exact a10, by rw [h1, h2]; exact a11⟩
namespace New4
def yN : MethodName := ⟨"java/lang/String", "<init>", "([CIILjava/lang/Void;)V"⟩
abbrev yB : ByteArray := jdk_42_method_149_code
theorem d0 : decode yB 0 = .ok (.aload_n 0, 1) := by decide +kernel
theorem d1 : decode yB 1 = .ok (.invokespecial 1, 3) := by decide +kernel
theorem d4 : decode yB 4 = .ok (.iload_n 3, 1) := by decide +kernel
theorem d5 : decode yB 5 = .ok (.ifCond (.ne) 22, 3) := by decide +kernel
theorem d27 : decode yB 27 = .ok (.getstatic 38, 3) := by decide +kernel
theorem d30 : decode yB 30 = .ok (.ifCond (.eq) 28, 3) := by decide +kernel
theorem d33 : decode yB 33 = .ok (.aload_n 1, 1) := by decide +kernel
theorem d34 : decode yB 34 = .ok (.iload_n 2, 1) := by decide +kernel
theorem d35 : decode yB 35 = .ok (.iload_n 3, 1) := by decide +kernel
theorem d36 : decode yB 36 = .ok (.invokestatic 177, 3) := by decide +kernel
theorem d39 : decode yB 39 = .ok (.astore 5, 2) := by decide +kernel
theorem d41 : decode yB 41 = .ok (.aload_n 0, 1) := by decide +kernel
theorem d42 : decode yB 42 = .ok (.aload 5, 2) := by decide +kernel
theorem d44 : decode yB 44 = .ok (.iload_n 3, 1) := by decide +kernel
theorem d45 : decode yB 45 = .ok (.invokestatic 47, 3) := by decide +kernel
theorem d48 : decode yB 48 = .ok (.putfield 15, 3) := by decide +kernel
theorem d51 : decode yB 51 = .ok (.aload_n 0, 1) := by decide +kernel
theorem d52 : decode yB 52 = .ok (.aload 5, 2) := by decide +kernel
theorem d54 : decode yB 54 = .ok (.putfield 9, 3) := by decide +kernel
theorem d57 : decode yB 57 = .ok (.return_, 1) := by decide +kernel
def site : List Cond := [.fieldLink "java/lang/String" 38 "java/lang/String" "COMPACT_STRINGS" "Z", Cmp3.tab, CodL.tab, .laysFinal "java/lang/String" "java/lang/String" "value" "[B", .fieldLink "java/lang/String" 9 "java/lang/String" "value" "[B", .laysFinal "java/lang/String" "java/lang/String" "coder" "B", .fieldLink "java/lang/String" 15 "java/lang/String" "coder" "B"] ++ objW "java/lang/String" 1 ++ staticW "java/lang/String" 177 Cmp3.yN ++ staticW "java/lang/String" 47 CodL.yN
def tab : Cond := tabOf yN yB 6 none site
def P (a : Addr) (D : Cell) (fV fC : Field) (b : Addr) (A : Cell) (z : Int32) (o len : Nat) (args : Array Value) (s : State) : Prop := args = #[.ref a, .ref b, .int (Int32.ofNat o), .int (Int32.ofNat len), .null] ∧ Blank "java/lang/String" a D s ∧ Found "java/lang/String" "value" "[B" fV s ∧ Found "java/lang/String" "coder" "B" fC s ∧ Ch b A s ∧ StaticIs s "java/lang/String" "COMPACT_STRINGS" "Z" (.int z) ∧ ¬ z = 0 ∧ 0 < len ∧ o + len ≤ A.slots.size ∧ len ≤ 536870912 ∧ ∀ i, i < len → ¬ 255 < cv A (o + i)
def E (a : Addr) (D : Cell) (fV fC : Field) (A : Cell) (o len : Nat) (r : Option Value) (s u : State) : Prop := Got a D fV fC A o len r s u
/-- len > 0, no char of the range above 255: a Latin-1 String of their low bytes -/
theorem law (l : Launch) (a : Addr) (D : Cell) (fV fC : Field) (b : Addr) (A : Cell) (z : Int32) (o len : Nat) : Law l yN 5 4 2 35 yB 6 none site (P a D fV fC b A z o len) (E a D fV fC A o len) [⟨a, fC.slot⟩, ⟨a, fV.slot⟩] 1 len := by
  refine Law.of_walk (plainFor_of_name (by decide +kernel)) (by decide +kernel) (by decide +kernel) (by decide) (fun _ _ h => by rw [h.1]; rfl) (fun _ U U' hal hh h => ⟨h.1, h.2.1.mv hal hh, h.2.2.1.al hal, h.2.2.2.1.al hal, h.2.2.2.2.1.mv hal hh, h.2.2.2.2.2.1.there hal hh, h.2.2.2.2.2.2⟩) (fun r U U' V V' h1 hal h2 h => Got.mv r U U' V V' h1 hal h2 h) ?_
  intro p e s m args below meth c s₁ X0 hexec hbytes hml hret hlk hnm hown hh0 W hP
  obtain ⟨rfl, hB, f1, f2, hA, s1, hz, l0, l1, l2, hp⟩ := hP
  have a31 := hA.1.2.2.2
  have c1 : Steps p.tables e below (s₁.setTop (entryFrame m #[.ref a, .ref b, .int (Int32.ofNat o), .int (Int32.ofNat len), .null] 6)) (s₁.setTop (mkF m 0 #[.val (.ref a), .val (.ref b), .val (.int (Int32.ofNat o)), .val (.int (Int32.ofNat len)), .val .null, .unset] [])) := entry rfl
  have c2 : Steps p.tables e below (s₁.setTop (entryFrame m #[.ref a, .ref b, .int (Int32.ofNat o), .int (Int32.ofNat len), .null] 6)) (s₁.setTop (mkF m 1 #[.val (.ref a), .val (.ref b), .val (.int (Int32.ofNat o)), .val (.int (Int32.ofNat len)), .val .null, .unset] [.ref a])) := c1.trans (by
    refine XS.aloadN X0.here hexec rfl (hb hbytes d0) rfl rfl ?_
    exact Steps.refl _)
  obtain ⟨T3, X3, q3, st3⟩ := X0.oinit hexec hown (wks W (objW "java/lang/String" 1)) (g := (mkF m 1 #[.val (.ref a), .val (.ref b), .val (.int (Int32.ofNat o)), .val (.int (Int32.ofNat len)), .val .null, .unset] [.ref a])) rfl (by rw [hml]; rfl) (rest := []) rfl (hb hbytes d1) (W := 0) (by show 2 * 0 + 0 ≤ _; decide) (Nat.le_of_ble_eq_true rfl) (Nat.le_of_ble_eq_true rfl)
  have hh3 := q3.trans hh0
  have c4 : Steps p.tables e below (s₁.setTop (entryFrame m #[.ref a, .ref b, .int (Int32.ofNat o), .int (Int32.ofNat len), .null] 6)) (T3.setTop (mkF m 27 #[.val (.ref a), .val (.ref b), .val (.int (Int32.ofNat o)), .val (.int (Int32.ofNat len)), .val .null, .unset] [])) := (c2.trans (st3 _ (Steps.refl _))).trans (by
    refine XS.iloadN X3.here hexec rfl (hb hbytes d4) rfl ?_
    refine XS.ifYes X3.here hexec rfl (pc0 := 5) rfl (hb hbytes d5) rfl (i0_ne_t (nz32 (by omega) l0)) (by decide) rfl ?_
    exact Steps.refl _)
  obtain ⟨T5, X5, q5, st5⟩ := X3.sget hexec hown (wk W (.fieldLink "java/lang/String" 38 "java/lang/String" "COMPACT_STRINGS" "Z")) s1 (fun _ _ h => by rw [hh3]; exact h) (g := (mkF m 27 #[.val (.ref a), .val (.ref b), .val (.int (Int32.ofNat o)), .val (.int (Int32.ofNat len)), .val .null, .unset] [])) rfl (hb hbytes d27)
  have hh5 := q5.trans hh3
  have c6 : Steps p.tables e below (s₁.setTop (entryFrame m #[.ref a, .ref b, .int (Int32.ofNat o), .int (Int32.ofNat len), .null] 6)) (T5.setTop (mkF m 30 #[.val (.ref a), .val (.ref b), .val (.int (Int32.ofNat o)), .val (.int (Int32.ofNat len)), .val .null, .unset] [.int z])) := c4.trans (st5 _ (Steps.refl _))
  have c7 : Steps p.tables e below (s₁.setTop (entryFrame m #[.ref a, .ref b, .int (Int32.ofNat o), .int (Int32.ofNat len), .null] 6)) (T5.setTop (mkF m 36 #[.val (.ref a), .val (.ref b), .val (.int (Int32.ofNat o)), .val (.int (Int32.ofNat len)), .val .null, .unset] [.int (Int32.ofNat len), .int (Int32.ofNat o), .ref b])) := c6.trans (by
    refine XS.ifNo X5.here hexec rfl (hb hbytes d30) rfl (i0_eq_f hz) ?_
    refine XS.aloadN X5.here hexec rfl (hb hbytes d33) rfl rfl ?_
    refine XS.iloadN X5.here hexec rfl (hb hbytes d34) rfl ?_
    refine XS.iloadN X5.here hexec rfl (hb hbytes d35) rfl ?_
    exact Steps.refl _)
  obtain ⟨v8, T8, X8, E8, g8⟩ := X5.callS hexec (Cmp3.law l b A o len) hown (wks W (staticW "java/lang/String" 177 Cmp3.yN)) (wk W Cmp3.tab) (W := 0) (Nat.le_of_ble_eq_true rfl) (Nat.le_of_ble_eq_true rfl) (Nat.le_refl _) (by show 0 + len ≤ len; omega) (g := (mkF m 36 #[.val (.ref a), .val (.ref b), .val (.int (Int32.ofNat o)), .val (.int (Int32.ofNat len)), .val .null, .unset] [.int (Int32.ofNat len), .int (Int32.ofNat o), .ref b])) rfl (by rw [hml]; rfl) c7 (argsL := [.ref b, .int (Int32.ofNat o), .int (Int32.ofNat len)]) (rest := []) rfl rfl (by show 2 * 0 + 0 ≤ _; decide) (hb hbytes d36) (⟨rfl, hA.mv X5.warmed.alike hh5, l1, l2, hp⟩)
  obtain ⟨e8, z8⟩ := E8
  obtain ⟨rfl, N, n1, n2, n3, n4, n5, n6⟩ := NewArr.mv _ T5 s _ _ hh5.symm (Vm.Alike.refl _) rfl e8
  rw [hh5] at z8
  have hB1 := hB.keep X8.warmed.alike (n6 _ _ hB.1)
  have hne : s.heap.size ≠ a := (Nat.ne_of_lt (Array.getElem?_eq_some_iff.mp hB.1).1).symm
  have c9 : Steps p.tables e below (s₁.setTop (entryFrame m #[.ref a, .ref b, .int (Int32.ofNat o), .int (Int32.ofNat len), .null] 6)) (T8.setTop (mkF m 39 #[.val (.ref a), .val (.ref b), .val (.int (Int32.ofNat o)), .val (.int (Int32.ofNat len)), .val .null, .unset] [.ref s.heap.size])) := g8
  have c10 : Steps p.tables e below (s₁.setTop (entryFrame m #[.ref a, .ref b, .int (Int32.ofNat o), .int (Int32.ofNat len), .null] 6)) (T8.setTop (mkF m 45 #[.val (.ref a), .val (.ref b), .val (.int (Int32.ofNat o)), .val (.int (Int32.ofNat len)), .val .null, .val (.ref s.heap.size)] [.int (Int32.ofNat N.slots.size), .ref s.heap.size, .ref a])) := by
    have hc : Steps p.tables e below (s₁.setTop (entryFrame m #[.ref a, .ref b, .int (Int32.ofNat o), .int (Int32.ofNat len), .null] 6)) (T8.setTop (mkF m 45 #[.val (.ref a), .val (.ref b), .val (.int (Int32.ofNat o)), .val (.int (Int32.ofNat len)), .val .null, .val (.ref s.heap.size)] [.int (Int32.ofNat len), .ref s.heap.size, .ref a])) := c9.trans (by
      refine XS.astore X8.here hexec rfl (hb hbytes d39) rfl rfl rfl ?_
      refine XS.aloadN X8.here hexec rfl (hb hbytes d41) rfl rfl ?_
      refine XS.aload X8.here hexec rfl (hb hbytes d42) rfl rfl ?_
      refine XS.iloadN X8.here hexec rfl (hb hbytes d44) rfl ?_
      exact Steps.refl _)
    rw [n4]; exact hc
  obtain ⟨v11, T11, X11, E11, g11⟩ := X8.callS hexec (CodL.law l s.heap.size N) hown (wks W (staticW "java/lang/String" 47 CodL.yN)) (wk W CodL.tab) (W := 1) (Nat.le_of_ble_eq_true rfl) (Nat.le_of_ble_eq_true rfl) (Nat.le_refl _) (by show 0 + len + 0 ≤ len; omega) (g := (mkF m 45 #[.val (.ref a), .val (.ref b), .val (.int (Int32.ofNat o)), .val (.int (Int32.ofNat len)), .val .null, .val (.ref s.heap.size)] [.int (Int32.ofNat N.slots.size), .ref s.heap.size, .ref a])) rfl (by rw [hml]; rfl) c10 (argsL := [.ref s.heap.size, .int (Int32.ofNat N.slots.size)]) (rest := [.ref a]) rfl rfl (by show 2 * 0 + (1 + 0) ≤ _; decide) (hb hbytes d45) (⟨rfl, n1⟩)
  obtain ⟨rfl, q11⟩ := E11
  have hB11 := hB1.mv (X8.warmed.alike.symm.trans X11.warmed.alike) q11
  have c12 : Steps p.tables e below (s₁.setTop (entryFrame m #[.ref a, .ref b, .int (Int32.ofNat o), .int (Int32.ofNat len), .null] 6)) (T11.setTop (mkF m 48 #[.val (.ref a), .val (.ref b), .val (.int (Int32.ofNat o)), .val (.int (Int32.ofNat len)), .val .null, .val (.ref s.heap.size)] [.int 0, .ref a])) := g11
  obtain ⟨T13, X13, p13, bl13, sl13, st13⟩ := X11.finit hexec hown (wk W (.fieldLink "java/lang/String" 15 "java/lang/String" "coder" "B")) (Or.inr ⟨_, (wk W (.laysFinal "java/lang/String" "java/lang/String" "coder" "B"))⟩) (Or.inl ⟨rfl, hnm⟩) f2 (Or.inl rfl) hB11 (t := .byte) (by decide +kernel) rfl (g := (mkF m 48 #[.val (.ref a), .val (.ref b), .val (.int (Int32.ofNat o)), .val (.int (Int32.ofNat len)), .val .null, .val (.ref s.heap.size)] [.int 0, .ref a])) rfl (rest := []) rfl (hb hbytes d48)
  have c14 : Steps p.tables e below (s₁.setTop (entryFrame m #[.ref a, .ref b, .int (Int32.ofNat o), .int (Int32.ofNat len), .null] 6)) (T13.setTop (mkF m 54 #[.val (.ref a), .val (.ref b), .val (.int (Int32.ofNat o)), .val (.int (Int32.ofNat len)), .val .null, .val (.ref s.heap.size)] [.ref s.heap.size, .ref a])) := (c12.trans (st13 _ (Steps.refl _))).trans (by
    refine XS.aloadN X13.here hexec rfl (hb hbytes d51) rfl rfl ?_
    refine XS.aload X13.here hexec rfl (hb hbytes d52) rfl rfl ?_
    exact Steps.refl _)
  obtain ⟨T15, X15, p15, bl15, sl15, st15⟩ := X13.finit hexec hown (wk W (.fieldLink "java/lang/String" 9 "java/lang/String" "value" "[B")) (Or.inr ⟨_, (wk W (.laysFinal "java/lang/String" "java/lang/String" "value" "[B"))⟩) (Or.inl ⟨rfl, hnm⟩) f1 (Or.inl rfl) bl13 (t := (.array .byte)) (by decide +kernel) rfl (g := (mkF m 54 #[.val (.ref a), .val (.ref b), .val (.int (Int32.ofNat o)), .val (.int (Int32.ofNat len)), .val .null, .val (.ref s.heap.size)] [.ref s.heap.size, .ref a])) rfl (rest := []) rfl (hb hbytes d54)
  have c16 : Steps p.tables e below (s₁.setTop (entryFrame m #[.ref a, .ref b, .int (Int32.ofNat o), .int (Int32.ofNat len), .null] 6)) (T15.setTop (mkF m 57 #[.val (.ref a), .val (.ref b), .val (.int (Int32.ofNat o)), .val (.int (Int32.ofNat len)), .val .null, .val (.ref s.heap.size)] [])) := c14.trans (st15 _ (Steps.refl _))
  have ap := apart (Or.inr ⟨_, (wk W (.laysFinal "java/lang/String" "java/lang/String" "value" "[B"))⟩) (Or.inr ⟨_, (wk W (.laysFinal "java/lang/String" "java/lang/String" "coder" "B"))⟩) f1 f2 (t₁ := .array .byte) (t₂ := .byte) (by decide +kernel) (by decide +kernel) (by decide)
  have al := X8.warmed.alike.symm.trans X15.warmed.alike
  have n7 : T11.heap[s.heap.size]? = some N := by rw [q11]; exact n1.1
  exact ⟨T15, none, _, _, _, X15, by simp, rfl, by omega, (fun _ => rfl), ⟨rfl, _, N, bl15, ((Same.refl D _).set _ (by simp)).set _ (by simp), sl15, (Cell.slots_setSlot_ne _ ap).trans sl13, n1.keep al (p15.other hne (p13.other hne n7)), n2, by rw [al.findClass]; exact n3, n4, n5, fun y c h1 h2 => p15.other h1 (p13.other h1 (by rw [q11]; exact n6 y c h2)), by rw [p15.2.2, p13.2.2, q11]; exact z8⟩, fun fs hl => c16.trans (X15.returnOut hexec hret (hb hbytes d57) hl)⟩
end New4
namespace New1
def yN : MethodName := ⟨"java/lang/String", "<init>", "([C)V"⟩
abbrev yB : ByteArray := jdk_42_method_3_code
theorem d0 : decode yB 0 = .ok (.aload_n 0, 1) := by decide +kernel
theorem d1 : decode yB 1 = .ok (.aload_n 1, 1) := by decide +kernel
theorem d2 : decode yB 2 = .ok (.iconst 0, 1) := by decide +kernel
theorem d3 : decode yB 3 = .ok (.aload_n 1, 1) := by decide +kernel
theorem d4 : decode yB 4 = .ok (.arraylength, 1) := by decide +kernel
theorem d5 : decode yB 5 = .ok (.aconst_null, 1) := by decide +kernel
theorem d6 : decode yB 6 = .ok (.invokespecial 27, 3) := by decide +kernel
theorem d9 : decode yB 9 = .ok (.return_, 1) := by decide +kernel
def site : List Cond := [New4.tab] ++ initW "java/lang/String" 27 New4.yN
def tab : Cond := tabOf yN yB 2 none site
def P (a : Addr) (D : Cell) (fV fC : Field) (b : Addr) (A : Cell) (z : Int32) (args : Array Value) (s : State) : Prop := args = #[.ref a, .ref b] ∧ Blank "java/lang/String" a D s ∧ Found "java/lang/String" "value" "[B" fV s ∧ Found "java/lang/String" "coder" "B" fC s ∧ Ch b A s ∧ StaticIs s "java/lang/String" "COMPACT_STRINGS" "Z" (.int z) ∧ ¬ z = 0 ∧ 0 < A.slots.size ∧ A.slots.size ≤ 536870912 ∧ ∀ i, i < A.slots.size → ¬ 255 < cv A i
def E (a : Addr) (D : Cell) (fV fC : Field) (A : Cell) (r : Option Value) (s u : State) : Prop := Got a D fV fC A 0 A.slots.size r s u
/-- new String(chars), not empty, no char above 255: a Latin-1 String of their low bytes -/
theorem law (l : Launch) (a : Addr) (D : Cell) (fV fC : Field) (b : Addr) (A : Cell) (z : Int32) : Law l yN 2 1 3 52 yB 2 none site (P a D fV fC b A z) (E a D fV fC A) [⟨a, fC.slot⟩, ⟨a, fV.slot⟩] 1 A.slots.size := by
  refine Law.of_walk (plainFor_of_name (by decide +kernel)) (by decide +kernel) (by decide +kernel) (by decide) (fun _ _ h => by rw [h.1]; rfl) (fun _ U U' hal hh h => ⟨h.1, h.2.1.mv hal hh, h.2.2.1.al hal, h.2.2.2.1.al hal, h.2.2.2.2.1.mv hal hh, h.2.2.2.2.2.1.there hal hh, h.2.2.2.2.2.2⟩) (fun r U U' V V' h1 hal h2 h => Got.mv r U U' V V' h1 hal h2 h) ?_
  intro p e s m args below meth c s₁ X0 hexec hbytes hml hret hlk hnm hown hh0 W hP
  obtain ⟨rfl, hB, f1, f2, hA, s1, hz, l0, l2, hp⟩ := hP
  have c1 : Steps p.tables e below (s₁.setTop (entryFrame m #[.ref a, .ref b] 2)) (s₁.setTop (mkF m 0 #[.val (.ref a), .val (.ref b)] [])) := entry rfl
  have c2 : Steps p.tables e below (s₁.setTop (entryFrame m #[.ref a, .ref b] 2)) (s₁.setTop (mkF m 6 #[.val (.ref a), .val (.ref b)] [.null, .int (Int32.ofNat A.slots.size), .int 0, .ref b, .ref a])) := c1.trans (by
    refine XS.aloadN X0.here hexec rfl (hb hbytes d0) rfl rfl ?_
    refine XS.aloadN X0.here hexec rfl (hb hbytes d1) rfl rfl ?_
    refine iconstV X0.here hexec rfl 0 (hb hbytes d2) (by decide) ?_
    refine XS.aloadN X0.here hexec rfl (hb hbytes d3) rfl rfl ?_
    refine X0.alen hexec (hA.1.mv X0.warmed.alike hh0) rfl rfl (hb hbytes d4) ?_
    refine XS.aconstNull X0.here hexec rfl (hb hbytes d5) ?_
    exact Steps.refl _)
  obtain ⟨v3, T3, X3, E3, g3⟩ := X0.callN hexec (New4.law l a D fV fC b A z 0 A.slots.size) rfl hown (wks W (initW "java/lang/String" 27 New4.yN)) (W New4.tab (by simp only [site, List.mem_cons, List.mem_append, true_or, or_true])) (W := 0) (Nat.le_of_ble_eq_true rfl) (Nat.le_of_ble_eq_true rfl) (Nat.le_refl _) (by show 0 + A.slots.size ≤ A.slots.size; omega) (g := (mkF m 6 #[.val (.ref a), .val (.ref b)] [.null, .int (Int32.ofNat A.slots.size), .int (Int32.ofNat 0), .ref b, .ref a])) rfl (by rw [hml]; rfl) c2 (argsL := [.ref b, .int (Int32.ofNat 0), .int (Int32.ofNat A.slots.size), .null]) (rest := []) rfl rfl (by show 2 * 0 + 0 ≤ _; decide) (hb hbytes d6) (⟨rfl, hB.mv X0.warmed.alike hh0, f1.al X0.warmed.alike, f2.al X0.warmed.alike, hA.mv X0.warmed.alike hh0, s1.there X0.warmed.alike hh0, hz, l0, by omega, l2, fun i hi => by rw [Nat.zero_add]; exact hp i hi⟩)
  have e0 := Got.mv _ s₁ s _ _ hh0.symm (Vm.Alike.refl _) rfl E3
  obtain rfl := e0.1
  have c4 : Steps p.tables e below (s₁.setTop (entryFrame m #[.ref a, .ref b] 2)) (T3.setTop (mkF m 9 #[.val (.ref a), .val (.ref b)] [])) := g3
  exact ⟨T3, none, _, _, _, X3, by simp, rfl, by omega, (fun _ => rfl), e0, fun fs hl => c4.trans (X3.returnOut hexec hret (hb hbytes d9) hl)⟩
theorem pays {l : Launch} {R : Room} {p : Program} {e : Env} {below : List Frame} {s : State} {sargs : Array Value} {len W : Nat} (a : Addr) (D : Cell) (fV fC : Field) (b : Addr) (A : Cell) (z : Int32) (htab : tab.before sargs s = true) (hfr : 4 ≤ R.frames) (hlo : W + 65 ≤ R.locals) :
    Back l R p e below s sargs yN len W (fun A₁ a₁ => A₁.cells + 1 ≤ R.cells ∧ A₁.slots + A.slots.size ≤ R.slots ∧ P a D fV fC b A z a₁ A₁.U) (fun A₁ _ v₁ B₁ => E a D fV fC A v₁ A₁.U B₁.U ∧ B₁.locs = A₁.locs ++ [⟨a, fC.slot⟩, ⟨a, fV.slot⟩] ∧ B₁.cells = A₁.cells + 1 ∧ B₁.slots = A₁.slots + A.slots.size) :=
  (law l a D fV fC b A z).pays htab hfr (by omega)
end New1
end StrChars
namespace StrChars.Road
open Jvm Sem ClassFile Op Lib Jvm.Stand Jvm.Free Jvm.Free.XT
open Jvm.Lib.Cold (StaticIs)
abbrev ST : String := "java/lang/String"
/-- every table word that New1's law asks, flat -/
abbrev words : List Jvm.Cond := [.code New1.yN New1.yB 2 none, .initialized ST, .methodLink ST 27 New4.yN, .instanceMethod New4.yN,
  .code New4.yN New4.yB 6 none, .fieldLink ST 38 ST "COMPACT_STRINGS" "Z", .laysFinal ST ST "value" "[B", .fieldLink ST 9 ST "value" "[B", .laysFinal ST ST "coder" "B", .fieldLink ST 15 ST "coder" "B",
  .methodLink ST 1 Lib.objectInit, .instanceMethod Lib.objectInit, .code Lib.objectInit ⟨#[0xb1]⟩ 1 none, .methodLink ST 177 Cmp3.yN, .static Cmp3.yN, .methodLink ST 47 CodL.yN, .static CodL.yN,
  .code Cmp3.yN Cmp3.yB 6 (some (.array .byte)), .initialized U16, .arrayClass .byte, .methodLink U16 115 Cmp5.yN, .static Cmp5.yN, .code Cmp5.yN Cmp5.yB 7 (some .int), .code CodL.yN CodL.yB 2 (some .byte)]
theorem tab_of {a : Array Value} {s : State} (h : ∀ w ∈ words, w.before a s = true) : New1.tab.before a s = true := by
  have h5 : Cmp5.tab.before a s = true := unparts (wk h (.code Cmp5.yN Cmp5.yB 7 (some .int))) (wks h (.initialized Cmp5.yN.cls :: Cmp5.site))
  have hc : CodL.tab.before a s = true := unparts (wk h (.code CodL.yN CodL.yB 2 (some .byte))) (wks h (.initialized CodL.yN.cls :: CodL.site))
  have q5 : ∀ w ∈ Cmp5.tab :: words, w.before a s = true := fun w hw => (List.mem_cons.mp hw).elim (fun e => e ▸ h5) (h w)
  have h3 : Cmp3.tab.before a s = true := unparts (wk q5 (.code Cmp3.yN Cmp3.yB 6 (some (.array .byte)))) (wks q5 (.initialized Cmp3.yN.cls :: Cmp3.site))
  have q3 : ∀ w ∈ Cmp3.tab :: CodL.tab :: words, w.before a s = true := fun w hw => (List.mem_cons.mp hw).elim (fun e => e ▸ h3) fun hw => (List.mem_cons.mp hw).elim (fun e => e ▸ hc) (h w)
  have h4 : New4.tab.before a s = true := unparts (wk q3 (.code New4.yN New4.yB 6 none)) (wks q3 (.initialized New4.yN.cls :: New4.site))
  have q4 : ∀ w ∈ New4.tab :: words, w.before a s = true := fun w hw => (List.mem_cons.mp hw).elim (fun e => e ▸ h4) (h w)
  exact unparts (wk q4 (.code New1.yN New1.yB 2 none)) (wks q4 (.initialized New1.yN.cls :: New1.site))
/-- the words ride from the start Z to the walk's own state -/
theorem moved {Z s : State} {a0 args : Array Value} (hZ : Z.Warmed39 s.vm) (hw : ∀ d ∈ words, d.before a0 Z = true) : ∀ d ∈ words, d.before args s = true := fun d hd => by
  have q := hw d hd
  have t : ∀ d ∈ words, d = .arrayClass .byte ∨ (d.onTables && d.keepsFace) = true := by decide +kernel
  rcases t d hd with rfl | t
  · exact RoadKit.mvA hZ q
  · exact RoadKit.mv hZ q t
/-- WHAT COMES BACK, over the tables of the start Z: h the heap at the call, h' behind it -/
def Q (Z : State) (x : Addr) (A : Cell) (h : Heap) (v : Option Value) (h' : Heap) (L : List Loc) : Prop := v = none ∧ (∀ y ∈ L, y.base = x) ∧ RoadKit.Keep h h' [x] ∧ h'.size = h.size + 1 ∧ RoadKit.Exa Z h' x ST ∧ RoadKit.Fld Z h' x ST "value" "[B" (.ref h.size) ∧ RoadKit.Fld Z h' x ST "coder" "B" (.int 0) ∧
  (∃ V : Cell, RoadKit.Arr Z h' h.size V .byte ∧ V.vm = .none ∧ Z.vm.findClass "[B" = some V.cls ∧ V.slots.size = A.slots.size ∧ ∀ j, j < A.slots.size → V.slots[j]? = some (.int (lo8 (cv A j)))) ∧
  ∀ (O n d : String) (w : Value), RoadKit.Fld Z h x O n d w → RoadKit.slotOf Z O n d ≠ RoadKit.slotOf Z ST "value" "[B" → RoadKit.slotOf Z O n d ≠ RoadKit.slotOf Z ST "coder" "B" → RoadKit.Fld Z h' x O n d w
/-- **new String(chars) AT A CALL, IN THE ROAD'S FORM**: for specialBack behind newO: x the fresh String, b the char[] with the cell A -/
theorem back {p : Program} {l : Launch} {e : Env} {R : Room} {s : State} {args : Array Value} {below : List Frame} {len W : Nat} {Z : State} {a0 : Array Value} {h : Heap} (hZ : Z.Warmed39 s.vm) (hw : ∀ d ∈ words, d.before a0 Z = true) {kI : Nat} (wi : (Jvm.Cond.instantiable ST kI).before a0 Z = true)
    {x b : Addr} {A : Cell} {z : Int32} {v0 c0 : Value} (E : RoadKit.Exa Z h x ST) (V : RoadKit.Fld Z h x ST "value" "[B" v0) (C : RoadKit.Fld Z h x ST "coder" "B" c0) (K : RoadKit.Arr Z h b A .char) (hty : Typed .char A) (S : RoadKit.Sta Z h ST "COMPACT_STRINGS" "Z" (.int z)) (hz : ¬ z = 0)
    (l0 : 0 < A.slots.size) (l2 : A.slots.size ≤ 536870912) (hp : ∀ i, i < A.slots.size → ¬ 255 < cv A i) (hfr : 4 ≤ R.frames) (hlo : W + 65 ≤ R.locals) :
    Back l R p e below s args New1.yN len W (fun P a => a = #[.ref x, .ref b] ∧ P.U.heap = h ∧ P.cells + 1 ≤ R.cells ∧ P.slots + A.slots.size ≤ R.slots)
      (fun P _ v B => ∃ L, Q Z x A h v B.U.heap L ∧ B.locs = P.locs ++ L ∧ B.cells = P.cells + 1 ∧ B.slots = P.slots + A.slots.size) := by
  intro m meth c P g ig mk a X hg hsize hdg hW hn hp'
  obtain ⟨rfl, rfl, r1, r2⟩ := hp'
  have al : Z.vm.Alike P.U.vm := hZ.alike.trans X.warmed.alike
  obtain ⟨D, cfV, kV, iV, fV, hD, gV, stV, knV, obV, asV, slV⟩ := id V
  obtain ⟨D', cfC, kC, iC, fC, hD', gC, stC, -, -, asC, slC⟩ := id C
  cases hD.symm.trans hD'
  obtain ⟨D2, kD, e1, e2, e3, e4, e5⟩ := id E
  cases hD.symm.trans e1
  obtain ⟨c2, k2, i1, i2, i3, -⟩ := Cond.instantiable_spec wi
  cases e2.symm.trans i1
  cases e3.symm.trans i2
  obtain ⟨kU, u1, u2⟩ := al.2.2 _ _ e3
  have hB : Blank ST x D P.U := ⟨hD, ⟨knV, fun q hq => by rw [hq] at obV; cases obV⟩, by rw [al.findClass]; exact e2, kU, u1, by rw [u2]; exact i3, by rw [u2]; exact e5 i3⟩
  have F1 : Found ST "value" "[B" fV P.U := ⟨SBG.found_only al ⟨cfV, kV, iV, gV⟩, stV⟩
  have F2 : Found ST "coder" "B" fC P.U := ⟨SBG.found_only al ⟨cfC, kC, iC, gC⟩, stC⟩
  have hA : Ch b A P.U := ⟨⟨K.1, State.isArrayOf_alike al K.2.1, K.2.2, by omega⟩, hty⟩
  have hS : StaticIs P.U ST "COMPACT_STRINGS" "Z" (.int z) := by
    obtain ⟨cfS, iS, kS, fS, st, cS, t1, t2, t3, t4, t5, t6, t7⟩ := S
    exact StaticIs.there (s := { Z with heap := P.U.heap }) ⟨cfS, iS, kS, fS, st, cS, t1, t2, t3, t4, t5, (fun q => by rw [q] at t6; cases t6), t7⟩ al rfl
  obtain ⟨v, B, X', ⟨⟨hv, E', V', q1, q2, q3, q4, q5, q6, q7, q8, q9, q10, q11⟩, hl, hc, hs⟩, st⟩ := New1.pays x D fV fC b A z (tab_of (moved hZ hw)) hfr hlo m meth c P g ig mk _ X hg hsize hdg hW hn ⟨r1, r2, rfl, hB, F1, F2, hA, hS, hz, l0, l2, hp⟩
  have al' : Z.vm.Alike B.U.vm := hZ.alike.trans X'.warmed.alike
  have hsz : E'.slots.size = D.slots.size := by
    obtain ⟨-, -, -, kB, w1, w2, w3⟩ := q1
    obtain ⟨kB', y1, y2⟩ := al'.2.2 _ _ e3
    rw [q2.2.1] at w1
    cases w1.symm.trans y1
    rw [w3, e5 i3, y2]
  refine ⟨v, B, X', ⟨_, ⟨hv, ?_, ⟨by omega, fun y cy hy hn' => q10 y cy (by simpa using hn') hy, fun y cy hy => ?_⟩, q11, ⟨E', _, q1.1, by rw [q2.2.1]; exact e2, by rw [q2.2.1]; exact e3, by rw [q2.1]; exact obV, fun _ => by rw [hsz]; exact e5 i3⟩,
    ⟨E', cfV, kV, iV, fV, q1.1, gV, stV, by rw [q2.1]; exact knV, by rw [q2.1]; exact obV, by rw [q2.2.1]; exact asV, q3⟩, ⟨E', cfC, kC, iC, fC, q1.1, gC, stC, by rw [q2.1]; exact knV, by rw [q2.1]; exact obV, by rw [q2.2.1]; exact asC, q4⟩,
    ⟨V', ⟨q5.1, State.isArrayOf_alike al'.symm q5.2.1, q5.2.2.1⟩, q6, by rw [← al'.findClass]; exact q7, q8, fun j hj => by have := q9 j hj; rwa [Nat.zero_add] at this⟩, fun O n d w F n1 n2 => ?_⟩, hl, hc, hs⟩, st⟩
  · intro y hy
    simp only [List.mem_cons, List.not_mem_nil, or_false] at hy
    rcases hy with rfl | rfl <;> rfl
  · by_cases q : y = x
    · subst q
      cases hD.symm.trans hy
      exact ⟨E', q1.1, q2.2.1, q2.1, hsz⟩
    · exact ⟨cy, q10 y cy q hy, rfl, rfl, rfl⟩
  · obtain ⟨D3, cf, k, i, f, g1, g2, g3, g4, g5, g6, g7⟩ := F
    cases hD.symm.trans g1
    simp only [RoadKit.slotOf, g2, gV, gC, Option.map_some, Option.getD_some] at n1 n2
    exact ⟨E', cf, k, i, f, q1.1, g2, g3, by rw [q2.1]; exact g4, by rw [q2.1]; exact g5, by rw [q2.2.1]; exact g6, by rw [q2.2.2 f.slot (by simp [n1, n2])]; exact g7⟩
end StrChars.Road
namespace StrChars.Road
open Jvm Sem ClassFile Op Lib Jvm.Stand Jvm.Free Jvm.Free.XT
/-- WHAT COMES BACK, the byte[] as a list of values -/
def QA (Z : State) (x : Addr) (zn : Int32) (cs : List Int32) (h : Heap) (v : Option Value) (h' : Heap) (L : List Loc) : Prop := v = none ∧ (∀ y ∈ L, y.base = x) ∧ RoadKit.Keep h h' [x] ∧ h'.size = h.size + 1 ∧ RoadKit.Exa Z h' x ST ∧ RoadKit.Fld Z h' x ST "value" "[B" (.ref h.size) ∧ RoadKit.Fld Z h' x ST "coder" "B" (.int 0) ∧
  (∃ kb, Z.vm.findClass "[B" = some kb ∧ RoadKit.Arv Z h' h.size kb .byte zn (cs.map fun c => .int (lo8 c)) (.int 0)) ∧
  ∀ (O n d : String) (w : Value), RoadKit.Fld Z h x O n d w → RoadKit.slotOf Z O n d ≠ RoadKit.slotOf Z ST "value" "[B" → RoadKit.slotOf Z O n d ≠ RoadKit.slotOf Z ST "coder" "B" → RoadKit.Fld Z h' x O n d w
/-- **new String(chars) AT A CALL, THE ARRAYS AS LISTS**: the char[] at b holds cs, not empty, no char above 255 -/
theorem backArv {p : Program} {l : Launch} {e : Env} {R : Room} {s : State} {args : Array Value} {below : List Frame} {len W : Nat} {Z : State} {a0 : Array Value} {h : Heap} (hZ : Z.Warmed39 s.vm) (hw : ∀ d ∈ words, d.before a0 Z = true) {kI : Nat} (wi : (Jvm.Cond.instantiable ST kI).before a0 Z = true)
    {x b : Addr} {k : ClassId} {zn z : Int32} {cs : List Int32} {dv v0 c0 : Value} (E : RoadKit.Exa Z h x ST) (V : RoadKit.Fld Z h x ST "value" "[B" v0) (C : RoadKit.Fld Z h x ST "coder" "B" c0) (K : RoadKit.Arv Z h b k .char zn (cs.map Value.int) dv) (S : RoadKit.Sta Z h ST "COMPACT_STRINGS" "Z" (.int z)) (hz : ¬ z = 0)
    (hlen : zn.toNatClampNeg = cs.length) (h0 : 0 < cs.length) (hbig : cs.length ≤ 536870912) (hall : ∀ c ∈ cs, ¬ 255 < c) (hfr : 4 ≤ R.frames) (hlo : W + 65 ≤ R.locals) :
    Back l R p e below s args New1.yN len W (fun P a => a = #[.ref x, .ref b] ∧ P.U.heap = h ∧ P.cells + 1 ≤ R.cells ∧ P.slots + cs.length ≤ R.slots)
      (fun P _ v B => ∃ L, QA Z x zn cs h v B.U.heap L ∧ B.locs = P.locs ++ L ∧ B.cells = P.cells + 1 ∧ B.slots = P.slots + cs.length) := by
  obtain ⟨A, K1, K2, K3, K4, K5, K6⟩ := K
  have e : A.slots.size = cs.length := K3.trans hlen
  have hat : ∀ (i : Nat) (hi : i < cs.length), A.slots[i]? = some (.int cs[i]) := fun i hi => by rw [K5 i (by omega)]; simp [List.getD_eq_getElem?_getD, hi]
  have hcv : ∀ (i : Nat) (hi : i < cs.length), cv A i = cs[i] := fun i hi => by unfold cv; rw [hat i hi]
  have hty : Typed .char A := fun i v hv => by
    have hi : i < A.slots.size := (Array.getElem?_eq_some_iff.mp hv).1
    have q := K5 i hi
    rw [hv] at q
    rw [Option.some.inj q]
    exact K6 i hi
  refine Back.mono (back hZ hw wi E V C K1 hty S hz (by omega) (by omega) (fun i hi => by rw [hcv i (by omega)]; exact hall _ (List.getElem_mem _)) hfr hlo) (fun P a hp => ⟨hp.1, hp.2.1, hp.2.2.1, by rw [e]; exact hp.2.2.2⟩) (fun P a v B hp hq => ?_)
  obtain ⟨L, ⟨q1, q2, q3, q4, q5, q6, q7, ⟨V', v1, v2, v3, v4, v5⟩, q9⟩, hl, hc, hs⟩ := hq
  refine ⟨L, ⟨q1, q2, q3, q4, q5, q6, q7, ⟨V'.cls, v3, V', v1, rfl, by rw [v4, e, hlen], K4, fun i hi => ?_, fun i hi => ?_⟩, q9⟩, hl, hc, by rw [hs, e]⟩
  · have hi' : i < cs.length := by omega
    rw [v5 i (by omega), hcv i hi']; simp [List.getD_eq_getElem?_getD, hi']
  · have hi' : i < cs.length := by omega
    simp only [List.getD_eq_getElem?_getD, List.getElem?_map, List.getElem?_eq_getElem hi', Option.map_some, Option.getD_some]
    exact fits_lo8 _
end StrChars.Road
namespace StrChars.Road
open Jvm Sem ClassFile Op Lib Jvm.Stand Jvm.Free Jvm.Free.XT
/-- WHAT COMES BACK, in the writer's own shape -/
def QV (Z : State) (x : Addr) (N : Int32) (bs : List Int32) (h : Heap) (n0 : Nat) (v : Option Value) (h' : Heap) (L : List Loc) : Prop := v = none ∧ RoadKit.Fr n0 L ∧ RoadKit.Keep h h' [x] ∧ RoadKit.Exa Z h' x ST ∧ RoadKit.Fld Z h' x ST "coder" "B" (.int 0) ∧
  ∃ (t : Addr) (kb : ClassId), n0 ≤ t ∧ h.size ≤ t ∧ ¬ t = x ∧ RoadKit.Fld Z h' x ST "value" "[B" (.ref t) ∧ RoadKit.Arv Z h' t kb .byte N (bs.map Value.int) (.int 0)
/-- **new String(chars) AT A CALL, FOR THE WRITER**: a char[] of n known ints, each 0 to 255 -/
theorem backV {p : Program} {l : Launch} {e : Env} {R : Room} {s : State} {args : Array Value} {below : List Frame} {len W : Nat} {Z : State} {a0 : Array Value} {h : Heap} (hZ : Z.Warmed39 s.vm) (hw : ∀ d ∈ words, d.before a0 Z = true) {kI : Nat} (wi : (Jvm.Cond.instantiable ST kI).before a0 Z = true)
    {x b : Addr} {kC : ClassId} {cs bs : List Int32} {d v0 c0 : Value} {z N : Int32} {n n0 : Nat} (hx0 : n0 ≤ x) (hh0 : n0 ≤ h.size) (E : RoadKit.Exa Z h x ST) (V : RoadKit.Fld Z h x ST "value" "[B" v0) (C : RoadKit.Fld Z h x ST "coder" "B" c0) (K : RoadKit.Arv Z h b kC .char N (cs.map Value.int) d) (S : RoadKit.Sta Z h ST "COMPACT_STRINGS" "Z" (.int z)) (hz : ¬ z = 0)
    (hn : cs.length = n) (hN : N = Int32.ofNat n) (l0 : 0 < n) (l2 : n ≤ 4000) (hp : ∀ c ∈ cs, ¬ c < 0 ∧ ¬ (255 : Int32) < c) (hb : bs = cs.map (fun c => c.toInt8.toInt32)) (hfr : 4 ≤ R.frames) (hlo : W + 65 ≤ R.locals) :
    Back l R p e below s args (⟨"java/lang/String", "<init>", "([C)V"⟩ : MethodName) len W (fun P a => a = #[.ref x, .ref b] ∧ P.U.heap = h ∧ P.cells + 1 ≤ R.cells ∧ P.slots + n ≤ R.slots)
      (fun P _ v B => ∃ L, QV Z x N bs h n0 v B.U.heap L ∧ B.locs = P.locs ++ L ∧ B.cells = P.cells + 1 ∧ B.slots = P.slots + n) := by
  subst hn hN hb
  refine Back.mono (backArv hZ hw wi E V C K S hz (n32 (by omega)) l0 (by omega) (fun c hc => (hp c hc).2) hfr hlo) (fun P a hp => hp) (fun P a v B hp hq => ?_)
  obtain ⟨L, ⟨q1, q2, q3, q4, q5, q6, q7, ⟨kb, v1, v2⟩, q9⟩, hl, hc, hs⟩ := hq
  exact ⟨L, ⟨q1, fun y hy => by rw [q2 y hy]; exact hx0, q3, q5, q7, h.size, kb, hh0, Nat.le_refl _, Nat.ne_of_gt E.lt, q6, by rw [List.map_map]; exact v2⟩, hl, hc, hs⟩
end StrChars.Road
end Jvm.Pilot.@@N@@

namespace Jvm.RoadKit
open Sem ClassFile Op Lib Jvm.Stand Jvm.Free Jvm.LawKit
section Own
variable {p : Program} {l : Launch} {e : Env} {R : Room} {s : State} {m : MethodId} {args : Array Value} {below : List Frame} {meth : Method} {c : Code} {T : State} {locs : List Loc} {cells slots : Nat} {Z : State} {h h' : Heap} {a b : Addr} {ty : FieldType} {vs : List Value} {cl : Cell} {sl : Nat} {v : Value} {ws : List Addr}
theorem mw {α : Type} {x : α} {L : List α} (i : Nat) (q : L[i]? = some x) : x ∈ L := List.mem_of_getElem? q
/-- from A the body comes to its end, and Q holds there -/
def Goal (p : Program) (e : Env) (below : List Frame) (s : State) (Q : Option Value → Heap → List Loc → Prop) (k n : Nat) (A : State) : Prop :=
  ∃ s₂ o, Steps p.tables e below A s₂ ∧ s₂.status = .running ∧ Ended s₂ below o ∧ ∃ v L, o = .returned v ∧ Q v s₂.heap L ∧ FrameEnd s o s₂ L k n
variable {Q : Option Value → Heap → List Loc → Prop} {k n : Nat} {A B : State}
theorem Goal.to (f : ∀ t, Steps p.tables e below B t → Steps p.tables e below A t) (g : Goal p e below s Q k n B) : Goal p e below s Q k n A := by
  obtain ⟨s₂, o, h1, r⟩ := g
  exact ⟨s₂, o, f _ h1, r⟩
theorem Goal.tr (f : Steps p.tables e below A B) (g : Goal p e below s Q k n B) : Goal p e below s Q k n A := Goal.to (fun t q => f.trans q) g
theorem Goal.retV (X : Stand p l e R s m args below meth c T locs cells slots) (hx : p.tables.exec = Jvm.exec) {pc : Nat} {Ls : Array Slot} {w : Value} {t : FieldType} {i : Instr} {rest : List Value} (hret : meth.sig.returnType = some t) (hn : narrow t w = w)
    (hi : (i = .ireturn ∧ (t = .int ∨ t = .boolean ∨ t = .byte ∨ t = .char ∨ t = .short) ∧ ∃ z, w = .int z) ∨ (i = .lreturn ∧ t = .long ∧ ∃ z, w = .long z) ∨ (i = .dreturn ∧ t = .double ∧ ∃ z, w = .double z) ∨ (i = .freturn ∧ t = .float ∧ ∃ z, w = .float z) ∨ (i = .areturn ∧ t.isReference = true ∧ w.isRef = true))
    (hd : decode c.code pc = .ok (i, 1)) (hlk : meth.locks = false) (eT : T.heap = h) (hq : Q (some w) h locs) (hc : cells ≤ k) (hs : slots ≤ n) : Goal p e below s Q k n (T.setTop (mkF m pc Ls (w :: rest))) := by
  obtain ⟨fs, hr, hrun, hended, hW, hsame⟩ := X.leave (v := some w) (fun h => by rw [hret] at h; cases h) hlk
  refine ⟨_, _, retOut X hx hret hn hi hd hr, hrun, hended, _, _, rfl, ?_, ⟨_, rfl⟩, hW, hsame.mono hc hs⟩
  show Q (some w) T.heap locs
  rw [eT]; exact hq
theorem Goal.retN (X : Stand p l e R s m args below meth c T locs cells slots) (hx : p.tables.exec = Jvm.exec) {pc : Nat} {Ls : Array Slot} (hret : meth.sig.returnType = none)
    (hd : decode c.code pc = .ok (.return_, 1)) (hlk : meth.locks = false) (eT : T.heap = h) (hq : Q none h locs) (hc : cells ≤ k) (hs : slots ≤ n) : Goal p e below s Q k n (T.setTop (mkF m pc Ls [])) := by
  obtain ⟨fs, hr, hrun, hended, hW, hsame⟩ := X.leave (v := none) (fun _ => rfl) hlk
  refine ⟨_, _, X.returnOut hx hret hd hr, hrun, hended, _, _, rfl, ?_, ⟨_, rfl⟩, hW, hsame.mono hc hs⟩
  show Q none T.heap locs
  rw [eT]; exact hq
/-- the same, with the wide end: texts may have been interned -/
def GoalW (p : Program) (e : Env) (below : List Frame) (s : State) (Q : Option Value → Heap → List Loc → Prop) (k n : Nat) (A : State) : Prop :=
  ∃ s₂ o, Steps p.tables e below A s₂ ∧ s₂.status = .running ∧ Ended s₂ below o ∧ ∃ v L, o = .returned v ∧ Q v s₂.heap L ∧ ReturnedEndW s o s₂ L k n
theorem GoalW.to (f : ∀ t, Steps p.tables e below B t → Steps p.tables e below A t) (g : GoalW p e below s Q k n B) : GoalW p e below s Q k n A := by
  obtain ⟨s₂, o, h1, r⟩ := g
  exact ⟨s₂, o, f _ h1, r⟩
theorem GoalW.tr (f : Steps p.tables e below A B) (g : GoalW p e below s Q k n B) : GoalW p e below s Q k n A := GoalW.to (fun t q => f.trans q) g
theorem GoalW.retV {vm0 : Vm} (X : Stand p l e R (s.setVm vm0) m args below meth c T locs cells slots) {k0 : Nat} (hS : s.Since vm0 k0) (hx : p.tables.exec = Jvm.exec) {pc : Nat} {Ls : Array Slot} {w : Value} {t : FieldType} {i : Instr} {rest : List Value} (hret : meth.sig.returnType = some t) (hn : narrow t w = w)
    (hi : (i = .ireturn ∧ (t = .int ∨ t = .boolean ∨ t = .byte ∨ t = .char ∨ t = .short) ∧ ∃ z, w = .int z) ∨ (i = .lreturn ∧ t = .long ∧ ∃ z, w = .long z) ∨ (i = .dreturn ∧ t = .double ∧ ∃ z, w = .double z) ∨ (i = .freturn ∧ t = .float ∧ ∃ z, w = .float z) ∨ (i = .areturn ∧ t.isReference = true ∧ w.isRef = true))
    (hd : decode c.code pc = .ok (i, 1)) (hlk : meth.locks = false) (eT : T.heap = h) (hk : k0 ≤ h.size) (hq : Q (some w) h locs) (hc : cells ≤ k) (hs : slots ≤ n) : GoalW p e below s Q k n (T.setTop (mkF m pc Ls (w :: rest))) := by
  obtain ⟨fs, hr, hrun, hended, e1, e2, e3, e4⟩ := X.leaveW hS (by rw [eT]; exact hk) (v := some w) (fun h => by rw [hret] at h; cases h) hlk
  refine ⟨_, _, retOut X hx hret hn hi hd hr, hrun, hended, _, _, rfl, ?_, e1, e2, e3, e4.mono hc hs⟩
  show Q (some w) T.heap locs
  rw [eT]; exact hq
theorem nar01 {z : Int32} (q : z = 0 ∨ z = 1) : narrow .boolean (.int z) = .int z := by rcases q with rfl | rfl <;> rfl
theorem catV {r : Value} (q : r.isRef = true) : r.category = 1 := by rcases ref_cases q with rfl | ⟨o, rfl⟩ <;> rfl
theorem catR {o : Addr} : (Value.ref o).category = 1 := rfl
theorem catI {z : Int32} : (Value.int z).category = 1 := rfl
theorem catJ {z : Int64} : (Value.long z).category = 2 := rfl
theorem catN : Value.null.category = 1 := rfl
theorem narV {r : Value} {C : String} (q : r.isRef = true) : narrow (.object C) r = r := by rcases ref_cases q with rfl | ⟨o, rfl⟩ <;> rfl
theorem fitV {r : Value} {C : String} (q : r.isRef = true) : fits (.object C) r = true := by rcases ref_cases q with rfl | ⟨o, rfl⟩ <;> rfl
theorem selP {a0 : Array Value} {y : MethodName} {n : Nat} (hZ : Z.Warmed39 s.vm) (hins : (Cond.instantiable y.cls n).before a0 Z = true) (hp : (Cond.privateMethod y).before a0 Z = true) (hi : (Cond.instanceMethod y).before a0 Z = true) (hy : y.cls ≠ "java/lang/invoke/MethodHandle" ∧ y.cls ≠ "java/lang/invoke/VarHandle") : (Cond.selects y.cls y y).before args s = true := by
  obtain ⟨c, k, hc, hk, -, hniab, -, -⟩ := Cond.instantiable_spec (mv (args := args) hZ hins)
  exact selects_self_of_private hc hk (Bool.or_eq_false_iff.mp hniab).1 (Cond.privateMethod_at (mvP (args := args) hZ hp)) (mv hZ hi) hy
theorem Fr.eqv {k : Nat} {L L' : List Loc} (q : L = L') (N : Fr k L') : Fr k L := fun y hy => N y (q ▸ hy)
theorem Fld.cast {C n d : String} {w : Value} (F : Fld Z h a C n d v) (q : v = w) : Fld Z h a C n d w := q ▸ F
/-- an array of the heap by the whole list of what it holds -/
def Ary (Z : State) (h : Heap) (a : Addr) (ty : FieldType) (vs : List Value) : Prop := ∃ cl : Cell, Arr Z h a cl ty ∧ cl.slots.toList = vs
theorem Ary.cast {ws : List Value} (F : Ary Z h a ty vs) (q : vs = ws) : Ary Z h a ty ws := q ▸ F
theorem Ary.lt (F : Ary Z h a ty vs) : a < h.size := by obtain ⟨cl, A, -⟩ := F; exact A.lt
theorem Ary.ext (F : Ary Z h a ty vs) (E : Ext h h') : Ary Z h' a ty vs := by obtain ⟨cl, A, r⟩ := F; exact ⟨cl, A.ext E, r⟩
theorem Ary.other (F : Ary Z h a ty vs) (W : Wr h h' b sl v) (q : a ≠ b) : Ary Z h' a ty vs := by obtain ⟨cl, A, r⟩ := F; exact ⟨cl, A.other W q, r⟩
theorem Ary.keep (F : Ary Z h a ty vs) (K : Keep h h' ws) (q : a ∉ ws) : Ary Z h' a ty vs := by obtain ⟨cl, A, r⟩ := F; exact ⟨cl, ⟨K.2.1 a cl A.1 q, A.2⟩, r⟩
theorem Ary.new {k : ClassId} {z : Int32} {N : Nat} (A : Arr Z h a (newA k ty z) ty) (hz : z.toNatClampNeg = N) : Ary Z h a ty (List.replicate N (defaultValue ty)) := ⟨_, A, by simp [newA, hz]⟩
theorem Ary.put {j : Nat} {N : Nat} (A : Arr Z h a cl ty) (S : cl.slots.toList = vs) (W : Wr h h' a j v) (q : j = N) : Ary Z h' a ty (vs.set N v) := ⟨_, A.same W, by subst q; simp [Cell.setSlot, S]⟩
theorem sizeA (S : cl.slots.toList = vs) : cl.slots.size = vs.length := by rw [← S]; simp
theorem inA {j : Int32} (S : cl.slots.toList = vs) (q : ¬ j < 0) (r : j.toNatClampNeg < vs.length) : ¬ (j < 0 ∨ cl.slots.size ≤ j.toNatClampNeg) := by rw [sizeA S]; intro u; rcases u with u | u; exact q u; exact absurd r (Nat.not_lt.mpr u)
theorem atA {j : Nat} (S : cl.slots.toList = vs) (q : vs[j]? = some v) : cl.slots[j]? = some v := by rw [← q, ← S]; simp
theorem lenA {z : Int32} (S : cl.slots.toList = vs) (q : vs.length.toInt32 = z) : cl.slots.size.toInt32 = z := by rw [sizeA S]; exact q
/-- a static that stood when the law began, and what it holds -/
def StaN (Z : State) (n0 : Nat) (h : Heap) (C n d : String) (v : Value) : Prop := ∃ (cf i : Nat) (k : Class) (f : Field) (st : Addr) (cell : Cell), Z.fieldFound? C n d = some (cf, k, i, f) ∧ f.isStatic = true ∧ k.init = .initialized ∧ k.statics = some st ∧ h[st]? = some cell ∧ cell.vm.isStatics = true ∧ cell.slots[f.slot]? = some v ∧ st < n0
section StaN
variable {C nm d : String} {n0 : Nat}
theorem StaN.sta (F : StaN Z n0 h C nm d v) : Sta Z h C nm d v := by obtain ⟨cf, i, k, f, st, cell, h1, h2, h3, h4, h5, h6, h7, -⟩ := F; exact ⟨cf, i, k, f, st, cell, h1, h2, h3, h4, h5, h6, h7⟩
theorem Sta.toN (F : Sta Z h C nm d v) : StaN Z h.size h C nm d v := by obtain ⟨cf, i, k, f, st, cell, h1, h2, h3, h4, h5, h6, h7⟩ := F; exact ⟨cf, i, k, f, st, cell, h1, h2, h3, h4, h5, h6, h7, (Array.getElem?_eq_some_iff.mp h5).1⟩
theorem StaN.ext (F : StaN Z n0 h C nm d v) (E : Ext h h') : StaN Z n0 h' C nm d v := by obtain ⟨cf, i, k, f, st, cell, h1, h2, h3, h4, h5, r⟩ := F; exact ⟨cf, i, k, f, st, cell, h1, h2, h3, h4, E.2 _ _ h5, r⟩
theorem StaN.keep (F : StaN Z n0 h C nm d v) (K : Keep h h' ws) (q : ∀ x ∈ ws, n0 ≤ x) : StaN Z n0 h' C nm d v := by
  obtain ⟨cf, i, k, f, st, cell, h1, h2, h3, h4, h5, h6, h7, h8⟩ := F
  exact ⟨cf, i, k, f, st, cell, h1, h2, h3, h4, K.2.1 _ _ h5 (fun z => absurd h8 (Nat.not_lt.mpr (q _ z))), h6, h7, h8⟩
theorem StaN.wr {w : Value} (F : StaN Z n0 h C nm d v) (W : Wr h h' a sl w) : StaN Z n0 h' C nm d v := by
  obtain ⟨cf, i, k, f, st, cell, h1, h2, h3, h4, h5, h6, h7, h8⟩ := F
  obtain ⟨c', e1, -, -, -, e5, -, e7⟩ := wr_at W h5
  have ne : st ≠ a := fun e => by rw [(e7 e).2.2] at h6; cases h6
  exact ⟨cf, i, k, f, st, cell, h1, h2, h3, h4, by rw [← e5 ne]; exact e1, h6, h7, h8⟩
end StaN
/-- what may lie in an array of objects of class C (of arrays of class C) -/
def OvrO (Z : State) (h : Heap) (a : Addr) (C : String) : Prop := ∃ cl : Cell, h[a]? = some cl ∧ Ovr Z cl.cls C
theorem OvrO.ext {C : String} (F : OvrO Z h a C) (E : Ext h h') : OvrO Z h' a C := by obtain ⟨cl, h1, r⟩ := F; exact ⟨cl, E.2 _ _ h1, r⟩
theorem OvrO.wr {C : String} (F : OvrO Z h a C) (W : Wr h h' b sl v) : OvrO Z h' a C := by obtain ⟨cl, h1, r⟩ := F; obtain ⟨c', e1, e2, -⟩ := wr_at W h1; exact ⟨c', e1, by rw [e2]; exact r⟩
theorem OvrO.keep {C : String} (F : OvrO Z h a C) (K : Keep h h' ws) : OvrO Z h' a C := by obtain ⟨cl, h1, r⟩ := F; obtain ⟨c', e1, e2, -⟩ := K.2.2 _ _ h1; exact ⟨c', e1, by rw [e2]; exact r⟩
theorem stoO {C : String} {y : Addr} (A : Arr Z h a cl ty) (O : OvrO Z h a C) (I : Ins Z h y C true) : Sto Z h a (.ref y) := by
  obtain ⟨c', h1, r⟩ := O
  cases A.1.symm.trans h1
  exact Sto.of A r I
def OvrB (Z : State) (h : Heap) (a : Addr) (C : String) : Prop := ∃ (cl : Cell) (t : FieldType), h[a]? = some cl ∧ OvrA Z cl.cls t C
theorem OvrB.ext {C : String} (F : OvrB Z h a C) (E : Ext h h') : OvrB Z h' a C := by obtain ⟨cl, t, h1, r⟩ := F; exact ⟨cl, t, E.2 _ _ h1, r⟩
theorem OvrB.wr {C : String} (F : OvrB Z h a C) (W : Wr h h' b sl v) : OvrB Z h' a C := by obtain ⟨cl, t, h1, r⟩ := F; obtain ⟨c', e1, e2, -⟩ := wr_at W h1; exact ⟨c', t, e1, by rw [e2]; exact r⟩
theorem OvrB.keep {C : String} (F : OvrB Z h a C) (K : Keep h h' ws) : OvrB Z h' a C := by obtain ⟨cl, t, h1, r⟩ := F; obtain ⟨c', e1, e2, -⟩ := K.2.2 _ _ h1; exact ⟨c', t, e1, by rw [e2]; exact r⟩
theorem stoB {C : String} {y : Addr} (A : Arr Z h a cl ty) (O : OvrB Z h a C) (I : Ins Z h y C true) : Sto Z h a (.ref y) := by
  obtain ⟨c', t, h1, r⟩ := O
  cases A.1.symm.trans h1
  exact Sto.ofVA A rfl r I
theorem fits_nil : ∀ w ∈ ([] : List Value), fits ty w = true := fun _ q => nomatch q
theorem fits_cons (q : fits ty v = true) (r : ∀ w ∈ vs, fits ty w = true) : ∀ w ∈ v :: vs, fits ty w = true := fun w z => (List.mem_cons.mp z).elim (fun u => u ▸ q) (r w)
theorem Ary.arv {dv : Value} {z : Int32} (F : Ary Z h a ty vs) (hz : z.toNatClampNeg = vs.length) (h0 : ¬ z < 0) (hf : ∀ w ∈ vs, fits ty w = true) : ∃ k, Arv Z h a k ty z vs dv := by
  obtain ⟨cl, A, S⟩ := F
  have sz : cl.slots.size = vs.length := sizeA S
  refine ⟨_, cl, A, rfl, sz.trans hz.symm, h0, fun i hi => ?_, fun i hi => ?_⟩
  · rw [sz] at hi
    refine atA S ?_
    rw [List.getD_eq_getElem?_getD, List.getElem?_eq_getElem hi]; rfl
  · rw [sz] at hi
    rw [List.getD_eq_getElem?_getD, List.getElem?_eq_getElem hi]
    exact hf _ (List.getElem_mem hi)
theorem Arv.ary {k : ClassId} {z : Int32} {dv : Value} (F : Arv Z h a k ty z vs dv) (hz : z.toNatClampNeg = vs.length) : Ary Z h a ty vs := by
  obtain ⟨cl, A, -, S, -, H, -⟩ := F
  refine ⟨cl, A, List.ext_getElem? fun i => ?_⟩
  by_cases hi : i < cl.slots.size
  · have q := H i hi
    have hv : i < vs.length := by omega
    rw [List.getD_eq_getElem?_getD, List.getElem?_eq_getElem hv] at q
    rw [List.getElem?_eq_getElem hv, Array.getElem?_toList]; exact q
  · rw [List.getElem?_eq_none (by simp; omega), List.getElem?_eq_none (by omega)]
theorem storeV {Ls : Array Slot} {i : Nat} {r : Value} {o : Slot} {l' : Array Slot} (q : r.isRef = true) (ho : o = .unset ∨ ∃ w, o = .val w ∧ w.category = 1) (hold : Ls[i]? = some o := by rfl) (hl : Ls.setIfInBounds i (.val r) = l' := by rfl) : storeLocals Ls i r = some l' := by
  rw [← hl]; exact XS.store1 hold ho (catV q)
end Own
end Jvm.RoadKit
namespace Jvm.Pilot.@@N@@
open Jvm Jvm.ClassFile Sem Op Lib Jvm.Free Jvm.Stand Jvm.LawKit Jvm.RoadKit Bundle Jvm.Pilot.@@N@@.Jvm.D
theorem own_if (P : Prop) [Decidable P] : (if P then (1 : Int32) else (0 : Int32)) = 0 ∨ (if P then (1 : Int32) else (0 : Int32)) = 1 := by
  by_cases h : P
  · exact Or.inr (if_pos h)
  · exact Or.inl (if_neg h)
theorem own_r3 {u n : Int32} (h : n = ((u &&& (2147483647 : Int32)) % (3 : Int32))) : n = 0 ∨ n = 1 ∨ n = 2 := by
  have q := Jvm.Kit.i32_mask u 2147483647 (k := 31) (by decide) (by decide)
  have r := Jvm.Kit.i32_rem_nonneg (x := u &&& 2147483647) (y := 3) (by omega)
  rw [← h, show (3 : Int32).toInt = 3 from rfl] at r
  have s : n.toInt = 0 ∨ n.toInt = 1 ∨ n.toInt = 2 := by omega
  rcases s with s | s | s
  · have s := Int32.toInt_inj.mp (show n.toInt = (0 : Int32).toInt from s); exact Or.inl s
  · have s := Int32.toInt_inj.mp (show n.toInt = (1 : Int32).toInt from s); exact Or.inr (Or.inl s)
  · have s := Int32.toInt_inj.mp (show n.toInt = (2 : Int32).toInt from s); exact Or.inr (Or.inr s)
theorem own_r5 {u n : Int32} (h : n = ((u &&& (2147483647 : Int32)) % (5 : Int32))) : n = 0 ∨ n = 1 ∨ n = 2 ∨ n = 3 ∨ n = 4 := by
  have q := Jvm.Kit.i32_mask u 2147483647 (k := 31) (by decide) (by decide)
  have r := Jvm.Kit.i32_rem_nonneg (x := u &&& 2147483647) (y := 5) (by omega)
  rw [← h, show (5 : Int32).toInt = 5 from rfl] at r
  have s : n.toInt = 0 ∨ n.toInt = 1 ∨ n.toInt = 2 ∨ n.toInt = 3 ∨ n.toInt = 4 := by omega
  rcases s with s | s | s | s | s
  · have s := Int32.toInt_inj.mp (show n.toInt = (0 : Int32).toInt from s); exact Or.inl s
  · have s := Int32.toInt_inj.mp (show n.toInt = (1 : Int32).toInt from s); exact Or.inr (Or.inl s)
  · have s := Int32.toInt_inj.mp (show n.toInt = (2 : Int32).toInt from s); exact Or.inr (Or.inr (Or.inl s))
  · have s := Int32.toInt_inj.mp (show n.toInt = (3 : Int32).toInt from s); exact Or.inr (Or.inr (Or.inr (Or.inl s)))
  · have s := Int32.toInt_inj.mp (show n.toInt = (4 : Int32).toInt from s); exact Or.inr (Or.inr (Or.inr (Or.inr s)))
def own_B (al ar sl sr : Value) : Int32 := if al = sl then (if ar = sr then (1 : Int32) else (0 : Int32)) else (0 : Int32)
def own_L (al ar sl sr : Value) (ss si : Int64) : Value := if own_B al ar sl sr = (1 : Int32) then sl else if (lcmpW (ss + (1 : Int64)) si) = (0 : Int32) then al else sl
def own_R (al ar sl sr : Value) (ss si : Int64) : Value := if own_B al ar sl sr = (1 : Int32) then sr else if (lcmpW (ss + (1 : Int64)) si) = (0 : Int32) then ar else sr
def own_S (al ar sl sr : Value) (ss si : Int64) : Int64 := if own_B al ar sl sr = (1 : Int32) then (0 : Int64) else if (lcmpW (ss + (1 : Int64)) si) = (0 : Int32) then (0 : Int64) else (ss + (1 : Int64))
def own_I (al ar sl sr : Value) (ss si : Int64) : Int64 := if own_B al ar sl sr = (1 : Int32) then si else if (lcmpW (ss + (1 : Int64)) si) = (0 : Int32) then (si * (2 : Int64)) else si
def own_n8 (k : Fin 8) : Int32 := Int32.ofNat k.val
def own_t3 (t : Fin 3) : Int32 := Int32.ofNat t.val
def own_l5 (n : Fin 5) : Int32 := Int32.ofNat (n.val + 1)
theorem own_t {u n : Int32} (h : n = ((u &&& (2147483647 : Int32)) % (3 : Int32))) : ∃ t : Fin 3, n = own_t3 t := by
  rcases own_r3 h with q | q | q
  · exact ⟨0, q⟩
  · exact ⟨1, q⟩
  · exact ⟨2, q⟩
theorem own_ln {u n : Int32} (h : n = (((u &&& (2147483647 : Int32)) % (5 : Int32)) + (1 : Int32))) : ∃ t : Fin 5, n = own_l5 t := by
  rcases own_r5 (u := u) rfl with q | q | q | q | q <;> rw [q] at h
  · exact ⟨0, h⟩
  · exact ⟨1, h⟩
  · exact ⟨2, h⟩
  · exact ⟨3, h⟩
  · exact ⟨4, h⟩
theorem own_l0 : ∀ n : Fin 5, own_l5 n ≠ (0 : Int32) := by decide
def own_w (i t n : Int32) : Int32 := if i < t then i else (t + ((i - t) % n))
def own_kf (t : Fin 3) (n : Fin 5) (i : Nat) : Fin 8 := if i < t.val then Fin.ofNat 8 i else Fin.ofNat 8 (t.val + (i - t.val) % (n.val + 1))
theorem own_i1 : ∀ k : Fin 8, ¬ ((own_n8 k) >>> ((1 : Int32) &&& 31)) < 0 ∧ ((own_n8 k) >>> ((1 : Int32) &&& 31)).toNatClampNeg = k.val / 2 := by decide
theorem own_i2 : ∀ k : Fin 8, ¬ ((own_n8 k) &&& (1 : Int32)) < 0 ∧ ((own_n8 k) &&& (1 : Int32)).toNatClampNeg = k.val % 2 := by decide
theorem own_f8 {P : Fin 8 → Prop} (h0 : P 0) (h1 : P 1) (h2 : P 2) (h3 : P 3) (h4 : P 4) (h5 : P 5) (h6 : P 6) (h7 : P 7) : ∀ q, P q
  | 0 => h0
  | 1 => h1
  | 2 => h2
  | 3 => h3
  | 4 => h4
  | 5 => h5
  | 6 => h6
  | 7 => h7
def own_a (a0 a1 a2 a3 : Addr) : Fin 8 → Addr
  | 0 => a0
  | 1 => a0
  | 2 => a1
  | 3 => a1
  | 4 => a2
  | 5 => a2
  | 6 => a3
  | 7 => a3
def own_r (rv : Value) (b1 : Addr) : Fin 8 → Value
  | 0 => rv
  | 1 => .ref b1
  | 2 => rv
  | 3 => .ref b1
  | 4 => rv
  | 5 => .ref b1
  | 6 => rv
  | 7 => .ref b1
theorem own_rr {rv : Value} {b1 : Addr} (h : rv.isRef = true) : ∀ k, (own_r rv b1 k).isRef = true := own_f8 h rfl h rfl h rfl h rfl
theorem own_ga (a0 a1 a2 a3 : Addr) : ∀ k : Fin 8, ([.ref a0, .ref a1, .ref a2, .ref a3] : List Value)[k.val / 2]? = some (.ref (own_a a0 a1 a2 a3 k)) := own_f8 rfl rfl rfl rfl rfl rfl rfl rfl
theorem own_gr (rv : Value) (b1 : Addr) : ∀ k : Fin 8, ([rv, .ref b1] : List Value)[k.val % 2]? = some (own_r rv b1 k) := own_f8 rfl rfl rfl rfl rfl rfl rfl rfl
theorem own_k2 : ∀ k : Fin 8, k.val / 2 < 4 ∧ k.val % 2 < 2 := by decide
def own_ML (a0 a1 a2 a3 : Addr) : Option (Fin 8) → Value
  | none => .null
  | some k => .ref (own_a a0 a1 a2 a3 k)
def own_MR (rv : Value) (b1 : Addr) : Option (Fin 8) → Value
  | none => .null
  | some k => own_r rv b1 k
theorem own_MLr (a0 a1 a2 a3 : Addr) (m : Option (Fin 8)) : (own_ML a0 a1 a2 a3 m).isRef = true := by cases m <;> rfl
theorem own_MRr {rv : Value} (h : rv.isRef = true) (b1 : Addr) (m : Option (Fin 8)) : (own_MR rv b1 m).isRef = true := by
  cases m with
  | none => rfl
  | some k => exact own_rr h k
/-- the six are unlike -/
def own_D (a0 a1 a2 a3 b1 : Addr) (rv : Value) : Prop := a0 ≠ a1 ∧ a0 ≠ a2 ∧ a0 ≠ a3 ∧ a1 ≠ a2 ∧ a1 ≠ a3 ∧ a2 ≠ a3 ∧ rv ≠ .ref b1
theorem own_key {a0 a1 a2 a3 b1 : Addr} {rv : Value} (h : own_D a0 a1 a2 a3 b1 rv) : ∀ k j : Fin 8, own_a a0 a1 a2 a3 k = own_a a0 a1 a2 a3 j → own_r rv b1 k = own_r rv b1 j → k = j := by
  obtain ⟨h1, h2, h3, h4, h5, h6, h7⟩ := h
  apply own_f8 <;> apply own_f8 <;> intro p q <;> first | rfl | exact absurd p h1 | exact absurd p h2 | exact absurd p h3 | exact absurd p h4 | exact absurd p h5 | exact absurd p h6 | exact absurd p h1.symm | exact absurd p h2.symm | exact absurd p h3.symm | exact absurd p h4.symm | exact absurd p h5.symm | exact absurd p h6.symm | exact absurd q h7 | exact absurd q h7.symm
def own_seen (m : Option (Fin 8)) (k : Fin 8) : Int32 := if m = some k then (1 : Int32) else (0 : Int32)
def own_nm (m : Option (Fin 8)) (ss si : Int64) (k : Fin 8) : Option (Fin 8) := if m = some k then m else if (lcmpW (ss + (1 : Int64)) si) = (0 : Int32) then some k else m
def own_ns (m : Option (Fin 8)) (ss si : Int64) (k : Fin 8) : Int64 := if m = some k then (0 : Int64) else if (lcmpW (ss + (1 : Int64)) si) = (0 : Int32) then (0 : Int64) else (ss + (1 : Int64))
def own_ni (m : Option (Fin 8)) (ss si : Int64) (k : Fin 8) : Int64 := if m = some k then si else if (lcmpW (ss + (1 : Int64)) si) = (0 : Int32) then (si * (2 : Int64)) else si
theorem own_BE {a0 a1 a2 a3 b1 : Addr} {rv : Value} (h : own_D a0 a1 a2 a3 b1 rv) (m : Option (Fin 8)) (k : Fin 8) : own_B (.ref (own_a a0 a1 a2 a3 k)) (own_r rv b1 k) (own_ML a0 a1 a2 a3 m) (own_MR rv b1 m) = own_seen m k := by
  cases m with
  | none =>
    unfold own_B own_seen own_ML
    rw [if_neg (by simp), if_neg (by simp)]
  | some j =>
    unfold own_B own_seen own_ML own_MR
    by_cases e : j = k
    · subst e; rw [if_pos rfl, if_pos rfl, if_pos rfl]
    · rw [if_neg (show ¬ (some j = some k) from fun q => e (Option.some.inj q))]
      by_cases p : (Value.ref (own_a a0 a1 a2 a3 k)) = .ref (own_a a0 a1 a2 a3 j)
      · by_cases q : own_r rv b1 k = own_r rv b1 j
        · exact absurd (own_key h k j (Value.ref.inj p) q).symm e
        · simp only [if_pos p, if_neg q]
      · simp only [if_neg p]
theorem own_s1 (m : Option (Fin 8)) (k : Fin 8) : own_seen m k = (1 : Int32) ↔ m = some k := by
  unfold own_seen
  by_cases h : m = some k
  · rw [if_pos h]; exact ⟨fun _ => h, fun _ => rfl⟩
  · rw [if_neg h]; exact ⟨fun q => absurd q (by decide), fun q => absurd q h⟩
theorem own_LE {a0 a1 a2 a3 b1 : Addr} {rv : Value} (h : own_D a0 a1 a2 a3 b1 rv) (m : Option (Fin 8)) (ss si : Int64) (k : Fin 8) : own_L (.ref (own_a a0 a1 a2 a3 k)) (own_r rv b1 k) (own_ML a0 a1 a2 a3 m) (own_MR rv b1 m) ss si = own_ML a0 a1 a2 a3 (own_nm m ss si k) := by
  unfold own_L own_nm
  rw [own_BE h]
  simp only [own_s1]
  by_cases p : m = some k
  · rw [if_pos p, if_pos p]
  · rw [if_neg p, if_neg p]
    by_cases q : (lcmpW (ss + (1 : Int64)) si) = (0 : Int32)
    · rw [if_pos q, if_pos q]; rfl
    · rw [if_neg q, if_neg q]
theorem own_RE {a0 a1 a2 a3 b1 : Addr} {rv : Value} (h : own_D a0 a1 a2 a3 b1 rv) (m : Option (Fin 8)) (ss si : Int64) (k : Fin 8) : own_R (.ref (own_a a0 a1 a2 a3 k)) (own_r rv b1 k) (own_ML a0 a1 a2 a3 m) (own_MR rv b1 m) ss si = own_MR rv b1 (own_nm m ss si k) := by
  unfold own_R own_nm
  rw [own_BE h]
  simp only [own_s1]
  by_cases p : m = some k
  · rw [if_pos p, if_pos p]
  · rw [if_neg p, if_neg p]
    by_cases q : (lcmpW (ss + (1 : Int64)) si) = (0 : Int32)
    · rw [if_pos q, if_pos q]; rfl
    · rw [if_neg q, if_neg q]
theorem own_SE {a0 a1 a2 a3 b1 : Addr} {rv : Value} (h : own_D a0 a1 a2 a3 b1 rv) (m : Option (Fin 8)) (ss si : Int64) (k : Fin 8) : own_S (.ref (own_a a0 a1 a2 a3 k)) (own_r rv b1 k) (own_ML a0 a1 a2 a3 m) (own_MR rv b1 m) ss si = own_ns m ss si k := by
  unfold own_S own_ns
  rw [own_BE h]
  simp only [own_s1]
theorem own_IE {a0 a1 a2 a3 b1 : Addr} {rv : Value} (h : own_D a0 a1 a2 a3 b1 rv) (m : Option (Fin 8)) (ss si : Int64) (k : Fin 8) : own_I (.ref (own_a a0 a1 a2 a3 k)) (own_r rv b1 k) (own_ML a0 a1 a2 a3 m) (own_MR rv b1 m) ss si = own_ni m ss si k := by
  unfold own_I own_ni
  rw [own_BE h]
  simp only [own_s1]
/-- the state when i steps are made -/
def own_Z (t : Fin 3) (n : Fin 5) : Nat → Option (Fin 8) × Int64 × Int64
  | 0 => (none, (0 : Int64), (1 : Int64))
  | i + 1 => (own_nm (own_Z t n i).1 (own_Z t n i).2.1 (own_Z t n i).2.2 (own_kf t n i), own_ns (own_Z t n i).1 (own_Z t n i).2.1 (own_Z t n i).2.2 (own_kf t n i), own_ni (own_Z t n i).1 (own_Z t n i).2.1 (own_Z t n i).2.2 (own_kf t n i))
def own_G (t : Fin 3) (n : Fin 5) : Nat → Int32
  | 0 => (0 : Int32)
  | i + 1 => (own_G t n i) ||| (if own_seen (own_Z t n i).1 (own_kf t n i) = (0 : Int32) then (0 : Int32) else Int32.ofNat (2 ^ i))
def own_exp (t n : Int32) : Int32 := if n = (1 : Int32) then (if t = (0 : Int32) then (4094 : Int32) else (4088 : Int32)) else if n = (2 : Int32) then (if t = (0 : Int32) then (1364 : Int32) else (1360 : Int32)) else if n = (3 : Int32) then (2336 : Int32) else if n = (4 : Int32) then (1088 : Int32) else (2048 : Int32)
theorem own_end : ∀ (t : Fin 3) (n : Fin 5), own_G t n 12 = own_exp (own_t3 t) (own_l5 n) := by decide +kernel
theorem own_and (u : Int32) : ¬ (u &&& (255 : Int32)) < 0 ∧ ¬ (255 : Int32) < (u &&& (255 : Int32)) := by
  have q := Jvm.Kit.i32_mask u 255 (k := 8) (by decide) (by decide)
  have e0 : (0 : Int32).toInt = 0 := rfl
  have e1 : (255 : Int32).toInt = 255 := rfl
  rw [Int32.lt_iff_toInt_lt, Int32.lt_iff_toInt_lt, e0, e1, q]
  omega
theorem own_lat (u : Int32) {x : Int32} (h : x = ((u &&& (255 : Int32)).toUInt32.toUInt16.toUInt32.toInt32)) : ¬ (nar .char x) < 0 ∧ ¬ (255 : Int32) < (nar .char x) := by
  rw [h, show nar .char ((u &&& (255 : Int32)).toUInt32.toUInt16.toUInt32.toInt32) = u &&& 255 from by simp only [nar, i2c_mask]]
  exact own_and u
theorem own_Zm (t : Fin 3) (n : Fin 5) (i : Nat) : (own_Z t n (i + 1)).1 = own_nm (own_Z t n i).1 (own_Z t n i).2.1 (own_Z t n i).2.2 (own_kf t n i) := rfl
theorem own_Zs (t : Fin 3) (n : Fin 5) (i : Nat) : (own_Z t n (i + 1)).2.1 = own_ns (own_Z t n i).1 (own_Z t n i).2.1 (own_Z t n i).2.2 (own_kf t n i) := rfl
theorem own_Zi (t : Fin 3) (n : Fin 5) (i : Nat) : (own_Z t n (i + 1)).2.2 = own_ni (own_Z t n i).1 (own_Z t n i).2.1 (own_Z t n i).2.2 (own_kf t n i) := rfl
theorem own_Gs (t : Fin 3) (n : Fin 5) (i : Nat) : own_G t n (i + 1) = (own_G t n i) ||| (if own_seen (own_Z t n i).1 (own_kf t n i) = (0 : Int32) then (0 : Int32) else Int32.ofNat (2 ^ i)) := rfl
theorem own_Zm0 (t : Fin 3) (n : Fin 5) : (own_Z t n 0).1 = none := rfl
theorem own_Zs0 (t : Fin 3) (n : Fin 5) : (own_Z t n 0).2.1 = (0 : Int64) := rfl
theorem own_Zi0 (t : Fin 3) (n : Fin 5) : (own_Z t n 0).2.2 = (1 : Int64) := rfl
theorem own_G0 (t : Fin 3) (n : Fin 5) : own_G t n 0 = (0 : Int32) := rfl
theorem own_Zm1 (t : Fin 3) (n : Fin 5) : (own_Z t n 1).1 = own_nm (own_Z t n 0).1 (own_Z t n 0).2.1 (own_Z t n 0).2.2 (own_kf t n 0) := own_Zm t n 0
theorem own_Zs1 (t : Fin 3) (n : Fin 5) : (own_Z t n 1).2.1 = own_ns (own_Z t n 0).1 (own_Z t n 0).2.1 (own_Z t n 0).2.2 (own_kf t n 0) := own_Zs t n 0
theorem own_Zi1 (t : Fin 3) (n : Fin 5) : (own_Z t n 1).2.2 = own_ni (own_Z t n 0).1 (own_Z t n 0).2.1 (own_Z t n 0).2.2 (own_kf t n 0) := own_Zi t n 0
theorem own_Zm2 (t : Fin 3) (n : Fin 5) : (own_Z t n 2).1 = own_nm (own_Z t n 1).1 (own_Z t n 1).2.1 (own_Z t n 1).2.2 (own_kf t n 1) := own_Zm t n 1
theorem own_Zs2 (t : Fin 3) (n : Fin 5) : (own_Z t n 2).2.1 = own_ns (own_Z t n 1).1 (own_Z t n 1).2.1 (own_Z t n 1).2.2 (own_kf t n 1) := own_Zs t n 1
theorem own_Zi2 (t : Fin 3) (n : Fin 5) : (own_Z t n 2).2.2 = own_ni (own_Z t n 1).1 (own_Z t n 1).2.1 (own_Z t n 1).2.2 (own_kf t n 1) := own_Zi t n 1
theorem own_Zm3 (t : Fin 3) (n : Fin 5) : (own_Z t n 3).1 = own_nm (own_Z t n 2).1 (own_Z t n 2).2.1 (own_Z t n 2).2.2 (own_kf t n 2) := own_Zm t n 2
theorem own_Zs3 (t : Fin 3) (n : Fin 5) : (own_Z t n 3).2.1 = own_ns (own_Z t n 2).1 (own_Z t n 2).2.1 (own_Z t n 2).2.2 (own_kf t n 2) := own_Zs t n 2
theorem own_Zi3 (t : Fin 3) (n : Fin 5) : (own_Z t n 3).2.2 = own_ni (own_Z t n 2).1 (own_Z t n 2).2.1 (own_Z t n 2).2.2 (own_kf t n 2) := own_Zi t n 2
theorem own_Zm4 (t : Fin 3) (n : Fin 5) : (own_Z t n 4).1 = own_nm (own_Z t n 3).1 (own_Z t n 3).2.1 (own_Z t n 3).2.2 (own_kf t n 3) := own_Zm t n 3
theorem own_Zs4 (t : Fin 3) (n : Fin 5) : (own_Z t n 4).2.1 = own_ns (own_Z t n 3).1 (own_Z t n 3).2.1 (own_Z t n 3).2.2 (own_kf t n 3) := own_Zs t n 3
theorem own_Zi4 (t : Fin 3) (n : Fin 5) : (own_Z t n 4).2.2 = own_ni (own_Z t n 3).1 (own_Z t n 3).2.1 (own_Z t n 3).2.2 (own_kf t n 3) := own_Zi t n 3
theorem own_Zm5 (t : Fin 3) (n : Fin 5) : (own_Z t n 5).1 = own_nm (own_Z t n 4).1 (own_Z t n 4).2.1 (own_Z t n 4).2.2 (own_kf t n 4) := own_Zm t n 4
theorem own_Zs5 (t : Fin 3) (n : Fin 5) : (own_Z t n 5).2.1 = own_ns (own_Z t n 4).1 (own_Z t n 4).2.1 (own_Z t n 4).2.2 (own_kf t n 4) := own_Zs t n 4
theorem own_Zi5 (t : Fin 3) (n : Fin 5) : (own_Z t n 5).2.2 = own_ni (own_Z t n 4).1 (own_Z t n 4).2.1 (own_Z t n 4).2.2 (own_kf t n 4) := own_Zi t n 4
theorem own_Zm6 (t : Fin 3) (n : Fin 5) : (own_Z t n 6).1 = own_nm (own_Z t n 5).1 (own_Z t n 5).2.1 (own_Z t n 5).2.2 (own_kf t n 5) := own_Zm t n 5
theorem own_Zs6 (t : Fin 3) (n : Fin 5) : (own_Z t n 6).2.1 = own_ns (own_Z t n 5).1 (own_Z t n 5).2.1 (own_Z t n 5).2.2 (own_kf t n 5) := own_Zs t n 5
theorem own_Zi6 (t : Fin 3) (n : Fin 5) : (own_Z t n 6).2.2 = own_ni (own_Z t n 5).1 (own_Z t n 5).2.1 (own_Z t n 5).2.2 (own_kf t n 5) := own_Zi t n 5
theorem own_Zm7 (t : Fin 3) (n : Fin 5) : (own_Z t n 7).1 = own_nm (own_Z t n 6).1 (own_Z t n 6).2.1 (own_Z t n 6).2.2 (own_kf t n 6) := own_Zm t n 6
theorem own_Zs7 (t : Fin 3) (n : Fin 5) : (own_Z t n 7).2.1 = own_ns (own_Z t n 6).1 (own_Z t n 6).2.1 (own_Z t n 6).2.2 (own_kf t n 6) := own_Zs t n 6
theorem own_Zi7 (t : Fin 3) (n : Fin 5) : (own_Z t n 7).2.2 = own_ni (own_Z t n 6).1 (own_Z t n 6).2.1 (own_Z t n 6).2.2 (own_kf t n 6) := own_Zi t n 6
theorem own_Zm8 (t : Fin 3) (n : Fin 5) : (own_Z t n 8).1 = own_nm (own_Z t n 7).1 (own_Z t n 7).2.1 (own_Z t n 7).2.2 (own_kf t n 7) := own_Zm t n 7
theorem own_Zs8 (t : Fin 3) (n : Fin 5) : (own_Z t n 8).2.1 = own_ns (own_Z t n 7).1 (own_Z t n 7).2.1 (own_Z t n 7).2.2 (own_kf t n 7) := own_Zs t n 7
theorem own_Zi8 (t : Fin 3) (n : Fin 5) : (own_Z t n 8).2.2 = own_ni (own_Z t n 7).1 (own_Z t n 7).2.1 (own_Z t n 7).2.2 (own_kf t n 7) := own_Zi t n 7
theorem own_Zm9 (t : Fin 3) (n : Fin 5) : (own_Z t n 9).1 = own_nm (own_Z t n 8).1 (own_Z t n 8).2.1 (own_Z t n 8).2.2 (own_kf t n 8) := own_Zm t n 8
theorem own_Zs9 (t : Fin 3) (n : Fin 5) : (own_Z t n 9).2.1 = own_ns (own_Z t n 8).1 (own_Z t n 8).2.1 (own_Z t n 8).2.2 (own_kf t n 8) := own_Zs t n 8
theorem own_Zi9 (t : Fin 3) (n : Fin 5) : (own_Z t n 9).2.2 = own_ni (own_Z t n 8).1 (own_Z t n 8).2.1 (own_Z t n 8).2.2 (own_kf t n 8) := own_Zi t n 8
theorem own_Zm10 (t : Fin 3) (n : Fin 5) : (own_Z t n 10).1 = own_nm (own_Z t n 9).1 (own_Z t n 9).2.1 (own_Z t n 9).2.2 (own_kf t n 9) := own_Zm t n 9
theorem own_Zs10 (t : Fin 3) (n : Fin 5) : (own_Z t n 10).2.1 = own_ns (own_Z t n 9).1 (own_Z t n 9).2.1 (own_Z t n 9).2.2 (own_kf t n 9) := own_Zs t n 9
theorem own_Zi10 (t : Fin 3) (n : Fin 5) : (own_Z t n 10).2.2 = own_ni (own_Z t n 9).1 (own_Z t n 9).2.1 (own_Z t n 9).2.2 (own_kf t n 9) := own_Zi t n 9
theorem own_Zm11 (t : Fin 3) (n : Fin 5) : (own_Z t n 11).1 = own_nm (own_Z t n 10).1 (own_Z t n 10).2.1 (own_Z t n 10).2.2 (own_kf t n 10) := own_Zm t n 10
theorem own_Zs11 (t : Fin 3) (n : Fin 5) : (own_Z t n 11).2.1 = own_ns (own_Z t n 10).1 (own_Z t n 10).2.1 (own_Z t n 10).2.2 (own_kf t n 10) := own_Zs t n 10
theorem own_Zi11 (t : Fin 3) (n : Fin 5) : (own_Z t n 11).2.2 = own_ni (own_Z t n 10).1 (own_Z t n 10).2.1 (own_Z t n 10).2.2 (own_kf t n 10) := own_Zi t n 10
theorem own_Zm12 (t : Fin 3) (n : Fin 5) : (own_Z t n 12).1 = own_nm (own_Z t n 11).1 (own_Z t n 11).2.1 (own_Z t n 11).2.2 (own_kf t n 11) := own_Zm t n 11
theorem own_Zs12 (t : Fin 3) (n : Fin 5) : (own_Z t n 12).2.1 = own_ns (own_Z t n 11).1 (own_Z t n 11).2.1 (own_Z t n 11).2.2 (own_kf t n 11) := own_Zs t n 11
theorem own_Zi12 (t : Fin 3) (n : Fin 5) : (own_Z t n 12).2.2 = own_ni (own_Z t n 11).1 (own_Z t n 11).2.1 (own_Z t n 11).2.2 (own_kf t n 11) := own_Zi t n 11
theorem own_G1 (t : Fin 3) (n : Fin 5) : own_G t n 1 = (own_G t n 0) ||| (if own_seen (own_Z t n 0).1 (own_kf t n 0) = (0 : Int32) then (0 : Int32) else (1 : Int32)) := own_Gs t n 0
theorem own_G2 (t : Fin 3) (n : Fin 5) : own_G t n 2 = (own_G t n 1) ||| (if own_seen (own_Z t n 1).1 (own_kf t n 1) = (0 : Int32) then (0 : Int32) else (2 : Int32)) := own_Gs t n 1
theorem own_G3 (t : Fin 3) (n : Fin 5) : own_G t n 3 = (own_G t n 2) ||| (if own_seen (own_Z t n 2).1 (own_kf t n 2) = (0 : Int32) then (0 : Int32) else (4 : Int32)) := own_Gs t n 2
theorem own_G4 (t : Fin 3) (n : Fin 5) : own_G t n 4 = (own_G t n 3) ||| (if own_seen (own_Z t n 3).1 (own_kf t n 3) = (0 : Int32) then (0 : Int32) else (8 : Int32)) := own_Gs t n 3
theorem own_G5 (t : Fin 3) (n : Fin 5) : own_G t n 5 = (own_G t n 4) ||| (if own_seen (own_Z t n 4).1 (own_kf t n 4) = (0 : Int32) then (0 : Int32) else (16 : Int32)) := own_Gs t n 4
theorem own_G6 (t : Fin 3) (n : Fin 5) : own_G t n 6 = (own_G t n 5) ||| (if own_seen (own_Z t n 5).1 (own_kf t n 5) = (0 : Int32) then (0 : Int32) else (32 : Int32)) := own_Gs t n 5
theorem own_G7 (t : Fin 3) (n : Fin 5) : own_G t n 7 = (own_G t n 6) ||| (if own_seen (own_Z t n 6).1 (own_kf t n 6) = (0 : Int32) then (0 : Int32) else (64 : Int32)) := own_Gs t n 6
theorem own_G8 (t : Fin 3) (n : Fin 5) : own_G t n 8 = (own_G t n 7) ||| (if own_seen (own_Z t n 7).1 (own_kf t n 7) = (0 : Int32) then (0 : Int32) else (128 : Int32)) := own_Gs t n 7
theorem own_G9 (t : Fin 3) (n : Fin 5) : own_G t n 9 = (own_G t n 8) ||| (if own_seen (own_Z t n 8).1 (own_kf t n 8) = (0 : Int32) then (0 : Int32) else (256 : Int32)) := own_Gs t n 8
theorem own_G10 (t : Fin 3) (n : Fin 5) : own_G t n 10 = (own_G t n 9) ||| (if own_seen (own_Z t n 9).1 (own_kf t n 9) = (0 : Int32) then (0 : Int32) else (512 : Int32)) := own_Gs t n 9
theorem own_G11 (t : Fin 3) (n : Fin 5) : own_G t n 11 = (own_G t n 10) ||| (if own_seen (own_Z t n 10).1 (own_kf t n 10) = (0 : Int32) then (0 : Int32) else (1024 : Int32)) := own_Gs t n 10
theorem own_G12 (t : Fin 3) (n : Fin 5) : own_G t n 12 = (own_G t n 11) ||| (if own_seen (own_Z t n 11).1 (own_kf t n 11) = (0 : Int32) then (0 : Int32) else (2048 : Int32)) := own_Gs t n 11
theorem own_kk0 : ∀ (t : Fin 3) (n : Fin 5), own_w (0 : Int32) (own_t3 t) (own_l5 n) = own_n8 (own_kf t n 0) := by decide
theorem own_kk1 : ∀ (t : Fin 3) (n : Fin 5), own_w (1 : Int32) (own_t3 t) (own_l5 n) = own_n8 (own_kf t n 1) := by decide
theorem own_kk2 : ∀ (t : Fin 3) (n : Fin 5), own_w (2 : Int32) (own_t3 t) (own_l5 n) = own_n8 (own_kf t n 2) := by decide
theorem own_kk3 : ∀ (t : Fin 3) (n : Fin 5), own_w (3 : Int32) (own_t3 t) (own_l5 n) = own_n8 (own_kf t n 3) := by decide
theorem own_kk4 : ∀ (t : Fin 3) (n : Fin 5), own_w (4 : Int32) (own_t3 t) (own_l5 n) = own_n8 (own_kf t n 4) := by decide
theorem own_kk5 : ∀ (t : Fin 3) (n : Fin 5), own_w (5 : Int32) (own_t3 t) (own_l5 n) = own_n8 (own_kf t n 5) := by decide
theorem own_kk6 : ∀ (t : Fin 3) (n : Fin 5), own_w (6 : Int32) (own_t3 t) (own_l5 n) = own_n8 (own_kf t n 6) := by decide
theorem own_kk7 : ∀ (t : Fin 3) (n : Fin 5), own_w (7 : Int32) (own_t3 t) (own_l5 n) = own_n8 (own_kf t n 7) := by decide
theorem own_kk8 : ∀ (t : Fin 3) (n : Fin 5), own_w (8 : Int32) (own_t3 t) (own_l5 n) = own_n8 (own_kf t n 8) := by decide
theorem own_kk9 : ∀ (t : Fin 3) (n : Fin 5), own_w (9 : Int32) (own_t3 t) (own_l5 n) = own_n8 (own_kf t n 9) := by decide
theorem own_kk10 : ∀ (t : Fin 3) (n : Fin 5), own_w (10 : Int32) (own_t3 t) (own_l5 n) = own_n8 (own_kf t n 10) := by decide
theorem own_kk11 : ∀ (t : Fin 3) (n : Fin 5), own_w (11 : Int32) (own_t3 t) (own_l5 n) = own_n8 (own_kf t n 11) := by decide
theorem own_ws : ∀ d ∈ StrChars.Road.words, d ∈ tables_1 :=
  List.forall_mem_cons.mpr ⟨List.mem_of_getElem? (i := 9) rfl,
  List.forall_mem_cons.mpr ⟨List.mem_of_getElem? (i := 5) rfl,
  List.forall_mem_cons.mpr ⟨List.mem_of_getElem? (i := 10) rfl,
  List.forall_mem_cons.mpr ⟨List.mem_of_getElem? (i := 11) rfl,
  List.forall_mem_cons.mpr ⟨List.mem_of_getElem? (i := 13) rfl,
  List.forall_mem_cons.mpr ⟨List.mem_of_getElem? (i := 17) rfl,
  List.forall_mem_cons.mpr ⟨List.mem_of_getElem? (i := 32) rfl,
  List.forall_mem_cons.mpr ⟨List.mem_of_getElem? (i := 31) rfl,
  List.forall_mem_cons.mpr ⟨List.mem_of_getElem? (i := 30) rfl,
  List.forall_mem_cons.mpr ⟨List.mem_of_getElem? (i := 29) rfl,
  List.forall_mem_cons.mpr ⟨List.mem_of_getElem? (i := 14) rfl,
  List.forall_mem_cons.mpr ⟨List.mem_of_getElem? (i := 15) rfl,
  List.forall_mem_cons.mpr ⟨List.mem_of_getElem? (i := 16) rfl,
  List.forall_mem_cons.mpr ⟨List.mem_of_getElem? (i := 18) rfl,
  List.forall_mem_cons.mpr ⟨List.mem_of_getElem? (i := 19) rfl,
  List.forall_mem_cons.mpr ⟨List.mem_of_getElem? (i := 26) rfl,
  List.forall_mem_cons.mpr ⟨List.mem_of_getElem? (i := 27) rfl,
  List.forall_mem_cons.mpr ⟨List.mem_of_getElem? (i := 21) rfl,
  List.forall_mem_cons.mpr ⟨List.mem_of_getElem? (i := 20) rfl,
  List.forall_mem_cons.mpr ⟨List.mem_of_getElem? (i := 22) rfl,
  List.forall_mem_cons.mpr ⟨List.mem_of_getElem? (i := 23) rfl,
  List.forall_mem_cons.mpr ⟨List.mem_of_getElem? (i := 24) rfl,
  List.forall_mem_cons.mpr ⟨List.mem_of_getElem? (i := 25) rfl,
  List.forall_mem_cons.mpr ⟨List.mem_of_getElem? (i := 28) rfl,
  fun _ h => nomatch h⟩⟩⟩⟩⟩⟩⟩⟩⟩⟩⟩⟩⟩⟩⟩⟩⟩⟩⟩⟩⟩⟩⟩⟩
theorem ef_7 (m : MethodId) (x0 : Addr)  : entryFrame m #[(.ref x0)] 1 = mkF m 0 #[.val (.ref x0)] [] := by first | (simp [entryFrame, mkF, argsToLocals, Value.category]; done) | rfl
theorem pn_7 : plainName "com/example/tributary/tributary/runtime/Revisits" = true := by first | (simp [plainName, overriddenIn]; done) | decide +kernel
theorem d7_0 : decode prog_118_method_1_code 0 = .ok (.aload_n 0, 1) := by decide +kernel
theorem d7_1 : decode prog_118_method_1_code 1 = .ok (.invokespecial 1, 3) := by decide +kernel
theorem d7_4 : decode prog_118_method_1_code 4 = .ok (.aload_n 0, 1) := by decide +kernel
theorem d7_5 : decode prog_118_method_1_code 5 = .ok (.lconst 1, 1) := by decide +kernel
theorem d7_6 : decode prog_118_method_1_code 6 = .ok (.putfield 7, 3) := by decide +kernel
theorem d7_9 : decode prog_118_method_1_code 9 = .ok (.return_, 1) := by decide +kernel
def QN (Z : State) (va : Addr) (h0 : Heap) (n0 : Nat) (v : Option Value) (h : Heap) (L : List Loc) : Prop := v = none ∧ Fr n0 L ∧ Keep h0 h [va] ∧ Fld Z h va "com/example/tributary/tributary/runtime/Revisits" "markedLeft" "Ljava/lang/Object;" .null ∧ Fld Z h va "com/example/tributary/tributary/runtime/Revisits" "markedRight" "Ljava/lang/Object;" .null ∧ Fld Z h va "com/example/tributary/tributary/runtime/Revisits" "sinceMark" "J" (.long (0 : Int64)) ∧ Fld Z h va "com/example/tributary/tributary/runtime/Revisits" "markInterval" "J" (.long (1 : Int64))
set_option maxRecDepth 65536 in
set_option maxHeartbeats 40000000 in
theorem rmN (l : Launch) (Z : State) (a0 : Array Value) (hw : ∀ d ∈ tables_1, d.before a0 Z = true) (ws : List Jvm.Cond) (va : Addr) (h0 : Heap) (n0 : Nat) (Z0 : n0 ≤ h0.size) (E_va : Exa Z h0 va "com/example/tributary/tributary/runtime/Revisits") (F_markedLeft_va : Fld Z h0 va "com/example/tributary/tributary/runtime/Revisits" "markedLeft" "Ljava/lang/Object;" .null) (F_markedRight_va : Fld Z h0 va "com/example/tributary/tributary/runtime/Revisits" "markedRight" "Ljava/lang/Object;" .null) (F_sinceMark_va : Fld Z h0 va "com/example/tributary/tributary/runtime/Revisits" "sinceMark" "J" (.long (0 : Int64))) (F_markInterval_va : Fld Z h0 va "com/example/tributary/tributary/runtime/Revisits" "markInterval" "J" (.long (0 : Int64))) (g_va : n0 ≤ va) :
    MetFree l (⟨"com/example/tributary/tributary/runtime/Revisits", "<init>", "()V"⟩ : MethodName) (head1 (Jvm.Cond.code (⟨"com/example/tributary/tributary/runtime/Revisits", "<init>", "()V"⟩ : MethodName) prog_118_method_1_code 1 none :: ws) ({ frames := 1, cells := 0, slots := 0, locals := 12 } : Room)) (fun a U => a = #[(.ref va)] ∧ Z.Warmed39 U.vm ∧ U.heap = h0) (fun _ _ _ _ _ => True) (fun _ U o U' => ∃ v L, o = .returned v ∧ QN Z va h0 n0 v U'.heap L ∧ FrameEnd U o U' L 0 0) := by
  refine MetFree.of_bodySF (plainFor_of_name pn_7) hisR ?_
  intro p e s m args below meth c s₁ Bd hml0 hP hK
  obtain ⟨rfl, hZ, hh⟩ := hP
  have hx := Bd.exec
  have hby := Bd.bytes
  have hml : c.maxLocals = 1 := hml0
  have hown : s.vm.findClass "com/example/tributary/tributary/runtime/Revisits" = some m.cls := findClass_of_methodNamed Bd.named
  have hnm := (name_of_methodNamed Bd.named Bd.method).1
  have X0 : Stand p l e ({ frames := 1, cells := 0, slots := 0, locals := 12 } : Room) s m #[(.ref va)] below meth c s₁ [] 0 0 := Stand.of_body Bd
  have e0 : s₁.heap = h0 := by rw [← hh, Bd.state]; rfl
  have N0 := Fr.nil n0
  have hlk : meth.locks = false := BodyLoose.notSynchronized Bd
  show Goal p e below s (QN Z va h0 n0) 0 0 (s₁.setTop (entryFrame m #[(.ref va)] 1))
  refine Goal.to (B := s₁.setTop (mkF m 0 #[.val (.ref va)] [])) (fun tt kk => castTop (ef_7 m va ) kk) ?_
  refine Goal.to (B := s₁.setTop (mkF m 1 #[.val (.ref va)] [(.ref va)])) (fun tt kk => ?_) ?_
  · show Steps p.tables e below (s₁.setTop (mkF m 0 #[.val (.ref va)] [])) tt
    refine XS.aloadN X0.here hx rfl (hb hby d7_0) rfl rfl ?_
    exact kk
  obtain ⟨T1, X1, e1, st1⟩ := initO X0 hx hZ hown (hw _ (mw 40 rfl)) (hw _ (mw 15 rfl)) (hw _ (mw 16 rfl)) e0 (g := (mkF m 1 #[.val (.ref va)] [(.ref va)])) rfl (by rw [hml]; rfl) rfl (hb hby d7_1) (by decide) (W := 0) (by show 2 * 0 + _ ≤ _; exact Nat.le_of_eq rfl) (by decide)
  refine Goal.to (B := T1.setTop (mkF m 4 #[.val (.ref va)] [])) st1 ?_
  refine Goal.to (B := T1.setTop (mkF m 6 #[.val (.ref va)] [(.long (1 : Int64)), (.ref va)])) (fun tt kk => ?_) ?_
  · show Steps p.tables e below (T1.setTop (mkF m 4 #[.val (.ref va)] [])) tt
    refine XS.aloadN X1.here hx rfl (hb hby d7_4) rfl rfl ?_
    show Steps p.tables e below (T1.setTop (mkF m 5 #[.val (.ref va)] [(.ref va)])) tt
    refine XS.lconst X1.here hx rfl (hb hby d7_5) ?_
    exact kk
  obtain ⟨T2, h2, X2, e2, W2, st2⟩ := putF X1 hx hZ hown (host := "") (Or.inl (hw _ (mw 41 rfl))) Via.refl e1 F_markInterval_va E_va (Or.inl (hw _ (mw 42 rfl))) (hw _ (mw 35 rfl)) (ty := .long) (by decide) rfl rfl (g := (mkF m 6 #[.val (.ref va)] [(.long (1 : Int64)), (.ref va)])) rfl rfl (hb hby d7_6)
  have Fw2 : Fld Z h2 va "com/example/tributary/tributary/runtime/Revisits" "markInterval" "J" (.long (1 : Int64)) := F_markInterval_va.same W2
  have N2 := Fr.snoc X2 N0 g_va
  refine Goal.to (B := T2.setTop (mkF m 9 #[.val (.ref va)] [])) st2 ?_
  have f3 : Keep h0 h2 [va] := ((Keep.refl h0 [va]).wr W2 (Or.inl (List.mem_of_getElem? (i := 0) rfl)))
  have f4 : Fld Z h2 va "com/example/tributary/tributary/runtime/Revisits" "markedLeft" "Ljava/lang/Object;" .null := (F_markedLeft_va.other W2 (Or.inr (slot_ne (Or.inl (hw _ (mw 53 rfl))) (Or.inl (hw _ (mw 42 rfl))) (by decide) (t := (.object "java/lang/Object")) (t' := .long) (by decide) (by decide))))
  have f5 : Fld Z h2 va "com/example/tributary/tributary/runtime/Revisits" "markedRight" "Ljava/lang/Object;" .null := (F_markedRight_va.other W2 (Or.inr (slot_ne (Or.inl (hw _ (mw 57 rfl))) (Or.inl (hw _ (mw 42 rfl))) (by decide) (t := (.object "java/lang/Object")) (t' := .long) (by decide) (by decide))))
  have f6 : Fld Z h2 va "com/example/tributary/tributary/runtime/Revisits" "sinceMark" "J" (.long (0 : Int64)) := (F_sinceMark_va.other W2 (Or.inr (slot_ne (Or.inl (hw _ (mw 55 rfl))) (Or.inl (hw _ (mw 42 rfl))) (by decide) (t := .long) (t' := .long) (by decide) (by decide))))
  exact Goal.retN X2 hx Bd.returns (hb hby d7_9) hlk e2 ⟨rfl, N2, f3, f4, f5, f6, Fw2⟩ (by decide) (by decide)
theorem ef_9vv (m : MethodId) (x0 : Addr) (x1 : Value) (x2 : Value) (hx1 : x1.isRef = true) (hx2 : x2.isRef = true) : entryFrame m #[(.ref x0), x1, x2] 4 = mkF m 0 #[.val (.ref x0), .val x1, .val x2, .unset] [] := by
  rcases ref_cases hx1 with rfl | ⟨o1, rfl⟩ <;> rcases ref_cases hx2 with rfl | ⟨o2, rfl⟩ <;> first | (simp [entryFrame, mkF, argsToLocals, Value.category]; done) | rfl
theorem pn_9 : plainName "com/example/tributary/tributary/runtime/Revisits" = true := by first | (simp [plainName, overriddenIn]; done) | decide +kernel
theorem d9_0 : decode prog_118_method_3_code 0 = .ok (.aload_n 1, 1) := by decide +kernel
theorem d9_1 : decode prog_118_method_3_code 1 = .ok (.aload_n 0, 1) := by decide +kernel
theorem d9_2 : decode prog_118_method_3_code 2 = .ok (.getfield 17, 3) := by decide +kernel
theorem d9_5 : decode prog_118_method_3_code 5 = .ok (.if_acmp .ne 15, 3) := by decide +kernel
theorem d9_8 : decode prog_118_method_3_code 8 = .ok (.aload_n 2, 1) := by decide +kernel
theorem d9_9 : decode prog_118_method_3_code 9 = .ok (.aload_n 0, 1) := by decide +kernel
theorem d9_10 : decode prog_118_method_3_code 10 = .ok (.getfield 21, 3) := by decide +kernel
theorem d9_13 : decode prog_118_method_3_code 13 = .ok (.if_acmp .ne 7, 3) := by decide +kernel
theorem d9_16 : decode prog_118_method_3_code 16 = .ok (.iconst 1, 1) := by decide +kernel
theorem d9_17 : decode prog_118_method_3_code 17 = .ok (.goto 4, 3) := by decide +kernel
theorem d9_21 : decode prog_118_method_3_code 21 = .ok (.istore_n 3, 1) := by decide +kernel
theorem d9_22 : decode prog_118_method_3_code 22 = .ok (.iload_n 3, 1) := by decide +kernel
theorem d9_23 : decode prog_118_method_3_code 23 = .ok (.ifCond .eq 11, 3) := by decide +kernel
theorem d9_26 : decode prog_118_method_3_code 26 = .ok (.aload_n 0, 1) := by decide +kernel
theorem d9_27 : decode prog_118_method_3_code 27 = .ok (.lconst 0, 1) := by decide +kernel
theorem d9_28 : decode prog_118_method_3_code 28 = .ok (.putfield 24, 3) := by decide +kernel
theorem d9_31 : decode prog_118_method_3_code 31 = .ok (.goto 49, 3) := by decide +kernel
theorem d9_80 : decode prog_118_method_3_code 80 = .ok (.iload_n 3, 1) := by decide +kernel
theorem d9_81 : decode prog_118_method_3_code 81 = .ok (.ireturn, 1) := by decide +kernel
theorem d9_20 : decode prog_118_method_3_code 20 = .ok (.iconst 0, 1) := by decide +kernel
theorem d9_34 : decode prog_118_method_3_code 34 = .ok (.aload_n 0, 1) := by decide +kernel
theorem d9_35 : decode prog_118_method_3_code 35 = .ok (.dup, 1) := by decide +kernel
theorem d9_36 : decode prog_118_method_3_code 36 = .ok (.getfield 24, 3) := by decide +kernel
theorem d9_39 : decode prog_118_method_3_code 39 = .ok (.lconst 1, 1) := by decide +kernel
theorem d9_40 : decode prog_118_method_3_code 40 = .ok (.ladd, 1) := by decide +kernel
theorem d9_41 : decode prog_118_method_3_code 41 = .ok (.dup2_x1, 1) := by decide +kernel
theorem d9_42 : decode prog_118_method_3_code 42 = .ok (.putfield 24, 3) := by decide +kernel
theorem d9_45 : decode prog_118_method_3_code 45 = .ok (.aload_n 0, 1) := by decide +kernel
theorem d9_46 : decode prog_118_method_3_code 46 = .ok (.getfield 7, 3) := by decide +kernel
theorem d9_49 : decode prog_118_method_3_code 49 = .ok (.lcmp, 1) := by decide +kernel
theorem d9_50 : decode prog_118_method_3_code 50 = .ok (.ifCond .ne 30, 3) := by decide +kernel
theorem d9_53 : decode prog_118_method_3_code 53 = .ok (.aload_n 0, 1) := by decide +kernel
theorem d9_54 : decode prog_118_method_3_code 54 = .ok (.aload_n 1, 1) := by decide +kernel
theorem d9_55 : decode prog_118_method_3_code 55 = .ok (.putfield 17, 3) := by decide +kernel
theorem d9_58 : decode prog_118_method_3_code 58 = .ok (.aload_n 0, 1) := by decide +kernel
theorem d9_59 : decode prog_118_method_3_code 59 = .ok (.aload_n 2, 1) := by decide +kernel
theorem d9_60 : decode prog_118_method_3_code 60 = .ok (.putfield 21, 3) := by decide +kernel
theorem d9_63 : decode prog_118_method_3_code 63 = .ok (.aload_n 0, 1) := by decide +kernel
theorem d9_64 : decode prog_118_method_3_code 64 = .ok (.lconst 0, 1) := by decide +kernel
theorem d9_65 : decode prog_118_method_3_code 65 = .ok (.putfield 24, 3) := by decide +kernel
theorem d9_68 : decode prog_118_method_3_code 68 = .ok (.aload_n 0, 1) := by decide +kernel
theorem d9_69 : decode prog_118_method_3_code 69 = .ok (.dup, 1) := by decide +kernel
theorem d9_70 : decode prog_118_method_3_code 70 = .ok (.getfield 7, 3) := by decide +kernel
theorem d9_73 : decode prog_118_method_3_code 73 = .ok (.ldc2_w 27, 3) := by decide +kernel
theorem d9_76 : decode prog_118_method_3_code 76 = .ok (.lmul, 1) := by decide +kernel
theorem d9_77 : decode prog_118_method_3_code 77 = .ok (.putfield 7, 3) := by decide +kernel
def Qsb (Z : State) (va : Addr) (al : Value) (ar : Value) (sl : Value) (sr : Value) (ss : Int64) (si : Int64) (h0 : Heap) (n0 : Nat) (v : Option Value) (h : Heap) (L : List Loc) : Prop := ∃ nl : Value, ∃ nr : Value, ∃ ns : Int64, ∃ ni : Int64, v = some (.int (own_B al ar sl sr)) ∧ Fr n0 L ∧ Keep h0 h [va] ∧ Fld Z h va "com/example/tributary/tributary/runtime/Revisits" "markedLeft" "Ljava/lang/Object;" nl ∧ Fld Z h va "com/example/tributary/tributary/runtime/Revisits" "markedRight" "Ljava/lang/Object;" nr ∧ Fld Z h va "com/example/tributary/tributary/runtime/Revisits" "sinceMark" "J" (.long ns) ∧ Fld Z h va "com/example/tributary/tributary/runtime/Revisits" "markInterval" "J" (.long ni) ∧ nl.isRef = true ∧ nr.isRef = true ∧ nl = own_L al ar sl sr ss si ∧ nr = own_R al ar sl sr ss si ∧ ns = own_S al ar sl sr ss si ∧ ni = own_I al ar sl sr ss si
set_option maxRecDepth 65536 in
set_option maxHeartbeats 40000000 in
theorem rmsb (l : Launch) (Z : State) (a0 : Array Value) (hw : ∀ d ∈ tables_1, d.before a0 Z = true) (ws : List Jvm.Cond) (va : Addr) (al : Value) (ar : Value) (sl : Value) (sr : Value) (ss : Int64) (si : Int64) (h0 : Heap) (n0 : Nat) (Z0 : n0 ≤ h0.size) (E_va : Exa Z h0 va "com/example/tributary/tributary/runtime/Revisits") (F_markedLeft_va : Fld Z h0 va "com/example/tributary/tributary/runtime/Revisits" "markedLeft" "Ljava/lang/Object;" sl) (F_markedRight_va : Fld Z h0 va "com/example/tributary/tributary/runtime/Revisits" "markedRight" "Ljava/lang/Object;" sr) (F_sinceMark_va : Fld Z h0 va "com/example/tributary/tributary/runtime/Revisits" "sinceMark" "J" (.long ss)) (F_markInterval_va : Fld Z h0 va "com/example/tributary/tributary/runtime/Revisits" "markInterval" "J" (.long si)) (g_va : n0 ≤ va) (pal : al.isRef = true) (par : ar.isRef = true) (psl : sl.isRef = true) (psr : sr.isRef = true) :
    MetFree l (⟨"com/example/tributary/tributary/runtime/Revisits", "seenBefore", "(Ljava/lang/Object;Ljava/lang/Object;)Z"⟩ : MethodName) (head1 (Jvm.Cond.code (⟨"com/example/tributary/tributary/runtime/Revisits", "seenBefore", "(Ljava/lang/Object;Ljava/lang/Object;)Z"⟩ : MethodName) prog_118_method_3_code 4 (some .boolean) :: ws) ({ frames := 0, cells := 0, slots := 0, locals := 0 } : Room)) (fun a U => a = #[(.ref va), al, ar] ∧ Z.Warmed39 U.vm ∧ U.heap = h0) (fun _ _ _ _ _ => True) (fun _ U o U' => ∃ v L, o = .returned v ∧ Qsb Z va al ar sl sr ss si h0 n0 v U'.heap L ∧ FrameEnd U o U' L 0 0) := by
  refine MetFree.of_bodySF (plainFor_of_name pn_9) hisR ?_
  intro p e s m args below meth c s₁ Bd hml0 hP hK
  obtain ⟨rfl, hZ, hh⟩ := hP
  have hx := Bd.exec
  have hby := Bd.bytes
  have hml : c.maxLocals = 4 := hml0
  have hown : s.vm.findClass "com/example/tributary/tributary/runtime/Revisits" = some m.cls := findClass_of_methodNamed Bd.named
  have hnm := (name_of_methodNamed Bd.named Bd.method).1
  have X0 : Stand p l e ({ frames := 0, cells := 0, slots := 0, locals := 0 } : Room) s m #[(.ref va), al, ar] below meth c s₁ [] 0 0 := Stand.of_body Bd
  have e0 : s₁.heap = h0 := by rw [← hh, Bd.state]; rfl
  have N0 := Fr.nil n0
  have hlk : meth.locks = false := BodyLoose.notSynchronized Bd
  show Goal p e below s (Qsb Z va al ar sl sr ss si h0 n0) 0 0 (s₁.setTop (entryFrame m #[(.ref va), al, ar] 4))
  refine Goal.to (B := s₁.setTop (mkF m 0 #[.val (.ref va), .val al, .val ar, .unset] [])) (fun tt kk => castTop (ef_9vv m va al ar pal par) kk) ?_
  refine Goal.to (B := s₁.setTop (mkF m 2 #[.val (.ref va), .val al, .val ar, .unset] [(.ref va), al])) (fun tt kk => ?_) ?_
  · show Steps p.tables e below (s₁.setTop (mkF m 0 #[.val (.ref va), .val al, .val ar, .unset] [])) tt
    refine XS.aloadN X0.here hx rfl (hb hby d9_0) rfl pal ?_
    show Steps p.tables e below (s₁.setTop (mkF m 1 #[.val (.ref va), .val al, .val ar, .unset] [al])) tt
    refine XS.aloadN X0.here hx rfl (hb hby d9_1) rfl rfl ?_
    exact kk
  obtain ⟨T1, X1, e1, st1⟩ := getF X0 hx hZ hown (host := "") (Or.inl (hw _ (mw 52 rfl))) Via.refl e0 F_markedLeft_va (g := (mkF m 2 #[.val (.ref va), .val al, .val ar, .unset] [(.ref va), al])) rfl rfl (hb hby d9_2)
  refine Goal.to (B := T1.setTop (mkF m 5 #[.val (.ref va), .val al, .val ar, .unset] [sl, al])) st1 ?_
  by_cases hc2 : al = sl
  · refine Goal.to (B := T1.setTop (mkF m 10 #[.val (.ref va), .val al, .val ar, .unset] [(.ref va), ar])) (fun tt kk => ?_) ?_
    · show Steps p.tables e below (T1.setTop (mkF m 5 #[.val (.ref va), .val al, .val ar, .unset] [sl, al])) tt
      refine Jvm.RoadKit.acmp (g := (mkF m 5 #[.val (.ref va), .val al, .val ar, .unset] [sl, al])) X1 hx rfl pal psl (pc0 := 5) (pc' := 8) (same := true) rfl (hb hby d9_5) rfl (decide_eq_true hc2) (by decide) (by decide) ?_
      show Steps p.tables e below (T1.setTop (mkF m 8 #[.val (.ref va), .val al, .val ar, .unset] [])) tt
      refine XS.aloadN X1.here hx rfl (hb hby d9_8) rfl par ?_
      show Steps p.tables e below (T1.setTop (mkF m 9 #[.val (.ref va), .val al, .val ar, .unset] [ar])) tt
      refine XS.aloadN X1.here hx rfl (hb hby d9_9) rfl rfl ?_
      exact kk
    obtain ⟨T3, X3, e3, st3⟩ := getF X1 hx hZ hown (host := "") (Or.inl (hw _ (mw 56 rfl))) Via.refl e1 F_markedRight_va (g := (mkF m 10 #[.val (.ref va), .val al, .val ar, .unset] [(.ref va), ar])) rfl rfl (hb hby d9_10)
    refine Goal.to (B := T3.setTop (mkF m 13 #[.val (.ref va), .val al, .val ar, .unset] [sr, ar])) st3 ?_
    by_cases hc4 : ar = sr
    · refine Goal.to (B := T3.setTop (mkF m 28 #[.val (.ref va), .val al, .val ar, .val (.int (1 : Int32))] [(.long (0 : Int64)), (.ref va)])) (fun tt kk => ?_) ?_
      · show Steps p.tables e below (T3.setTop (mkF m 13 #[.val (.ref va), .val al, .val ar, .unset] [sr, ar])) tt
        refine Jvm.RoadKit.acmp (g := (mkF m 13 #[.val (.ref va), .val al, .val ar, .unset] [sr, ar])) X3 hx rfl par psr (pc0 := 13) (pc' := 16) (same := true) rfl (hb hby d9_13) rfl (decide_eq_true hc4) (by decide) (by decide) ?_
        show Steps p.tables e below (T3.setTop (mkF m 16 #[.val (.ref va), .val al, .val ar, .unset] [])) tt
        refine XS.iconst X3.here hx rfl (hb hby d9_16) ?_
        show Steps p.tables e below (T3.setTop (mkF m 17 #[.val (.ref va), .val al, .val ar, .unset] [(.int (1 : Int32))])) tt
        refine XS.goto X3.here hx rfl (pc0 := 17) (pc' := 21) rfl (hb hby d9_17) (by decide) (by decide) ?_
        show Steps p.tables e below (T3.setTop (mkF m 21 #[.val (.ref va), .val al, .val ar, .unset] [(.int (1 : Int32))])) tt
        refine XS.istoreN X3.here hx rfl (hb hby d9_21) rfl (l' := #[.val (.ref va), .val al, .val ar, .val (.int (1 : Int32))]) rfl ?_
        show Steps p.tables e below (T3.setTop (mkF m 22 #[.val (.ref va), .val al, .val ar, .val (.int (1 : Int32))] [])) tt
        refine XS.iloadN X3.here hx rfl (hb hby d9_22) rfl ?_
        show Steps p.tables e below (T3.setTop (mkF m 23 #[.val (.ref va), .val al, .val ar, .val (.int (1 : Int32))] [(.int (1 : Int32))])) tt
        refine XS.ifNo X3.here hx rfl (hb hby d9_23) rfl ((if0 _ _).trans (feq ((by decide) : ¬ ((1 : Int32) = (0 : Int32)))).1) ?_
        show Steps p.tables e below (T3.setTop (mkF m 26 #[.val (.ref va), .val al, .val ar, .val (.int (1 : Int32))] [])) tt
        refine XS.aloadN X3.here hx rfl (hb hby d9_26) rfl rfl ?_
        show Steps p.tables e below (T3.setTop (mkF m 27 #[.val (.ref va), .val al, .val ar, .val (.int (1 : Int32))] [(.ref va)])) tt
        refine XS.lconst X3.here hx rfl (hb hby d9_27) ?_
        exact kk
      obtain ⟨T5, h5, X5, e5, W5, st5⟩ := putF X3 hx hZ hown (host := "") (Or.inl (hw _ (mw 54 rfl))) Via.refl e3 F_sinceMark_va E_va (Or.inl (hw _ (mw 55 rfl))) (hw _ (mw 35 rfl)) (ty := .long) (by decide) rfl rfl (g := (mkF m 28 #[.val (.ref va), .val al, .val ar, .val (.int (1 : Int32))] [(.long (0 : Int64)), (.ref va)])) rfl rfl (hb hby d9_28)
      have Fw5 : Fld Z h5 va "com/example/tributary/tributary/runtime/Revisits" "sinceMark" "J" (.long (0 : Int64)) := F_sinceMark_va.same W5
      have N5 := Fr.snoc X5 N0 g_va
      refine Goal.to (B := T5.setTop (mkF m 31 #[.val (.ref va), .val al, .val ar, .val (.int (1 : Int32))] [])) st5 ?_
      refine Goal.to (B := T5.setTop (mkF m 81 #[.val (.ref va), .val al, .val ar, .val (.int (1 : Int32))] [(.int (1 : Int32))])) (fun tt kk => ?_) ?_
      · show Steps p.tables e below (T5.setTop (mkF m 31 #[.val (.ref va), .val al, .val ar, .val (.int (1 : Int32))] [])) tt
        refine XS.goto X5.here hx rfl (pc0 := 31) (pc' := 80) rfl (hb hby d9_31) (by decide) (by decide) ?_
        show Steps p.tables e below (T5.setTop (mkF m 80 #[.val (.ref va), .val al, .val ar, .val (.int (1 : Int32))] [])) tt
        refine XS.iloadN X5.here hx rfl (hb hby d9_80) rfl ?_
        exact kk
      have f6 : Keep h0 h5 [va] := ((Keep.refl h0 [va]).wr W5 (Or.inl (List.mem_of_getElem? (i := 0) rfl)))
      have f7 : Fld Z h5 va "com/example/tributary/tributary/runtime/Revisits" "markedLeft" "Ljava/lang/Object;" sl := (F_markedLeft_va.other W5 (Or.inr (slot_ne (Or.inl (hw _ (mw 53 rfl))) (Or.inl (hw _ (mw 55 rfl))) (by decide) (t := (.object "java/lang/Object")) (t' := .long) (by decide) (by decide))))
      have f8 : Fld Z h5 va "com/example/tributary/tributary/runtime/Revisits" "markedRight" "Ljava/lang/Object;" sr := (F_markedRight_va.other W5 (Or.inr (slot_ne (Or.inl (hw _ (mw 57 rfl))) (Or.inl (hw _ (mw 55 rfl))) (by decide) (t := (.object "java/lang/Object")) (t' := .long) (by decide) (by decide))))
      have f9 : Fld Z h5 va "com/example/tributary/tributary/runtime/Revisits" "markInterval" "J" (.long si) := (F_markInterval_va.other W5 (Or.inr (slot_ne (Or.inl (hw _ (mw 42 rfl))) (Or.inl (hw _ (mw 55 rfl))) (by decide) (t := .long) (t' := .long) (by decide) (by decide))))
      exact Goal.retV X5 hx Bd.returns rfl (Or.inl ⟨rfl, Or.inr (Or.inl rfl), _, rfl⟩) (hb hby d9_81) hlk e5 ⟨sl, sr, (0 : Int64), si, (congrArg some (by simp [own_B, hc2, hc4] : ((.int (1 : Int32)) : Value) = (.int (own_B al ar sl sr)))), N5, f6, f7, f8, Fw5, f9, psl, psr, (by simp [own_B, own_L, own_R, own_S, own_I, hc2, hc4]), (by simp [own_B, own_L, own_R, own_S, own_I, hc2, hc4]), (by simp [own_B, own_L, own_R, own_S, own_I, hc2, hc4]), (by simp [own_B, own_L, own_R, own_S, own_I, hc2, hc4])⟩ (by decide) (by decide)
    · refine Goal.to (B := T3.setTop (mkF m 36 #[.val (.ref va), .val al, .val ar, .val (.int (0 : Int32))] [(.ref va), (.ref va)])) (fun tt kk => ?_) ?_
      · show Steps p.tables e below (T3.setTop (mkF m 13 #[.val (.ref va), .val al, .val ar, .unset] [sr, ar])) tt
        refine Jvm.RoadKit.acmp (g := (mkF m 13 #[.val (.ref va), .val al, .val ar, .unset] [sr, ar])) X3 hx rfl par psr (pc0 := 13) (pc' := 20) (same := false) rfl (hb hby d9_13) rfl (decide_eq_false hc4) (by decide) (by decide) ?_
        show Steps p.tables e below (T3.setTop (mkF m 20 #[.val (.ref va), .val al, .val ar, .unset] [])) tt
        refine XS.iconst X3.here hx rfl (hb hby d9_20) ?_
        show Steps p.tables e below (T3.setTop (mkF m 21 #[.val (.ref va), .val al, .val ar, .unset] [(.int (0 : Int32))])) tt
        refine XS.istoreN X3.here hx rfl (hb hby d9_21) rfl (l' := #[.val (.ref va), .val al, .val ar, .val (.int (0 : Int32))]) rfl ?_
        show Steps p.tables e below (T3.setTop (mkF m 22 #[.val (.ref va), .val al, .val ar, .val (.int (0 : Int32))] [])) tt
        refine XS.iloadN X3.here hx rfl (hb hby d9_22) rfl ?_
        show Steps p.tables e below (T3.setTop (mkF m 23 #[.val (.ref va), .val al, .val ar, .val (.int (0 : Int32))] [(.int (0 : Int32))])) tt
        refine XS.ifYes X3.here hx rfl (pc0 := 23) (pc' := 34) rfl (hb hby d9_23) rfl ((if0 _ _).trans (teq (rfl : (0 : Int32) = (0 : Int32))).1) (by decide) (by decide) ?_
        show Steps p.tables e below (T3.setTop (mkF m 34 #[.val (.ref va), .val al, .val ar, .val (.int (0 : Int32))] [])) tt
        refine XS.aloadN X3.here hx rfl (hb hby d9_34) rfl rfl ?_
        show Steps p.tables e below (T3.setTop (mkF m 35 #[.val (.ref va), .val al, .val ar, .val (.int (0 : Int32))] [(.ref va)])) tt
        refine XS.dup X3.here hx rfl (hb hby d9_35) rfl rfl ?_
        exact kk
      obtain ⟨T10, X10, e10, st10⟩ := getF X3 hx hZ hown (host := "") (Or.inl (hw _ (mw 54 rfl))) Via.refl e3 F_sinceMark_va (g := (mkF m 36 #[.val (.ref va), .val al, .val ar, .val (.int (0 : Int32))] [(.ref va), (.ref va)])) rfl rfl (hb hby d9_36)
      refine Goal.to (B := T10.setTop (mkF m 39 #[.val (.ref va), .val al, .val ar, .val (.int (0 : Int32))] [(.long ss), (.ref va)])) st10 ?_
      refine Goal.to (B := T10.setTop (mkF m 42 #[.val (.ref va), .val al, .val ar, .val (.int (0 : Int32))] [(.long (ss + (1 : Int64))), (.ref va), (.long (ss + (1 : Int64)))])) (fun tt kk => ?_) ?_
      · show Steps p.tables e below (T10.setTop (mkF m 39 #[.val (.ref va), .val al, .val ar, .val (.int (0 : Int32))] [(.long ss), (.ref va)])) tt
        refine XS.lconst X10.here hx rfl (hb hby d9_39) ?_
        show Steps p.tables e below (T10.setTop (mkF m 40 #[.val (.ref va), .val al, .val ar, .val (.int (0 : Int32))] [(.long (1 : Int64)), (.long ss), (.ref va)])) tt
        refine XS.ladd X10.here hx rfl (hb hby d9_40) rfl ?_
        show Steps p.tables e below (T10.setTop (mkF m 41 #[.val (.ref va), .val al, .val ar, .val (.int (0 : Int32))] [(.long (ss + (1 : Int64))), (.ref va)])) tt
        jvm_step X10.here [X10.here.top, hx, (hb hby d9_41), Value.category]
        exact kk
      obtain ⟨T11, h11, X11, e11, W11, st11⟩ := putF X10 hx hZ hown (host := "") (Or.inl (hw _ (mw 54 rfl))) Via.refl e10 F_sinceMark_va E_va (Or.inl (hw _ (mw 55 rfl))) (hw _ (mw 35 rfl)) (ty := .long) (by decide) rfl rfl (g := (mkF m 42 #[.val (.ref va), .val al, .val ar, .val (.int (0 : Int32))] [(.long (ss + (1 : Int64))), (.ref va), (.long (ss + (1 : Int64)))])) rfl rfl (hb hby d9_42)
      have Fw11 : Fld Z h11 va "com/example/tributary/tributary/runtime/Revisits" "sinceMark" "J" (.long (ss + (1 : Int64))) := F_sinceMark_va.same W11
      have N11 := Fr.snoc X11 N0 g_va
      refine Goal.to (B := T11.setTop (mkF m 45 #[.val (.ref va), .val al, .val ar, .val (.int (0 : Int32))] [(.long (ss + (1 : Int64)))])) st11 ?_
      refine Goal.to (B := T11.setTop (mkF m 46 #[.val (.ref va), .val al, .val ar, .val (.int (0 : Int32))] [(.ref va), (.long (ss + (1 : Int64)))])) (fun tt kk => ?_) ?_
      · show Steps p.tables e below (T11.setTop (mkF m 45 #[.val (.ref va), .val al, .val ar, .val (.int (0 : Int32))] [(.long (ss + (1 : Int64)))])) tt
        refine XS.aloadN X11.here hx rfl (hb hby d9_45) rfl rfl ?_
        exact kk
      have f12 : Fld Z h11 va "com/example/tributary/tributary/runtime/Revisits" "markInterval" "J" (.long si) := (F_markInterval_va.other W11 (Or.inr (slot_ne (Or.inl (hw _ (mw 42 rfl))) (Or.inl (hw _ (mw 55 rfl))) (by decide) (t := .long) (t' := .long) (by decide) (by decide))))
      obtain ⟨T13, X13, e13, st13⟩ := getF X11 hx hZ hown (host := "") (Or.inl (hw _ (mw 41 rfl))) Via.refl e11 f12 (g := (mkF m 46 #[.val (.ref va), .val al, .val ar, .val (.int (0 : Int32))] [(.ref va), (.long (ss + (1 : Int64)))])) rfl rfl (hb hby d9_46)
      refine Goal.to (B := T13.setTop (mkF m 49 #[.val (.ref va), .val al, .val ar, .val (.int (0 : Int32))] [(.long si), (.long (ss + (1 : Int64)))])) st13 ?_
      refine Goal.to (B := T13.setTop (mkF m 50 #[.val (.ref va), .val al, .val ar, .val (.int (0 : Int32))] [(.int (lcmpW (ss + (1 : Int64)) si))])) (fun tt kk => ?_) ?_
      · show Steps p.tables e below (T13.setTop (mkF m 49 #[.val (.ref va), .val al, .val ar, .val (.int (0 : Int32))] [(.long si), (.long (ss + (1 : Int64)))])) tt
        refine XS.lcmp X13.here hx rfl (hb hby d9_49) rfl ?_
        exact kk
      by_cases hc14 : (lcmpW (ss + (1 : Int64)) si) = (0 : Int32)
      · refine Goal.to (B := T13.setTop (mkF m 55 #[.val (.ref va), .val al, .val ar, .val (.int (0 : Int32))] [al, (.ref va)])) (fun tt kk => ?_) ?_
        · show Steps p.tables e below (T13.setTop (mkF m 50 #[.val (.ref va), .val al, .val ar, .val (.int (0 : Int32))] [(.int (lcmpW (ss + (1 : Int64)) si))])) tt
          refine XS.ifNo X13.here hx rfl (hb hby d9_50) rfl ((if0 _ _).trans (teq hc14).2) ?_
          show Steps p.tables e below (T13.setTop (mkF m 53 #[.val (.ref va), .val al, .val ar, .val (.int (0 : Int32))] [])) tt
          refine XS.aloadN X13.here hx rfl (hb hby d9_53) rfl rfl ?_
          show Steps p.tables e below (T13.setTop (mkF m 54 #[.val (.ref va), .val al, .val ar, .val (.int (0 : Int32))] [(.ref va)])) tt
          refine XS.aloadN X13.here hx rfl (hb hby d9_54) rfl pal ?_
          exact kk
        have f15 : Fld Z h11 va "com/example/tributary/tributary/runtime/Revisits" "markedLeft" "Ljava/lang/Object;" sl := (F_markedLeft_va.other W11 (Or.inr (slot_ne (Or.inl (hw _ (mw 53 rfl))) (Or.inl (hw _ (mw 55 rfl))) (by decide) (t := (.object "java/lang/Object")) (t' := .long) (by decide) (by decide))))
        have f16 : Exa Z h11 va "com/example/tributary/tributary/runtime/Revisits" := (E_va.wr W11)
        obtain ⟨T17, h17, X17, e17, W17, st17⟩ := putF X13 hx hZ hown (host := "") (Or.inl (hw _ (mw 52 rfl))) Via.refl e13 f15 f16 (Or.inl (hw _ (mw 53 rfl))) (hw _ (mw 35 rfl)) (ty := (.object "java/lang/Object")) (by decide) (narV pal) (fitV pal) (g := (mkF m 55 #[.val (.ref va), .val al, .val ar, .val (.int (0 : Int32))] [al, (.ref va)])) rfl rfl (hb hby d9_55)
        have Fw17 : Fld Z h17 va "com/example/tributary/tributary/runtime/Revisits" "markedLeft" "Ljava/lang/Object;" al := f15.same W17
        have N17 := Fr.snoc X17 N11 g_va
        refine Goal.to (B := T17.setTop (mkF m 58 #[.val (.ref va), .val al, .val ar, .val (.int (0 : Int32))] [])) st17 ?_
        refine Goal.to (B := T17.setTop (mkF m 60 #[.val (.ref va), .val al, .val ar, .val (.int (0 : Int32))] [ar, (.ref va)])) (fun tt kk => ?_) ?_
        · show Steps p.tables e below (T17.setTop (mkF m 58 #[.val (.ref va), .val al, .val ar, .val (.int (0 : Int32))] [])) tt
          refine XS.aloadN X17.here hx rfl (hb hby d9_58) rfl rfl ?_
          show Steps p.tables e below (T17.setTop (mkF m 59 #[.val (.ref va), .val al, .val ar, .val (.int (0 : Int32))] [(.ref va)])) tt
          refine XS.aloadN X17.here hx rfl (hb hby d9_59) rfl par ?_
          exact kk
        have f18 : Fld Z h17 va "com/example/tributary/tributary/runtime/Revisits" "markedRight" "Ljava/lang/Object;" sr := ((F_markedRight_va.other W11 (Or.inr (slot_ne (Or.inl (hw _ (mw 57 rfl))) (Or.inl (hw _ (mw 55 rfl))) (by decide) (t := (.object "java/lang/Object")) (t' := .long) (by decide) (by decide)))).other W17 (Or.inr (slot_ne (Or.inl (hw _ (mw 57 rfl))) (Or.inl (hw _ (mw 53 rfl))) (by decide) (t := (.object "java/lang/Object")) (t' := (.object "java/lang/Object")) (by decide) (by decide))))
        have f19 : Exa Z h17 va "com/example/tributary/tributary/runtime/Revisits" := (f16.wr W17)
        obtain ⟨T20, h20, X20, e20, W20, st20⟩ := putF X17 hx hZ hown (host := "") (Or.inl (hw _ (mw 56 rfl))) Via.refl e17 f18 f19 (Or.inl (hw _ (mw 57 rfl))) (hw _ (mw 35 rfl)) (ty := (.object "java/lang/Object")) (by decide) (narV par) (fitV par) (g := (mkF m 60 #[.val (.ref va), .val al, .val ar, .val (.int (0 : Int32))] [ar, (.ref va)])) rfl rfl (hb hby d9_60)
        have Fw20 : Fld Z h20 va "com/example/tributary/tributary/runtime/Revisits" "markedRight" "Ljava/lang/Object;" ar := f18.same W20
        have N20 := Fr.snoc X20 N17 g_va
        refine Goal.to (B := T20.setTop (mkF m 63 #[.val (.ref va), .val al, .val ar, .val (.int (0 : Int32))] [])) st20 ?_
        refine Goal.to (B := T20.setTop (mkF m 65 #[.val (.ref va), .val al, .val ar, .val (.int (0 : Int32))] [(.long (0 : Int64)), (.ref va)])) (fun tt kk => ?_) ?_
        · show Steps p.tables e below (T20.setTop (mkF m 63 #[.val (.ref va), .val al, .val ar, .val (.int (0 : Int32))] [])) tt
          refine XS.aloadN X20.here hx rfl (hb hby d9_63) rfl rfl ?_
          show Steps p.tables e below (T20.setTop (mkF m 64 #[.val (.ref va), .val al, .val ar, .val (.int (0 : Int32))] [(.ref va)])) tt
          refine XS.lconst X20.here hx rfl (hb hby d9_64) ?_
          exact kk
        have f21 : Fld Z h20 va "com/example/tributary/tributary/runtime/Revisits" "sinceMark" "J" (.long (ss + (1 : Int64))) := ((Fw11.other W17 (Or.inr (slot_ne (Or.inl (hw _ (mw 55 rfl))) (Or.inl (hw _ (mw 53 rfl))) (by decide) (t := .long) (t' := (.object "java/lang/Object")) (by decide) (by decide)))).other W20 (Or.inr (slot_ne (Or.inl (hw _ (mw 55 rfl))) (Or.inl (hw _ (mw 57 rfl))) (by decide) (t := .long) (t' := (.object "java/lang/Object")) (by decide) (by decide))))
        have f22 : Exa Z h20 va "com/example/tributary/tributary/runtime/Revisits" := (f19.wr W20)
        obtain ⟨T23, h23, X23, e23, W23, st23⟩ := putF X20 hx hZ hown (host := "") (Or.inl (hw _ (mw 54 rfl))) Via.refl e20 f21 f22 (Or.inl (hw _ (mw 55 rfl))) (hw _ (mw 35 rfl)) (ty := .long) (by decide) rfl rfl (g := (mkF m 65 #[.val (.ref va), .val al, .val ar, .val (.int (0 : Int32))] [(.long (0 : Int64)), (.ref va)])) rfl rfl (hb hby d9_65)
        have Fw23 : Fld Z h23 va "com/example/tributary/tributary/runtime/Revisits" "sinceMark" "J" (.long (0 : Int64)) := f21.same W23
        have N23 := Fr.snoc X23 N20 g_va
        refine Goal.to (B := T23.setTop (mkF m 68 #[.val (.ref va), .val al, .val ar, .val (.int (0 : Int32))] [])) st23 ?_
        refine Goal.to (B := T23.setTop (mkF m 70 #[.val (.ref va), .val al, .val ar, .val (.int (0 : Int32))] [(.ref va), (.ref va)])) (fun tt kk => ?_) ?_
        · show Steps p.tables e below (T23.setTop (mkF m 68 #[.val (.ref va), .val al, .val ar, .val (.int (0 : Int32))] [])) tt
          refine XS.aloadN X23.here hx rfl (hb hby d9_68) rfl rfl ?_
          show Steps p.tables e below (T23.setTop (mkF m 69 #[.val (.ref va), .val al, .val ar, .val (.int (0 : Int32))] [(.ref va)])) tt
          refine XS.dup X23.here hx rfl (hb hby d9_69) rfl rfl ?_
          exact kk
        have f24 : Fld Z h23 va "com/example/tributary/tributary/runtime/Revisits" "markInterval" "J" (.long si) := (((f12.other W17 (Or.inr (slot_ne (Or.inl (hw _ (mw 42 rfl))) (Or.inl (hw _ (mw 53 rfl))) (by decide) (t := .long) (t' := (.object "java/lang/Object")) (by decide) (by decide)))).other W20 (Or.inr (slot_ne (Or.inl (hw _ (mw 42 rfl))) (Or.inl (hw _ (mw 57 rfl))) (by decide) (t := .long) (t' := (.object "java/lang/Object")) (by decide) (by decide)))).other W23 (Or.inr (slot_ne (Or.inl (hw _ (mw 42 rfl))) (Or.inl (hw _ (mw 55 rfl))) (by decide) (t := .long) (t' := .long) (by decide) (by decide))))
        obtain ⟨T25, X25, e25, st25⟩ := getF X23 hx hZ hown (host := "") (Or.inl (hw _ (mw 41 rfl))) Via.refl e23 f24 (g := (mkF m 70 #[.val (.ref va), .val al, .val ar, .val (.int (0 : Int32))] [(.ref va), (.ref va)])) rfl rfl (hb hby d9_70)
        refine Goal.to (B := T25.setTop (mkF m 73 #[.val (.ref va), .val al, .val ar, .val (.int (0 : Int32))] [(.long si), (.ref va)])) st25 ?_
        refine Goal.to (B := T25.setTop (mkF m 77 #[.val (.ref va), .val al, .val ar, .val (.int (0 : Int32))] [(.long (si * (2 : Int64))), (.ref va)])) (fun tt kk => ?_) ?_
        · show Steps p.tables e below (T25.setTop (mkF m 73 #[.val (.ref va), .val al, .val ar, .val (.int (0 : Int32))] [(.long si), (.ref va)])) tt
          refine X25.ldc2Long hx hown (mvT hZ (hw _ (mw 58 rfl))) (g := (mkF m 73 #[.val (.ref va), .val al, .val ar, .val (.int (0 : Int32))] [(.long si), (.ref va)])) rfl (hb hby d9_73) _ ?_
          show Steps p.tables e below (T25.setTop (mkF m 76 #[.val (.ref va), .val al, .val ar, .val (.int (0 : Int32))] [(.long (2 : Int64)), (.long si), (.ref va)])) tt
          refine XS.lmul X25.here hx rfl (hb hby d9_76) rfl ?_
          exact kk
        have f26 : Exa Z h23 va "com/example/tributary/tributary/runtime/Revisits" := (f22.wr W23)
        obtain ⟨T27, h27, X27, e27, W27, st27⟩ := putF X25 hx hZ hown (host := "") (Or.inl (hw _ (mw 41 rfl))) Via.refl e25 f24 f26 (Or.inl (hw _ (mw 42 rfl))) (hw _ (mw 35 rfl)) (ty := .long) (by decide) rfl rfl (g := (mkF m 77 #[.val (.ref va), .val al, .val ar, .val (.int (0 : Int32))] [(.long (si * (2 : Int64))), (.ref va)])) rfl rfl (hb hby d9_77)
        have Fw27 : Fld Z h27 va "com/example/tributary/tributary/runtime/Revisits" "markInterval" "J" (.long (si * (2 : Int64))) := f24.same W27
        have N27 := Fr.snoc X27 N23 g_va
        refine Goal.to (B := T27.setTop (mkF m 80 #[.val (.ref va), .val al, .val ar, .val (.int (0 : Int32))] [])) st27 ?_
        refine Goal.to (B := T27.setTop (mkF m 81 #[.val (.ref va), .val al, .val ar, .val (.int (0 : Int32))] [(.int (0 : Int32))])) (fun tt kk => ?_) ?_
        · show Steps p.tables e below (T27.setTop (mkF m 80 #[.val (.ref va), .val al, .val ar, .val (.int (0 : Int32))] [])) tt
          refine XS.iloadN X27.here hx rfl (hb hby d9_80) rfl ?_
          exact kk
        have f28 : Keep h0 h27 [va] := ((((((Keep.refl h0 [va]).wr W11 (Or.inl (List.mem_of_getElem? (i := 0) rfl))).wr W17 (Or.inl (List.mem_of_getElem? (i := 0) rfl))).wr W20 (Or.inl (List.mem_of_getElem? (i := 0) rfl))).wr W23 (Or.inl (List.mem_of_getElem? (i := 0) rfl))).wr W27 (Or.inl (List.mem_of_getElem? (i := 0) rfl)))
        have f29 : Fld Z h27 va "com/example/tributary/tributary/runtime/Revisits" "markedLeft" "Ljava/lang/Object;" al := (((Fw17.other W20 (Or.inr (slot_ne (Or.inl (hw _ (mw 53 rfl))) (Or.inl (hw _ (mw 57 rfl))) (by decide) (t := (.object "java/lang/Object")) (t' := (.object "java/lang/Object")) (by decide) (by decide)))).other W23 (Or.inr (slot_ne (Or.inl (hw _ (mw 53 rfl))) (Or.inl (hw _ (mw 55 rfl))) (by decide) (t := (.object "java/lang/Object")) (t' := .long) (by decide) (by decide)))).other W27 (Or.inr (slot_ne (Or.inl (hw _ (mw 53 rfl))) (Or.inl (hw _ (mw 42 rfl))) (by decide) (t := (.object "java/lang/Object")) (t' := .long) (by decide) (by decide))))
        have f30 : Fld Z h27 va "com/example/tributary/tributary/runtime/Revisits" "markedRight" "Ljava/lang/Object;" ar := ((Fw20.other W23 (Or.inr (slot_ne (Or.inl (hw _ (mw 57 rfl))) (Or.inl (hw _ (mw 55 rfl))) (by decide) (t := (.object "java/lang/Object")) (t' := .long) (by decide) (by decide)))).other W27 (Or.inr (slot_ne (Or.inl (hw _ (mw 57 rfl))) (Or.inl (hw _ (mw 42 rfl))) (by decide) (t := (.object "java/lang/Object")) (t' := .long) (by decide) (by decide))))
        have f31 : Fld Z h27 va "com/example/tributary/tributary/runtime/Revisits" "sinceMark" "J" (.long (0 : Int64)) := (Fw23.other W27 (Or.inr (slot_ne (Or.inl (hw _ (mw 55 rfl))) (Or.inl (hw _ (mw 42 rfl))) (by decide) (t := .long) (t' := .long) (by decide) (by decide))))
        exact Goal.retV X27 hx Bd.returns rfl (Or.inl ⟨rfl, Or.inr (Or.inl rfl), _, rfl⟩) (hb hby d9_81) hlk e27 ⟨al, ar, (0 : Int64), (si * (2 : Int64)), (congrArg some (by simp [own_B, hc2, hc4, hc14] : ((.int (0 : Int32)) : Value) = (.int (own_B al ar sl sr)))), N27, f28, f29, f30, f31, Fw27, pal, par, (by simp [own_B, own_L, own_R, own_S, own_I, hc2, hc4, hc14]), (by simp [own_B, own_L, own_R, own_S, own_I, hc2, hc4, hc14]), (by simp [own_B, own_L, own_R, own_S, own_I, hc2, hc4, hc14]), (by simp [own_B, own_L, own_R, own_S, own_I, hc2, hc4, hc14])⟩ (by decide) (by decide)
      · refine Goal.to (B := T13.setTop (mkF m 81 #[.val (.ref va), .val al, .val ar, .val (.int (0 : Int32))] [(.int (0 : Int32))])) (fun tt kk => ?_) ?_
        · show Steps p.tables e below (T13.setTop (mkF m 50 #[.val (.ref va), .val al, .val ar, .val (.int (0 : Int32))] [(.int (lcmpW (ss + (1 : Int64)) si))])) tt
          refine XS.ifYes X13.here hx rfl (pc0 := 50) (pc' := 80) rfl (hb hby d9_50) rfl ((if0 _ _).trans (feq hc14).2) (by decide) (by decide) ?_
          show Steps p.tables e below (T13.setTop (mkF m 80 #[.val (.ref va), .val al, .val ar, .val (.int (0 : Int32))] [])) tt
          refine XS.iloadN X13.here hx rfl (hb hby d9_80) rfl ?_
          exact kk
        have f32 : Keep h0 h11 [va] := ((Keep.refl h0 [va]).wr W11 (Or.inl (List.mem_of_getElem? (i := 0) rfl)))
        have f33 : Fld Z h11 va "com/example/tributary/tributary/runtime/Revisits" "markedLeft" "Ljava/lang/Object;" sl := (F_markedLeft_va.other W11 (Or.inr (slot_ne (Or.inl (hw _ (mw 53 rfl))) (Or.inl (hw _ (mw 55 rfl))) (by decide) (t := (.object "java/lang/Object")) (t' := .long) (by decide) (by decide))))
        have f34 : Fld Z h11 va "com/example/tributary/tributary/runtime/Revisits" "markedRight" "Ljava/lang/Object;" sr := (F_markedRight_va.other W11 (Or.inr (slot_ne (Or.inl (hw _ (mw 57 rfl))) (Or.inl (hw _ (mw 55 rfl))) (by decide) (t := (.object "java/lang/Object")) (t' := .long) (by decide) (by decide))))
        exact Goal.retV X13 hx Bd.returns rfl (Or.inl ⟨rfl, Or.inr (Or.inl rfl), _, rfl⟩) (hb hby d9_81) hlk e13 ⟨sl, sr, (ss + (1 : Int64)), si, (congrArg some (by simp [own_B, hc2, hc4, hc14] : ((.int (0 : Int32)) : Value) = (.int (own_B al ar sl sr)))), N11, f32, f33, f34, Fw11, f12, psl, psr, (by simp [own_B, own_L, own_R, own_S, own_I, hc2, hc4, hc14]), (by simp [own_B, own_L, own_R, own_S, own_I, hc2, hc4, hc14]), (by simp [own_B, own_L, own_R, own_S, own_I, hc2, hc4, hc14]), (by simp [own_B, own_L, own_R, own_S, own_I, hc2, hc4, hc14])⟩ (by decide) (by decide)
  · refine Goal.to (B := T1.setTop (mkF m 36 #[.val (.ref va), .val al, .val ar, .val (.int (0 : Int32))] [(.ref va), (.ref va)])) (fun tt kk => ?_) ?_
    · show Steps p.tables e below (T1.setTop (mkF m 5 #[.val (.ref va), .val al, .val ar, .unset] [sl, al])) tt
      refine Jvm.RoadKit.acmp (g := (mkF m 5 #[.val (.ref va), .val al, .val ar, .unset] [sl, al])) X1 hx rfl pal psl (pc0 := 5) (pc' := 20) (same := false) rfl (hb hby d9_5) rfl (decide_eq_false hc2) (by decide) (by decide) ?_
      show Steps p.tables e below (T1.setTop (mkF m 20 #[.val (.ref va), .val al, .val ar, .unset] [])) tt
      refine XS.iconst X1.here hx rfl (hb hby d9_20) ?_
      show Steps p.tables e below (T1.setTop (mkF m 21 #[.val (.ref va), .val al, .val ar, .unset] [(.int (0 : Int32))])) tt
      refine XS.istoreN X1.here hx rfl (hb hby d9_21) rfl (l' := #[.val (.ref va), .val al, .val ar, .val (.int (0 : Int32))]) rfl ?_
      show Steps p.tables e below (T1.setTop (mkF m 22 #[.val (.ref va), .val al, .val ar, .val (.int (0 : Int32))] [])) tt
      refine XS.iloadN X1.here hx rfl (hb hby d9_22) rfl ?_
      show Steps p.tables e below (T1.setTop (mkF m 23 #[.val (.ref va), .val al, .val ar, .val (.int (0 : Int32))] [(.int (0 : Int32))])) tt
      refine XS.ifYes X1.here hx rfl (pc0 := 23) (pc' := 34) rfl (hb hby d9_23) rfl ((if0 _ _).trans (teq (rfl : (0 : Int32) = (0 : Int32))).1) (by decide) (by decide) ?_
      show Steps p.tables e below (T1.setTop (mkF m 34 #[.val (.ref va), .val al, .val ar, .val (.int (0 : Int32))] [])) tt
      refine XS.aloadN X1.here hx rfl (hb hby d9_34) rfl rfl ?_
      show Steps p.tables e below (T1.setTop (mkF m 35 #[.val (.ref va), .val al, .val ar, .val (.int (0 : Int32))] [(.ref va)])) tt
      refine XS.dup X1.here hx rfl (hb hby d9_35) rfl rfl ?_
      exact kk
    obtain ⟨T35, X35, e35, st35⟩ := getF X1 hx hZ hown (host := "") (Or.inl (hw _ (mw 54 rfl))) Via.refl e1 F_sinceMark_va (g := (mkF m 36 #[.val (.ref va), .val al, .val ar, .val (.int (0 : Int32))] [(.ref va), (.ref va)])) rfl rfl (hb hby d9_36)
    refine Goal.to (B := T35.setTop (mkF m 39 #[.val (.ref va), .val al, .val ar, .val (.int (0 : Int32))] [(.long ss), (.ref va)])) st35 ?_
    refine Goal.to (B := T35.setTop (mkF m 42 #[.val (.ref va), .val al, .val ar, .val (.int (0 : Int32))] [(.long (ss + (1 : Int64))), (.ref va), (.long (ss + (1 : Int64)))])) (fun tt kk => ?_) ?_
    · show Steps p.tables e below (T35.setTop (mkF m 39 #[.val (.ref va), .val al, .val ar, .val (.int (0 : Int32))] [(.long ss), (.ref va)])) tt
      refine XS.lconst X35.here hx rfl (hb hby d9_39) ?_
      show Steps p.tables e below (T35.setTop (mkF m 40 #[.val (.ref va), .val al, .val ar, .val (.int (0 : Int32))] [(.long (1 : Int64)), (.long ss), (.ref va)])) tt
      refine XS.ladd X35.here hx rfl (hb hby d9_40) rfl ?_
      show Steps p.tables e below (T35.setTop (mkF m 41 #[.val (.ref va), .val al, .val ar, .val (.int (0 : Int32))] [(.long (ss + (1 : Int64))), (.ref va)])) tt
      jvm_step X35.here [X35.here.top, hx, (hb hby d9_41), Value.category]
      exact kk
    obtain ⟨T36, h36, X36, e36, W36, st36⟩ := putF X35 hx hZ hown (host := "") (Or.inl (hw _ (mw 54 rfl))) Via.refl e35 F_sinceMark_va E_va (Or.inl (hw _ (mw 55 rfl))) (hw _ (mw 35 rfl)) (ty := .long) (by decide) rfl rfl (g := (mkF m 42 #[.val (.ref va), .val al, .val ar, .val (.int (0 : Int32))] [(.long (ss + (1 : Int64))), (.ref va), (.long (ss + (1 : Int64)))])) rfl rfl (hb hby d9_42)
    have Fw36 : Fld Z h36 va "com/example/tributary/tributary/runtime/Revisits" "sinceMark" "J" (.long (ss + (1 : Int64))) := F_sinceMark_va.same W36
    have N36 := Fr.snoc X36 N0 g_va
    refine Goal.to (B := T36.setTop (mkF m 45 #[.val (.ref va), .val al, .val ar, .val (.int (0 : Int32))] [(.long (ss + (1 : Int64)))])) st36 ?_
    refine Goal.to (B := T36.setTop (mkF m 46 #[.val (.ref va), .val al, .val ar, .val (.int (0 : Int32))] [(.ref va), (.long (ss + (1 : Int64)))])) (fun tt kk => ?_) ?_
    · show Steps p.tables e below (T36.setTop (mkF m 45 #[.val (.ref va), .val al, .val ar, .val (.int (0 : Int32))] [(.long (ss + (1 : Int64)))])) tt
      refine XS.aloadN X36.here hx rfl (hb hby d9_45) rfl rfl ?_
      exact kk
    have f37 : Fld Z h36 va "com/example/tributary/tributary/runtime/Revisits" "markInterval" "J" (.long si) := (F_markInterval_va.other W36 (Or.inr (slot_ne (Or.inl (hw _ (mw 42 rfl))) (Or.inl (hw _ (mw 55 rfl))) (by decide) (t := .long) (t' := .long) (by decide) (by decide))))
    obtain ⟨T38, X38, e38, st38⟩ := getF X36 hx hZ hown (host := "") (Or.inl (hw _ (mw 41 rfl))) Via.refl e36 f37 (g := (mkF m 46 #[.val (.ref va), .val al, .val ar, .val (.int (0 : Int32))] [(.ref va), (.long (ss + (1 : Int64)))])) rfl rfl (hb hby d9_46)
    refine Goal.to (B := T38.setTop (mkF m 49 #[.val (.ref va), .val al, .val ar, .val (.int (0 : Int32))] [(.long si), (.long (ss + (1 : Int64)))])) st38 ?_
    refine Goal.to (B := T38.setTop (mkF m 50 #[.val (.ref va), .val al, .val ar, .val (.int (0 : Int32))] [(.int (lcmpW (ss + (1 : Int64)) si))])) (fun tt kk => ?_) ?_
    · show Steps p.tables e below (T38.setTop (mkF m 49 #[.val (.ref va), .val al, .val ar, .val (.int (0 : Int32))] [(.long si), (.long (ss + (1 : Int64)))])) tt
      refine XS.lcmp X38.here hx rfl (hb hby d9_49) rfl ?_
      exact kk
    by_cases hc39 : (lcmpW (ss + (1 : Int64)) si) = (0 : Int32)
    · refine Goal.to (B := T38.setTop (mkF m 55 #[.val (.ref va), .val al, .val ar, .val (.int (0 : Int32))] [al, (.ref va)])) (fun tt kk => ?_) ?_
      · show Steps p.tables e below (T38.setTop (mkF m 50 #[.val (.ref va), .val al, .val ar, .val (.int (0 : Int32))] [(.int (lcmpW (ss + (1 : Int64)) si))])) tt
        refine XS.ifNo X38.here hx rfl (hb hby d9_50) rfl ((if0 _ _).trans (teq hc39).2) ?_
        show Steps p.tables e below (T38.setTop (mkF m 53 #[.val (.ref va), .val al, .val ar, .val (.int (0 : Int32))] [])) tt
        refine XS.aloadN X38.here hx rfl (hb hby d9_53) rfl rfl ?_
        show Steps p.tables e below (T38.setTop (mkF m 54 #[.val (.ref va), .val al, .val ar, .val (.int (0 : Int32))] [(.ref va)])) tt
        refine XS.aloadN X38.here hx rfl (hb hby d9_54) rfl pal ?_
        exact kk
      have f40 : Fld Z h36 va "com/example/tributary/tributary/runtime/Revisits" "markedLeft" "Ljava/lang/Object;" sl := (F_markedLeft_va.other W36 (Or.inr (slot_ne (Or.inl (hw _ (mw 53 rfl))) (Or.inl (hw _ (mw 55 rfl))) (by decide) (t := (.object "java/lang/Object")) (t' := .long) (by decide) (by decide))))
      have f41 : Exa Z h36 va "com/example/tributary/tributary/runtime/Revisits" := (E_va.wr W36)
      obtain ⟨T42, h42, X42, e42, W42, st42⟩ := putF X38 hx hZ hown (host := "") (Or.inl (hw _ (mw 52 rfl))) Via.refl e38 f40 f41 (Or.inl (hw _ (mw 53 rfl))) (hw _ (mw 35 rfl)) (ty := (.object "java/lang/Object")) (by decide) (narV pal) (fitV pal) (g := (mkF m 55 #[.val (.ref va), .val al, .val ar, .val (.int (0 : Int32))] [al, (.ref va)])) rfl rfl (hb hby d9_55)
      have Fw42 : Fld Z h42 va "com/example/tributary/tributary/runtime/Revisits" "markedLeft" "Ljava/lang/Object;" al := f40.same W42
      have N42 := Fr.snoc X42 N36 g_va
      refine Goal.to (B := T42.setTop (mkF m 58 #[.val (.ref va), .val al, .val ar, .val (.int (0 : Int32))] [])) st42 ?_
      refine Goal.to (B := T42.setTop (mkF m 60 #[.val (.ref va), .val al, .val ar, .val (.int (0 : Int32))] [ar, (.ref va)])) (fun tt kk => ?_) ?_
      · show Steps p.tables e below (T42.setTop (mkF m 58 #[.val (.ref va), .val al, .val ar, .val (.int (0 : Int32))] [])) tt
        refine XS.aloadN X42.here hx rfl (hb hby d9_58) rfl rfl ?_
        show Steps p.tables e below (T42.setTop (mkF m 59 #[.val (.ref va), .val al, .val ar, .val (.int (0 : Int32))] [(.ref va)])) tt
        refine XS.aloadN X42.here hx rfl (hb hby d9_59) rfl par ?_
        exact kk
      have f43 : Fld Z h42 va "com/example/tributary/tributary/runtime/Revisits" "markedRight" "Ljava/lang/Object;" sr := ((F_markedRight_va.other W36 (Or.inr (slot_ne (Or.inl (hw _ (mw 57 rfl))) (Or.inl (hw _ (mw 55 rfl))) (by decide) (t := (.object "java/lang/Object")) (t' := .long) (by decide) (by decide)))).other W42 (Or.inr (slot_ne (Or.inl (hw _ (mw 57 rfl))) (Or.inl (hw _ (mw 53 rfl))) (by decide) (t := (.object "java/lang/Object")) (t' := (.object "java/lang/Object")) (by decide) (by decide))))
      have f44 : Exa Z h42 va "com/example/tributary/tributary/runtime/Revisits" := (f41.wr W42)
      obtain ⟨T45, h45, X45, e45, W45, st45⟩ := putF X42 hx hZ hown (host := "") (Or.inl (hw _ (mw 56 rfl))) Via.refl e42 f43 f44 (Or.inl (hw _ (mw 57 rfl))) (hw _ (mw 35 rfl)) (ty := (.object "java/lang/Object")) (by decide) (narV par) (fitV par) (g := (mkF m 60 #[.val (.ref va), .val al, .val ar, .val (.int (0 : Int32))] [ar, (.ref va)])) rfl rfl (hb hby d9_60)
      have Fw45 : Fld Z h45 va "com/example/tributary/tributary/runtime/Revisits" "markedRight" "Ljava/lang/Object;" ar := f43.same W45
      have N45 := Fr.snoc X45 N42 g_va
      refine Goal.to (B := T45.setTop (mkF m 63 #[.val (.ref va), .val al, .val ar, .val (.int (0 : Int32))] [])) st45 ?_
      refine Goal.to (B := T45.setTop (mkF m 65 #[.val (.ref va), .val al, .val ar, .val (.int (0 : Int32))] [(.long (0 : Int64)), (.ref va)])) (fun tt kk => ?_) ?_
      · show Steps p.tables e below (T45.setTop (mkF m 63 #[.val (.ref va), .val al, .val ar, .val (.int (0 : Int32))] [])) tt
        refine XS.aloadN X45.here hx rfl (hb hby d9_63) rfl rfl ?_
        show Steps p.tables e below (T45.setTop (mkF m 64 #[.val (.ref va), .val al, .val ar, .val (.int (0 : Int32))] [(.ref va)])) tt
        refine XS.lconst X45.here hx rfl (hb hby d9_64) ?_
        exact kk
      have f46 : Fld Z h45 va "com/example/tributary/tributary/runtime/Revisits" "sinceMark" "J" (.long (ss + (1 : Int64))) := ((Fw36.other W42 (Or.inr (slot_ne (Or.inl (hw _ (mw 55 rfl))) (Or.inl (hw _ (mw 53 rfl))) (by decide) (t := .long) (t' := (.object "java/lang/Object")) (by decide) (by decide)))).other W45 (Or.inr (slot_ne (Or.inl (hw _ (mw 55 rfl))) (Or.inl (hw _ (mw 57 rfl))) (by decide) (t := .long) (t' := (.object "java/lang/Object")) (by decide) (by decide))))
      have f47 : Exa Z h45 va "com/example/tributary/tributary/runtime/Revisits" := (f44.wr W45)
      obtain ⟨T48, h48, X48, e48, W48, st48⟩ := putF X45 hx hZ hown (host := "") (Or.inl (hw _ (mw 54 rfl))) Via.refl e45 f46 f47 (Or.inl (hw _ (mw 55 rfl))) (hw _ (mw 35 rfl)) (ty := .long) (by decide) rfl rfl (g := (mkF m 65 #[.val (.ref va), .val al, .val ar, .val (.int (0 : Int32))] [(.long (0 : Int64)), (.ref va)])) rfl rfl (hb hby d9_65)
      have Fw48 : Fld Z h48 va "com/example/tributary/tributary/runtime/Revisits" "sinceMark" "J" (.long (0 : Int64)) := f46.same W48
      have N48 := Fr.snoc X48 N45 g_va
      refine Goal.to (B := T48.setTop (mkF m 68 #[.val (.ref va), .val al, .val ar, .val (.int (0 : Int32))] [])) st48 ?_
      refine Goal.to (B := T48.setTop (mkF m 70 #[.val (.ref va), .val al, .val ar, .val (.int (0 : Int32))] [(.ref va), (.ref va)])) (fun tt kk => ?_) ?_
      · show Steps p.tables e below (T48.setTop (mkF m 68 #[.val (.ref va), .val al, .val ar, .val (.int (0 : Int32))] [])) tt
        refine XS.aloadN X48.here hx rfl (hb hby d9_68) rfl rfl ?_
        show Steps p.tables e below (T48.setTop (mkF m 69 #[.val (.ref va), .val al, .val ar, .val (.int (0 : Int32))] [(.ref va)])) tt
        refine XS.dup X48.here hx rfl (hb hby d9_69) rfl rfl ?_
        exact kk
      have f49 : Fld Z h48 va "com/example/tributary/tributary/runtime/Revisits" "markInterval" "J" (.long si) := (((f37.other W42 (Or.inr (slot_ne (Or.inl (hw _ (mw 42 rfl))) (Or.inl (hw _ (mw 53 rfl))) (by decide) (t := .long) (t' := (.object "java/lang/Object")) (by decide) (by decide)))).other W45 (Or.inr (slot_ne (Or.inl (hw _ (mw 42 rfl))) (Or.inl (hw _ (mw 57 rfl))) (by decide) (t := .long) (t' := (.object "java/lang/Object")) (by decide) (by decide)))).other W48 (Or.inr (slot_ne (Or.inl (hw _ (mw 42 rfl))) (Or.inl (hw _ (mw 55 rfl))) (by decide) (t := .long) (t' := .long) (by decide) (by decide))))
      obtain ⟨T50, X50, e50, st50⟩ := getF X48 hx hZ hown (host := "") (Or.inl (hw _ (mw 41 rfl))) Via.refl e48 f49 (g := (mkF m 70 #[.val (.ref va), .val al, .val ar, .val (.int (0 : Int32))] [(.ref va), (.ref va)])) rfl rfl (hb hby d9_70)
      refine Goal.to (B := T50.setTop (mkF m 73 #[.val (.ref va), .val al, .val ar, .val (.int (0 : Int32))] [(.long si), (.ref va)])) st50 ?_
      refine Goal.to (B := T50.setTop (mkF m 77 #[.val (.ref va), .val al, .val ar, .val (.int (0 : Int32))] [(.long (si * (2 : Int64))), (.ref va)])) (fun tt kk => ?_) ?_
      · show Steps p.tables e below (T50.setTop (mkF m 73 #[.val (.ref va), .val al, .val ar, .val (.int (0 : Int32))] [(.long si), (.ref va)])) tt
        refine X50.ldc2Long hx hown (mvT hZ (hw _ (mw 58 rfl))) (g := (mkF m 73 #[.val (.ref va), .val al, .val ar, .val (.int (0 : Int32))] [(.long si), (.ref va)])) rfl (hb hby d9_73) _ ?_
        show Steps p.tables e below (T50.setTop (mkF m 76 #[.val (.ref va), .val al, .val ar, .val (.int (0 : Int32))] [(.long (2 : Int64)), (.long si), (.ref va)])) tt
        refine XS.lmul X50.here hx rfl (hb hby d9_76) rfl ?_
        exact kk
      have f51 : Exa Z h48 va "com/example/tributary/tributary/runtime/Revisits" := (f47.wr W48)
      obtain ⟨T52, h52, X52, e52, W52, st52⟩ := putF X50 hx hZ hown (host := "") (Or.inl (hw _ (mw 41 rfl))) Via.refl e50 f49 f51 (Or.inl (hw _ (mw 42 rfl))) (hw _ (mw 35 rfl)) (ty := .long) (by decide) rfl rfl (g := (mkF m 77 #[.val (.ref va), .val al, .val ar, .val (.int (0 : Int32))] [(.long (si * (2 : Int64))), (.ref va)])) rfl rfl (hb hby d9_77)
      have Fw52 : Fld Z h52 va "com/example/tributary/tributary/runtime/Revisits" "markInterval" "J" (.long (si * (2 : Int64))) := f49.same W52
      have N52 := Fr.snoc X52 N48 g_va
      refine Goal.to (B := T52.setTop (mkF m 80 #[.val (.ref va), .val al, .val ar, .val (.int (0 : Int32))] [])) st52 ?_
      refine Goal.to (B := T52.setTop (mkF m 81 #[.val (.ref va), .val al, .val ar, .val (.int (0 : Int32))] [(.int (0 : Int32))])) (fun tt kk => ?_) ?_
      · show Steps p.tables e below (T52.setTop (mkF m 80 #[.val (.ref va), .val al, .val ar, .val (.int (0 : Int32))] [])) tt
        refine XS.iloadN X52.here hx rfl (hb hby d9_80) rfl ?_
        exact kk
      have f53 : Keep h0 h52 [va] := ((((((Keep.refl h0 [va]).wr W36 (Or.inl (List.mem_of_getElem? (i := 0) rfl))).wr W42 (Or.inl (List.mem_of_getElem? (i := 0) rfl))).wr W45 (Or.inl (List.mem_of_getElem? (i := 0) rfl))).wr W48 (Or.inl (List.mem_of_getElem? (i := 0) rfl))).wr W52 (Or.inl (List.mem_of_getElem? (i := 0) rfl)))
      have f54 : Fld Z h52 va "com/example/tributary/tributary/runtime/Revisits" "markedLeft" "Ljava/lang/Object;" al := (((Fw42.other W45 (Or.inr (slot_ne (Or.inl (hw _ (mw 53 rfl))) (Or.inl (hw _ (mw 57 rfl))) (by decide) (t := (.object "java/lang/Object")) (t' := (.object "java/lang/Object")) (by decide) (by decide)))).other W48 (Or.inr (slot_ne (Or.inl (hw _ (mw 53 rfl))) (Or.inl (hw _ (mw 55 rfl))) (by decide) (t := (.object "java/lang/Object")) (t' := .long) (by decide) (by decide)))).other W52 (Or.inr (slot_ne (Or.inl (hw _ (mw 53 rfl))) (Or.inl (hw _ (mw 42 rfl))) (by decide) (t := (.object "java/lang/Object")) (t' := .long) (by decide) (by decide))))
      have f55 : Fld Z h52 va "com/example/tributary/tributary/runtime/Revisits" "markedRight" "Ljava/lang/Object;" ar := ((Fw45.other W48 (Or.inr (slot_ne (Or.inl (hw _ (mw 57 rfl))) (Or.inl (hw _ (mw 55 rfl))) (by decide) (t := (.object "java/lang/Object")) (t' := .long) (by decide) (by decide)))).other W52 (Or.inr (slot_ne (Or.inl (hw _ (mw 57 rfl))) (Or.inl (hw _ (mw 42 rfl))) (by decide) (t := (.object "java/lang/Object")) (t' := .long) (by decide) (by decide))))
      have f56 : Fld Z h52 va "com/example/tributary/tributary/runtime/Revisits" "sinceMark" "J" (.long (0 : Int64)) := (Fw48.other W52 (Or.inr (slot_ne (Or.inl (hw _ (mw 55 rfl))) (Or.inl (hw _ (mw 42 rfl))) (by decide) (t := .long) (t' := .long) (by decide) (by decide))))
      exact Goal.retV X52 hx Bd.returns rfl (Or.inl ⟨rfl, Or.inr (Or.inl rfl), _, rfl⟩) (hb hby d9_81) hlk e52 ⟨al, ar, (0 : Int64), (si * (2 : Int64)), (congrArg some (by simp [own_B, hc2, hc39] : ((.int (0 : Int32)) : Value) = (.int (own_B al ar sl sr)))), N52, f53, f54, f55, f56, Fw52, pal, par, (by simp [own_B, own_L, own_R, own_S, own_I, hc2, hc39]), (by simp [own_B, own_L, own_R, own_S, own_I, hc2, hc39]), (by simp [own_B, own_L, own_R, own_S, own_I, hc2, hc39]), (by simp [own_B, own_L, own_R, own_S, own_I, hc2, hc39])⟩ (by decide) (by decide)
    · refine Goal.to (B := T38.setTop (mkF m 81 #[.val (.ref va), .val al, .val ar, .val (.int (0 : Int32))] [(.int (0 : Int32))])) (fun tt kk => ?_) ?_
      · show Steps p.tables e below (T38.setTop (mkF m 50 #[.val (.ref va), .val al, .val ar, .val (.int (0 : Int32))] [(.int (lcmpW (ss + (1 : Int64)) si))])) tt
        refine XS.ifYes X38.here hx rfl (pc0 := 50) (pc' := 80) rfl (hb hby d9_50) rfl ((if0 _ _).trans (feq hc39).2) (by decide) (by decide) ?_
        show Steps p.tables e below (T38.setTop (mkF m 80 #[.val (.ref va), .val al, .val ar, .val (.int (0 : Int32))] [])) tt
        refine XS.iloadN X38.here hx rfl (hb hby d9_80) rfl ?_
        exact kk
      have f57 : Keep h0 h36 [va] := ((Keep.refl h0 [va]).wr W36 (Or.inl (List.mem_of_getElem? (i := 0) rfl)))
      have f58 : Fld Z h36 va "com/example/tributary/tributary/runtime/Revisits" "markedLeft" "Ljava/lang/Object;" sl := (F_markedLeft_va.other W36 (Or.inr (slot_ne (Or.inl (hw _ (mw 53 rfl))) (Or.inl (hw _ (mw 55 rfl))) (by decide) (t := (.object "java/lang/Object")) (t' := .long) (by decide) (by decide))))
      have f59 : Fld Z h36 va "com/example/tributary/tributary/runtime/Revisits" "markedRight" "Ljava/lang/Object;" sr := (F_markedRight_va.other W36 (Or.inr (slot_ne (Or.inl (hw _ (mw 57 rfl))) (Or.inl (hw _ (mw 55 rfl))) (by decide) (t := (.object "java/lang/Object")) (t' := .long) (by decide) (by decide))))
      exact Goal.retV X38 hx Bd.returns rfl (Or.inl ⟨rfl, Or.inr (Or.inl rfl), _, rfl⟩) (hb hby d9_81) hlk e38 ⟨sl, sr, (ss + (1 : Int64)), si, (congrArg some (by simp [own_B, hc2, hc39] : ((.int (0 : Int32)) : Value) = (.int (own_B al ar sl sr)))), N36, f57, f58, f59, Fw36, f37, psl, psr, (by simp [own_B, own_L, own_R, own_S, own_I, hc2, hc39]), (by simp [own_B, own_L, own_R, own_S, own_I, hc2, hc39]), (by simp [own_B, own_L, own_R, own_S, own_I, hc2, hc39]), (by simp [own_B, own_L, own_R, own_S, own_I, hc2, hc39])⟩ (by decide) (by decide)
theorem ef_8 (m : MethodId) (x0 : Addr) (x1 : Addr) (x2 : Addr) (x3 : Int32) (x4 : Int32) (x5 : Int32)  : entryFrame m #[(.ref x0), (.ref x1), (.ref x2), (.int x3), (.int x4), (.int x5)] 7 = mkF m 0 #[.val (.ref x0), .val (.ref x1), .val (.ref x2), .val (.int x3), .val (.int x4), .val (.int x5), .unset] [] := by first | (simp [entryFrame, mkF, argsToLocals, Value.category]; done) | rfl
theorem pn_8 : plainName "com/example/tributary/tributary/runtime/RevisitsSeenBeforePinLaw" = true := by first | (simp [plainName, overriddenIn]; done) | decide +kernel
theorem d8_0 : decode method_3_code 0 = .ok (.iload_n 3, 1) := by decide +kernel
theorem d8_1 : decode method_3_code 1 = .ok (.iload 4, 2) := by decide +kernel
theorem d8_3 : decode method_3_code 3 = .ok (.if_icmp .ge 7, 3) := by decide +kernel
theorem d8_6 : decode method_3_code 6 = .ok (.iload_n 3, 1) := by decide +kernel
theorem d8_7 : decode method_3_code 7 = .ok (.goto 13, 3) := by decide +kernel
theorem d8_10 : decode method_3_code 10 = .ok (.iload 4, 2) := by decide +kernel
theorem d8_12 : decode method_3_code 12 = .ok (.iload_n 3, 1) := by decide +kernel
theorem d8_13 : decode method_3_code 13 = .ok (.iload 4, 2) := by decide +kernel
theorem d8_15 : decode method_3_code 15 = .ok (.isub, 1) := by decide +kernel
theorem d8_16 : decode method_3_code 16 = .ok (.iload 5, 2) := by decide +kernel
theorem d8_18 : decode method_3_code 18 = .ok (.irem, 1) := by decide +kernel
theorem d8_19 : decode method_3_code 19 = .ok (.iadd, 1) := by decide +kernel
theorem d8_20 : decode method_3_code 20 = .ok (.istore 6, 2) := by decide +kernel
theorem d8_22 : decode method_3_code 22 = .ok (.aload_n 0, 1) := by decide +kernel
theorem d8_23 : decode method_3_code 23 = .ok (.aload_n 1, 1) := by decide +kernel
theorem d8_24 : decode method_3_code 24 = .ok (.iload 6, 2) := by decide +kernel
theorem d8_26 : decode method_3_code 26 = .ok (.iconst 1, 1) := by decide +kernel
theorem d8_27 : decode method_3_code 27 = .ok (.ishr, 1) := by decide +kernel
theorem d8_28 : decode method_3_code 28 = .ok (.aaload, 1) := by decide +kernel
theorem d8_29 : decode method_3_code 29 = .ok (.aload_n 2, 1) := by decide +kernel
theorem d8_30 : decode method_3_code 30 = .ok (.iload 6, 2) := by decide +kernel
theorem d8_32 : decode method_3_code 32 = .ok (.iconst 1, 1) := by decide +kernel
theorem d8_33 : decode method_3_code 33 = .ok (.iand, 1) := by decide +kernel
theorem d8_34 : decode method_3_code 34 = .ok (.aaload, 1) := by decide +kernel
theorem pd_7 : parseMethodDescriptor "(Ljava/lang/Object;Ljava/lang/Object;)Z" = some ⟨[(.object "java/lang/Object"), (.object "java/lang/Object")], some .boolean⟩ := by decide +kernel
theorem d8_35 : decode method_3_code 35 = .ok (.invokevirtual 26, 3) := by decide +kernel
theorem d8_38 : decode method_3_code 38 = .ok (.ireturn, 1) := by decide +kernel
def Qst (Z : State) (va : Addr) (vL : Addr) (vR : Addr) (ad0 : Addr) (ad1 : Addr) (ad2 : Addr) (ad3 : Addr) (b1 : Addr) (rv : Value) (kq : Fin 8) (mm : Option (Fin 8)) (ss : Int64) (si : Int64) (ui : Int32) (ut : Int32) (ul : Int32) (h0 : Heap) (n0 : Nat) (v : Option Value) (h : Heap) (L : List Loc) : Prop := v = some (.int (own_seen mm kq)) ∧ Fr n0 L ∧ Keep h0 h [va] ∧ Fld Z h va "com/example/tributary/tributary/runtime/Revisits" "markedLeft" "Ljava/lang/Object;" (own_ML ad0 ad1 ad2 ad3 (own_nm mm ss si kq)) ∧ Fld Z h va "com/example/tributary/tributary/runtime/Revisits" "markedRight" "Ljava/lang/Object;" (own_MR rv b1 (own_nm mm ss si kq)) ∧ Fld Z h va "com/example/tributary/tributary/runtime/Revisits" "sinceMark" "J" (.long (own_ns mm ss si kq)) ∧ Fld Z h va "com/example/tributary/tributary/runtime/Revisits" "markInterval" "J" (.long (own_ni mm ss si kq))
set_option maxRecDepth 65536 in
set_option maxHeartbeats 40000000 in
theorem rmst (l : Launch) (Z : State) (a0 : Array Value) (hw : ∀ d ∈ tables_1, d.before a0 Z = true) (ws : List Jvm.Cond) (va : Addr) (vL : Addr) (vR : Addr) (ad0 : Addr) (ad1 : Addr) (ad2 : Addr) (ad3 : Addr) (b1 : Addr) (rv : Value) (kq : Fin 8) (mm : Option (Fin 8)) (ss : Int64) (si : Int64) (ui : Int32) (ut : Int32) (ul : Int32) (h0 : Heap) (n0 : Nat) (Z0 : n0 ≤ h0.size) (E_va : Exa Z h0 va "com/example/tributary/tributary/runtime/Revisits") (F_markedLeft_va : Fld Z h0 va "com/example/tributary/tributary/runtime/Revisits" "markedLeft" "Ljava/lang/Object;" (own_ML ad0 ad1 ad2 ad3 mm)) (F_markedRight_va : Fld Z h0 va "com/example/tributary/tributary/runtime/Revisits" "markedRight" "Ljava/lang/Object;" (own_MR rv b1 mm)) (F_sinceMark_va : Fld Z h0 va "com/example/tributary/tributary/runtime/Revisits" "sinceMark" "J" (.long ss)) (F_markInterval_va : Fld Z h0 va "com/example/tributary/tributary/runtime/Revisits" "markInterval" "J" (.long si)) (V_vL : Ary Z h0 vL (.object "java/lang/Object") [(.ref ad0), (.ref ad1), (.ref ad2), (.ref ad3)]) (V_vR : Ary Z h0 vR (.object "java/lang/Object") [rv, (.ref b1)]) (g_va : n0 ≤ va) (prv : rv.isRef = true) (hk : own_w ui ut ul = own_n8 kq) (hul : ul ≠ (0 : Int32)) (hD : own_D ad0 ad1 ad2 ad3 b1 rv) :
    MetFree l (⟨"com/example/tributary/tributary/runtime/RevisitsSeenBeforePinLaw", "step", "(Lcom/example/tributary/tributary/runtime/Revisits;[Ljava/lang/Object;[Ljava/lang/Object;III)Z"⟩ : MethodName) (head1 (Jvm.Cond.code (⟨"com/example/tributary/tributary/runtime/RevisitsSeenBeforePinLaw", "step", "(Lcom/example/tributary/tributary/runtime/Revisits;[Ljava/lang/Object;[Ljava/lang/Object;III)Z"⟩ : MethodName) method_3_code 7 (some .boolean) :: ws) ({ frames := 1, cells := 0, slots := 0, locals := 15 } : Room)) (fun a U => a = #[(.ref va), (.ref vL), (.ref vR), (.int ui), (.int ut), (.int ul)] ∧ Z.Warmed39 U.vm ∧ U.heap = h0) (fun _ _ _ _ _ => True) (fun _ U o U' => ∃ v L, o = .returned v ∧ Qst Z va vL vR ad0 ad1 ad2 ad3 b1 rv kq mm ss si ui ut ul h0 n0 v U'.heap L ∧ FrameEnd U o U' L 0 0) := by
  refine MetFree.of_bodySF (plainFor_of_name pn_8) hisR ?_
  intro p e s m args below meth c s₁ Bd hml0 hP hK
  obtain ⟨rfl, hZ, hh⟩ := hP
  have hx := Bd.exec
  have hby := Bd.bytes
  have hml : c.maxLocals = 7 := hml0
  have hown : s.vm.findClass "com/example/tributary/tributary/runtime/RevisitsSeenBeforePinLaw" = some m.cls := findClass_of_methodNamed Bd.named
  have hnm := (name_of_methodNamed Bd.named Bd.method).1
  have X0 : Stand p l e ({ frames := 1, cells := 0, slots := 0, locals := 15 } : Room) s m #[(.ref va), (.ref vL), (.ref vR), (.int ui), (.int ut), (.int ul)] below meth c s₁ [] 0 0 := Stand.of_body Bd
  have e0 : s₁.heap = h0 := by rw [← hh, Bd.state]; rfl
  have N0 := Fr.nil n0
  have hlk : meth.locks = false := BodyLoose.notSynchronized Bd
  show Goal p e below s (Qst Z va vL vR ad0 ad1 ad2 ad3 b1 rv kq mm ss si ui ut ul h0 n0) 0 0 (s₁.setTop (entryFrame m #[(.ref va), (.ref vL), (.ref vR), (.int ui), (.int ut), (.int ul)] 7))
  refine Goal.to (B := s₁.setTop (mkF m 0 #[.val (.ref va), .val (.ref vL), .val (.ref vR), .val (.int ui), .val (.int ut), .val (.int ul), .unset] [])) (fun tt kk => castTop (ef_8 m va vL vR ui ut ul ) kk) ?_
  refine Goal.to (B := s₁.setTop (mkF m 3 #[.val (.ref va), .val (.ref vL), .val (.ref vR), .val (.int ui), .val (.int ut), .val (.int ul), .unset] [(.int ut), (.int ui)])) (fun tt kk => ?_) ?_
  · show Steps p.tables e below (s₁.setTop (mkF m 0 #[.val (.ref va), .val (.ref vL), .val (.ref vR), .val (.int ui), .val (.int ut), .val (.int ul), .unset] [])) tt
    refine XS.iloadN X0.here hx rfl (hb hby d8_0) rfl ?_
    show Steps p.tables e below (s₁.setTop (mkF m 1 #[.val (.ref va), .val (.ref vL), .val (.ref vR), .val (.int ui), .val (.int ut), .val (.int ul), .unset] [(.int ui)])) tt
    refine XS.iload X0.here hx rfl (hb hby d8_1) rfl ?_
    exact kk
  obtain ⟨w2, hw2⟩ : ∃ z : Int32, z = if ui < ut then ui else (ut + ((ui - ut) % ul)) := ⟨_, rfl⟩
  refine Goal.to (B := s₁.setTop (mkF m 20 #[.val (.ref va), .val (.ref vL), .val (.ref vR), .val (.int ui), .val (.int ut), .val (.int ul), .unset] [(.int w2)])) (fun tt kk => ?_) ?_
  · by_cases hc1 : ui < ut
    · have qw2 : w2 = ui := by rw [hw2, if_pos hc1]
      rw [qw2] at kk
      show Steps p.tables e below (s₁.setTop (mkF m 3 #[.val (.ref va), .val (.ref vL), .val (.ref vR), .val (.int ui), .val (.int ut), .val (.int ul), .unset] [(.int ut), (.int ui)])) tt
      refine XS.icmpNo X0.here hx rfl (hb hby d8_3) rfl (tlt hc1).2.1 ?_
      show Steps p.tables e below (s₁.setTop (mkF m 6 #[.val (.ref va), .val (.ref vL), .val (.ref vR), .val (.int ui), .val (.int ut), .val (.int ul), .unset] [])) tt
      refine XS.iloadN X0.here hx rfl (hb hby d8_6) rfl ?_
      show Steps p.tables e below (s₁.setTop (mkF m 7 #[.val (.ref va), .val (.ref vL), .val (.ref vR), .val (.int ui), .val (.int ut), .val (.int ul), .unset] [(.int ui)])) tt
      refine XS.goto X0.here hx rfl (pc0 := 7) (pc' := 20) rfl (hb hby d8_7) (by decide) (by decide) ?_
      exact kk
    · have qw2 : w2 = (ut + ((ui - ut) % ul)) := by rw [hw2, if_neg hc1]
      rw [qw2] at kk
      show Steps p.tables e below (s₁.setTop (mkF m 3 #[.val (.ref va), .val (.ref vL), .val (.ref vR), .val (.int ui), .val (.int ut), .val (.int ul), .unset] [(.int ut), (.int ui)])) tt
      refine XS.icmpYes X0.here hx rfl (pc0 := 3) (pc' := 10) rfl (hb hby d8_3) rfl (flt hc1).2.1 (by decide) (by decide) ?_
      show Steps p.tables e below (s₁.setTop (mkF m 10 #[.val (.ref va), .val (.ref vL), .val (.ref vR), .val (.int ui), .val (.int ut), .val (.int ul), .unset] [])) tt
      refine XS.iload X0.here hx rfl (hb hby d8_10) rfl ?_
      show Steps p.tables e below (s₁.setTop (mkF m 12 #[.val (.ref va), .val (.ref vL), .val (.ref vR), .val (.int ui), .val (.int ut), .val (.int ul), .unset] [(.int ut)])) tt
      refine XS.iloadN X0.here hx rfl (hb hby d8_12) rfl ?_
      show Steps p.tables e below (s₁.setTop (mkF m 13 #[.val (.ref va), .val (.ref vL), .val (.ref vR), .val (.int ui), .val (.int ut), .val (.int ul), .unset] [(.int ui), (.int ut)])) tt
      refine XS.iload X0.here hx rfl (hb hby d8_13) rfl ?_
      show Steps p.tables e below (s₁.setTop (mkF m 15 #[.val (.ref va), .val (.ref vL), .val (.ref vR), .val (.int ui), .val (.int ut), .val (.int ul), .unset] [(.int ut), (.int ui), (.int ut)])) tt
      refine XS.isub X0.here hx rfl (hb hby d8_15) rfl ?_
      show Steps p.tables e below (s₁.setTop (mkF m 16 #[.val (.ref va), .val (.ref vL), .val (.ref vR), .val (.int ui), .val (.int ut), .val (.int ul), .unset] [(.int (ui - ut)), (.int ut)])) tt
      refine XS.iload X0.here hx rfl (hb hby d8_16) rfl ?_
      show Steps p.tables e below (s₁.setTop (mkF m 18 #[.val (.ref va), .val (.ref vL), .val (.ref vR), .val (.int ui), .val (.int ut), .val (.int ul), .unset] [(.int ul), (.int (ui - ut)), (.int ut)])) tt
      refine iremM X0 hx rfl (hb hby d8_18) rfl hul ?_
      show Steps p.tables e below (s₁.setTop (mkF m 19 #[.val (.ref va), .val (.ref vL), .val (.ref vR), .val (.int ui), .val (.int ut), .val (.int ul), .unset] [(.int ((ui - ut) % ul)), (.int ut)])) tt
      refine XS.iadd X0.here hx rfl (hb hby d8_19) rfl ?_
      exact kk
  refine Goal.to (B := s₁.setTop (mkF m 22 #[.val (.ref va), .val (.ref vL), .val (.ref vR), .val (.int ui), .val (.int ut), .val (.int ul), .val (.int w2)] [])) (fun tt kk => ?_) ?_
  · show Steps p.tables e below (s₁.setTop (mkF m 20 #[.val (.ref va), .val (.ref vL), .val (.ref vR), .val (.int ui), .val (.int ut), .val (.int ul), .unset] [(.int w2)])) tt
    refine XS.istore X0.here hx rfl (hb hby d8_20) rfl (l' := #[.val (.ref va), .val (.ref vL), .val (.ref vR), .val (.int ui), .val (.int ut), .val (.int ul), .val (.int w2)]) rfl ?_
    exact kk
  obtain rfl : w2 = own_n8 kq := hw2.trans hk
  · refine Goal.to (B := s₁.setTop (mkF m 28 #[.val (.ref va), .val (.ref vL), .val (.ref vR), .val (.int ui), .val (.int ut), .val (.int ul), .val (.int (own_n8 kq))] [(.int ((own_n8 kq) >>> ((1 : Int32) &&& 31))), (.ref vL), (.ref va)])) (fun tt kk => ?_) ?_
    · show Steps p.tables e below (s₁.setTop (mkF m 22 #[.val (.ref va), .val (.ref vL), .val (.ref vR), .val (.int ui), .val (.int ut), .val (.int ul), .val (.int (own_n8 kq))] [])) tt
      refine XS.aloadN X0.here hx rfl (hb hby d8_22) rfl rfl ?_
      show Steps p.tables e below (s₁.setTop (mkF m 23 #[.val (.ref va), .val (.ref vL), .val (.ref vR), .val (.int ui), .val (.int ut), .val (.int ul), .val (.int (own_n8 kq))] [(.ref va)])) tt
      refine XS.aloadN X0.here hx rfl (hb hby d8_23) rfl rfl ?_
      show Steps p.tables e below (s₁.setTop (mkF m 24 #[.val (.ref va), .val (.ref vL), .val (.ref vR), .val (.int ui), .val (.int ut), .val (.int ul), .val (.int (own_n8 kq))] [(.ref vL), (.ref va)])) tt
      refine XS.iload X0.here hx rfl (hb hby d8_24) rfl ?_
      show Steps p.tables e below (s₁.setTop (mkF m 26 #[.val (.ref va), .val (.ref vL), .val (.ref vR), .val (.int ui), .val (.int ut), .val (.int ul), .val (.int (own_n8 kq))] [(.int (own_n8 kq)), (.ref vL), (.ref va)])) tt
      refine XS.iconst X0.here hx rfl (hb hby d8_26) ?_
      show Steps p.tables e below (s₁.setTop (mkF m 27 #[.val (.ref va), .val (.ref vL), .val (.ref vR), .val (.int ui), .val (.int ut), .val (.int ul), .val (.int (own_n8 kq))] [(.int (1 : Int32)), (.int (own_n8 kq)), (.ref vL), (.ref va)])) tt
      refine XS.ishr X0.here hx rfl (hb hby d8_27) rfl ?_
      exact kk
    obtain ⟨cl3, Ar3, Sl3⟩ := id V_vL
    have hin3 := inA (cl := cl3) Sl3 (j := ((own_n8 kq) >>> ((1 : Int32) &&& 31))) (own_i1 kq).1 (by rw [(own_i1 kq).2]; exact (own_k2 kq).1)
    have hat3 : cl3.slots[(((own_n8 kq) >>> ((1 : Int32) &&& 31))).toNatClampNeg]? = some (.ref (own_a ad0 ad1 ad2 ad3 kq)) := atA Sl3 (by rw [(own_i1 kq).2]; exact own_ga ad0 ad1 ad2 ad3 kq)
    refine Goal.to (B := s₁.setTop (mkF m 34 #[.val (.ref va), .val (.ref vL), .val (.ref vR), .val (.int ui), .val (.int ut), .val (.int ul), .val (.int (own_n8 kq))] [(.int ((own_n8 kq) &&& (1 : Int32))), (.ref vR), (.ref (own_a ad0 ad1 ad2 ad3 kq)), (.ref va)])) (fun tt kk => ?_) ?_
    · show Steps p.tables e below (s₁.setTop (mkF m 28 #[.val (.ref va), .val (.ref vL), .val (.ref vR), .val (.int ui), .val (.int ut), .val (.int ul), .val (.int (own_n8 kq))] [(.int ((own_n8 kq) >>> ((1 : Int32) &&& 31))), (.ref vL), (.ref va)])) tt
      refine X0.aaload hx (j := ((own_n8 kq) >>> ((1 : Int32) &&& 31))) (v := (.ref (own_a ad0 ad1 ad2 ad3 kq))) (by rw [e0]; exact Ar3.1) (State.isArrayOf_alike hZ.alike Ar3.2.1) rfl Ar3.2.2 hin3 hat3 (g := (mkF m 28 #[.val (.ref va), .val (.ref vL), .val (.ref vR), .val (.int ui), .val (.int ut), .val (.int ul), .val (.int (own_n8 kq))] [(.int ((own_n8 kq) >>> ((1 : Int32) &&& 31))), (.ref vL), (.ref va)])) rfl rfl (hb hby d8_28) _ ?_
      show Steps p.tables e below (s₁.setTop (mkF m 29 #[.val (.ref va), .val (.ref vL), .val (.ref vR), .val (.int ui), .val (.int ut), .val (.int ul), .val (.int (own_n8 kq))] [(.ref (own_a ad0 ad1 ad2 ad3 kq)), (.ref va)])) tt
      refine XS.aloadN X0.here hx rfl (hb hby d8_29) rfl rfl ?_
      show Steps p.tables e below (s₁.setTop (mkF m 30 #[.val (.ref va), .val (.ref vL), .val (.ref vR), .val (.int ui), .val (.int ut), .val (.int ul), .val (.int (own_n8 kq))] [(.ref vR), (.ref (own_a ad0 ad1 ad2 ad3 kq)), (.ref va)])) tt
      refine XS.iload X0.here hx rfl (hb hby d8_30) rfl ?_
      show Steps p.tables e below (s₁.setTop (mkF m 32 #[.val (.ref va), .val (.ref vL), .val (.ref vR), .val (.int ui), .val (.int ut), .val (.int ul), .val (.int (own_n8 kq))] [(.int (own_n8 kq)), (.ref vR), (.ref (own_a ad0 ad1 ad2 ad3 kq)), (.ref va)])) tt
      refine XS.iconst X0.here hx rfl (hb hby d8_32) ?_
      show Steps p.tables e below (s₁.setTop (mkF m 33 #[.val (.ref va), .val (.ref vL), .val (.ref vR), .val (.int ui), .val (.int ut), .val (.int ul), .val (.int (own_n8 kq))] [(.int (1 : Int32)), (.int (own_n8 kq)), (.ref vR), (.ref (own_a ad0 ad1 ad2 ad3 kq)), (.ref va)])) tt
      refine XS.iand X0.here hx rfl (hb hby d8_33) rfl ?_
      exact kk
    obtain ⟨cl4, Ar4, Sl4⟩ := id V_vR
    have hin4 := inA (cl := cl4) Sl4 (j := ((own_n8 kq) &&& (1 : Int32))) (own_i2 kq).1 (by rw [(own_i2 kq).2]; exact (own_k2 kq).2)
    have hat4 : cl4.slots[(((own_n8 kq) &&& (1 : Int32))).toNatClampNeg]? = some (own_r rv b1 kq) := atA Sl4 (by rw [(own_i2 kq).2]; exact own_gr rv b1 kq)
    refine Goal.to (B := s₁.setTop (mkF m 35 #[.val (.ref va), .val (.ref vL), .val (.ref vR), .val (.int ui), .val (.int ut), .val (.int ul), .val (.int (own_n8 kq))] [(own_r rv b1 kq), (.ref (own_a ad0 ad1 ad2 ad3 kq)), (.ref va)])) (fun tt kk => ?_) ?_
    · show Steps p.tables e below (s₁.setTop (mkF m 34 #[.val (.ref va), .val (.ref vL), .val (.ref vR), .val (.int ui), .val (.int ut), .val (.int ul), .val (.int (own_n8 kq))] [(.int ((own_n8 kq) &&& (1 : Int32))), (.ref vR), (.ref (own_a ad0 ad1 ad2 ad3 kq)), (.ref va)])) tt
      refine X0.aaload hx (j := ((own_n8 kq) &&& (1 : Int32))) (v := (own_r rv b1 kq)) (by rw [e0]; exact Ar4.1) (State.isArrayOf_alike hZ.alike Ar4.2.1) rfl Ar4.2.2 hin4 hat4 (g := (mkF m 34 #[.val (.ref va), .val (.ref vL), .val (.ref vR), .val (.int ui), .val (.int ut), .val (.int ul), .val (.int (own_n8 kq))] [(.int ((own_n8 kq) &&& (1 : Int32))), (.ref vR), (.ref (own_a ad0 ad1 ad2 ad3 kq)), (.ref va)])) rfl rfl (hb hby d8_34) _ ?_
      exact kk
    obtain ⟨cq5, kq5, q5a, q5b, q5c⟩ := isOf hZ e0 E_va
    obtain ⟨_, _, ⟨T5, L5, k5, n5⟩, -, X5, ⟨Lc5, hQ5, l5, y5, z5⟩, st5⟩ := X0.virtualBack hx (y := (⟨"com/example/tributary/tributary/runtime/Revisits", "seenBefore", "(Ljava/lang/Object;Ljava/lang/Object;)Z"⟩ : MethodName)) (z := (⟨"com/example/tributary/tributary/runtime/Revisits", "seenBefore", "(Ljava/lang/Object;Ljava/lang/Object;)Z"⟩ : MethodName)) hown (mvT hZ (hw _ (mw 47 rfl))) (mvT hZ (hw _ (mw 48 rfl))) (notFace_of_selects (args := #[]) (mvT hZ (hw _ (mw 50 rfl)))) (mvT hZ (hw _ (mw 50 rfl))) (mvT hZ (hw _ (mw 49 rfl))) (by decide) (backOf (W := 0) (rmsb l Z a0 hw [] va (.ref (own_a ad0 ad1 ad2 ad3 kq)) (own_r rv b1 kq) (own_ML ad0 ad1 ad2 ad3 mm) (own_MR rv b1 mm) ss si h0 n0 Z0 E_va F_markedLeft_va F_markedRight_va F_sinceMark_va F_markInterval_va g_va rfl (own_rr prv kq) (own_MLr ad0 ad1 ad2 ad3 mm) (own_MRr prv b1 mm)) hZ (hw _ (mw 51 rfl)) (hw _ (mw 36 rfl)) (by decide) (by decide)) q5a q5c (g := (mkF m 35 #[.val (.ref va), .val (.ref vL), .val (.ref vR), .val (.int ui), .val (.int ut), .val (.int ul), .val (.int (own_n8 kq))] [(own_r rv b1 kq), (.ref (own_a ad0 ad1 ad2 ad3 kq)), (.ref va)])) rfl (by rw [hml]; rfl) (Steps.refl _) (argsL := [(.ref (own_a ad0 ad1 ad2 ad3 kq)), (own_r rv b1 kq)]) (rest := []) (lenOf pd_7 rfl) rfl (by show 2 * 0 + _ ≤ _; exact Nat.le_of_eq rfl) (hb hby d8_35) (fun _ _ => ⟨rfl, e0, (by decide : 0 + 0 ≤ _), (by decide : 0 + 0 ≤ _)⟩)
    dsimp only [Pt.U, Pt.locs, Pt.cells, Pt.slots] at X5 l5 y5 z5 st5 hQ5
    subst y5 z5
    obtain ⟨nl_5, nr_5, ns_5, ni_5, rfl, N5q, K5, P5_0, P5_1, P5_2, P5_3, pnl_5, pnr_5, qnl_5, qnr_5, qns_5, qni_5⟩ := hQ5
    have N5 := Fr.eqv l5 (Fr.app N0 N5q)
    refine Goal.tr (B := T5.setTop (mkF m 38 #[.val (.ref va), .val (.ref vL), .val (.ref vR), .val (.int ui), .val (.int ut), .val (.int ul), .val (.int (own_n8 kq))] [(.int (own_B (.ref (own_a ad0 ad1 ad2 ad3 kq)) (own_r rv b1 kq) (own_ML ad0 ad1 ad2 ad3 mm) (own_MR rv b1 mm)))])) st5 ?_
    have f6 : Keep h0 T5.heap [va] := ((Keep.refl h0 [va]).trans K5 (allS (Or.inl (List.mem_of_getElem? (i := 0) rfl)) all0))
    exact Goal.retV X5 hx Bd.returns (nar01 (by rw [own_BE hD]; exact own_if _)) (Or.inl ⟨rfl, Or.inr (Or.inl rfl), _, rfl⟩) (hb hby d8_38) hlk rfl ⟨(congrArg some (by rw [own_BE hD] : ((.int (own_B (.ref (own_a ad0 ad1 ad2 ad3 kq)) (own_r rv b1 kq) (own_ML ad0 ad1 ad2 ad3 mm) (own_MR rv b1 mm))) : Value) = (.int (own_seen mm kq)))), N5, f6, (Fld.cast P5_0 (by first | (rw [qnl_5]; exact own_LE hD mm ss si kq) | (rw [qnr_5]; exact own_RE hD mm ss si kq) | (rw [qns_5, own_SE hD]) | (rw [qni_5, own_IE hD]) : (nl_5 : Value) = (own_ML ad0 ad1 ad2 ad3 (own_nm mm ss si kq)))), (Fld.cast P5_1 (by first | (rw [qnl_5]; exact own_LE hD mm ss si kq) | (rw [qnr_5]; exact own_RE hD mm ss si kq) | (rw [qns_5, own_SE hD]) | (rw [qni_5, own_IE hD]) : (nr_5 : Value) = (own_MR rv b1 (own_nm mm ss si kq)))), (Fld.cast P5_2 (by first | (rw [qnl_5]; exact own_LE hD mm ss si kq) | (rw [qnr_5]; exact own_RE hD mm ss si kq) | (rw [qns_5, own_SE hD]) | (rw [qni_5, own_IE hD]) : ((.long ns_5) : Value) = (.long (own_ns mm ss si kq)))), (Fld.cast P5_3 (by first | (rw [qnl_5]; exact own_LE hD mm ss si kq) | (rw [qnr_5]; exact own_RE hD mm ss si kq) | (rw [qns_5, own_SE hD]) | (rw [qni_5, own_IE hD]) : ((.long ni_5) : Value) = (.long (own_ni mm ss si kq))))⟩ (by decide) (by decide)
theorem ef_10 (m : MethodId) (x0 : Int32) (x1 : Int32)  : entryFrame m #[(.int x0), (.int x1)] 2 = mkF m 0 #[.val (.int x0), .val (.int x1)] [] := by first | (simp [entryFrame, mkF, argsToLocals, Value.category]; done) | rfl
theorem pn_10 : plainName "com/example/tributary/tributary/runtime/RevisitsSeenBeforePinLaw" = true := by first | (simp [plainName, overriddenIn]; done) | decide +kernel
theorem d10_0 : decode method_4_code 0 = .ok (.iload_n 1, 1) := by decide +kernel
theorem d10_1 : decode method_4_code 1 = .ok (.iconst 1, 1) := by decide +kernel
theorem d10_2 : decode method_4_code 2 = .ok (.if_icmp .ne 17, 3) := by decide +kernel
theorem d10_5 : decode method_4_code 5 = .ok (.iload_n 0, 1) := by decide +kernel
theorem d10_6 : decode method_4_code 6 = .ok (.ifCond .ne 9, 3) := by decide +kernel
theorem d10_9 : decode method_4_code 9 = .ok (.sipush 4094, 3) := by decide +kernel
theorem d10_12 : decode method_4_code 12 = .ok (.goto 6, 3) := by decide +kernel
theorem d10_15 : decode method_4_code 15 = .ok (.sipush 4088, 3) := by decide +kernel
theorem d10_18 : decode method_4_code 18 = .ok (.ireturn, 1) := by decide +kernel
theorem d10_19 : decode method_4_code 19 = .ok (.iload_n 1, 1) := by decide +kernel
theorem d10_20 : decode method_4_code 20 = .ok (.iconst 2, 1) := by decide +kernel
theorem d10_21 : decode method_4_code 21 = .ok (.if_icmp .ne 17, 3) := by decide +kernel
theorem d10_24 : decode method_4_code 24 = .ok (.iload_n 0, 1) := by decide +kernel
theorem d10_25 : decode method_4_code 25 = .ok (.ifCond .ne 9, 3) := by decide +kernel
theorem d10_28 : decode method_4_code 28 = .ok (.sipush 1364, 3) := by decide +kernel
theorem d10_31 : decode method_4_code 31 = .ok (.goto 6, 3) := by decide +kernel
theorem d10_34 : decode method_4_code 34 = .ok (.sipush 1360, 3) := by decide +kernel
theorem d10_37 : decode method_4_code 37 = .ok (.ireturn, 1) := by decide +kernel
theorem d10_38 : decode method_4_code 38 = .ok (.iload_n 1, 1) := by decide +kernel
theorem d10_39 : decode method_4_code 39 = .ok (.iconst 3, 1) := by decide +kernel
theorem d10_40 : decode method_4_code 40 = .ok (.if_icmp .ne 7, 3) := by decide +kernel
theorem d10_43 : decode method_4_code 43 = .ok (.sipush 2336, 3) := by decide +kernel
theorem d10_46 : decode method_4_code 46 = .ok (.ireturn, 1) := by decide +kernel
theorem d10_47 : decode method_4_code 47 = .ok (.iload_n 1, 1) := by decide +kernel
theorem d10_48 : decode method_4_code 48 = .ok (.iconst 4, 1) := by decide +kernel
theorem d10_49 : decode method_4_code 49 = .ok (.if_icmp .ne 7, 3) := by decide +kernel
theorem d10_52 : decode method_4_code 52 = .ok (.sipush 1088, 3) := by decide +kernel
theorem d10_55 : decode method_4_code 55 = .ok (.ireturn, 1) := by decide +kernel
theorem d10_56 : decode method_4_code 56 = .ok (.sipush 2048, 3) := by decide +kernel
theorem d10_59 : decode method_4_code 59 = .ok (.ireturn, 1) := by decide +kernel
def Qex (Z : State) (u0 : Int32) (u1 : Int32) (h0 : Heap) (n0 : Nat) (v : Option Value) (h : Heap) (L : List Loc) : Prop := v = some (.int (own_exp u0 u1)) ∧ Fr n0 L ∧ h = h0
set_option maxRecDepth 65536 in
set_option maxHeartbeats 40000000 in
theorem rmex (l : Launch) (Z : State) (a0 : Array Value) (hw : ∀ d ∈ tables_1, d.before a0 Z = true) (ws : List Jvm.Cond) (u0 : Int32) (u1 : Int32) (h0 : Heap) (n0 : Nat) (Z0 : n0 ≤ h0.size) :
    MetFree l (⟨"com/example/tributary/tributary/runtime/RevisitsSeenBeforePinLaw", "expected", "(II)I"⟩ : MethodName) (head1 (Jvm.Cond.code (⟨"com/example/tributary/tributary/runtime/RevisitsSeenBeforePinLaw", "expected", "(II)I"⟩ : MethodName) method_4_code 2 (some .int) :: ws) ({ frames := 0, cells := 0, slots := 0, locals := 0 } : Room)) (fun a U => a = #[(.int u0), (.int u1)] ∧ Z.Warmed39 U.vm ∧ U.heap = h0) (fun _ _ _ _ _ => True) (fun _ U o U' => ∃ v L, o = .returned v ∧ Qex Z u0 u1 h0 n0 v U'.heap L ∧ FrameEnd U o U' L 0 0) := by
  refine MetFree.of_bodySF (plainFor_of_name pn_10) hisR ?_
  intro p e s m args below meth c s₁ Bd hml0 hP hK
  obtain ⟨rfl, hZ, hh⟩ := hP
  have hx := Bd.exec
  have hby := Bd.bytes
  have hml : c.maxLocals = 2 := hml0
  have hown : s.vm.findClass "com/example/tributary/tributary/runtime/RevisitsSeenBeforePinLaw" = some m.cls := findClass_of_methodNamed Bd.named
  have hnm := (name_of_methodNamed Bd.named Bd.method).1
  have X0 : Stand p l e ({ frames := 0, cells := 0, slots := 0, locals := 0 } : Room) s m #[(.int u0), (.int u1)] below meth c s₁ [] 0 0 := Stand.of_body Bd
  have e0 : s₁.heap = h0 := by rw [← hh, Bd.state]; rfl
  have N0 := Fr.nil n0
  have hlk : meth.locks = false := BodyLoose.notSynchronized Bd
  show Goal p e below s (Qex Z u0 u1 h0 n0) 0 0 (s₁.setTop (entryFrame m #[(.int u0), (.int u1)] 2))
  refine Goal.to (B := s₁.setTop (mkF m 0 #[.val (.int u0), .val (.int u1)] [])) (fun tt kk => castTop (ef_10 m u0 u1 ) kk) ?_
  refine Goal.to (B := s₁.setTop (mkF m 2 #[.val (.int u0), .val (.int u1)] [(.int (1 : Int32)), (.int u1)])) (fun tt kk => ?_) ?_
  · show Steps p.tables e below (s₁.setTop (mkF m 0 #[.val (.int u0), .val (.int u1)] [])) tt
    refine XS.iloadN X0.here hx rfl (hb hby d10_0) rfl ?_
    show Steps p.tables e below (s₁.setTop (mkF m 1 #[.val (.int u0), .val (.int u1)] [(.int u1)])) tt
    refine XS.iconst X0.here hx rfl (hb hby d10_1) ?_
    exact kk
  by_cases hc1 : u1 = (1 : Int32)
  · refine Goal.to (B := s₁.setTop (mkF m 6 #[.val (.int u0), .val (.int u1)] [(.int u0)])) (fun tt kk => ?_) ?_
    · show Steps p.tables e below (s₁.setTop (mkF m 2 #[.val (.int u0), .val (.int u1)] [(.int (1 : Int32)), (.int u1)])) tt
      refine XS.icmpNo X0.here hx rfl (hb hby d10_2) rfl (teq hc1).2 ?_
      show Steps p.tables e below (s₁.setTop (mkF m 5 #[.val (.int u0), .val (.int u1)] [])) tt
      refine XS.iloadN X0.here hx rfl (hb hby d10_5) rfl ?_
      exact kk
    obtain ⟨w3, hw3⟩ : ∃ z : Int32, z = if u0 = (0 : Int32) then (4094 : Int32) else (4088 : Int32) := ⟨_, rfl⟩
    refine Goal.to (B := s₁.setTop (mkF m 18 #[.val (.int u0), .val (.int u1)] [(.int w3)])) (fun tt kk => ?_) ?_
    · by_cases hc2 : u0 = (0 : Int32)
      · have qw3 : w3 = (4094 : Int32) := by rw [hw3, if_pos hc2]
        rw [qw3] at kk
        show Steps p.tables e below (s₁.setTop (mkF m 6 #[.val (.int u0), .val (.int u1)] [(.int u0)])) tt
        refine XS.ifNo X0.here hx rfl (hb hby d10_6) rfl ((if0 _ _).trans (teq hc2).2) ?_
        show Steps p.tables e below (s₁.setTop (mkF m 9 #[.val (.int u0), .val (.int u1)] [])) tt
        refine XS.sipush X0.here hx rfl (hb hby d10_9) ?_
        show Steps p.tables e below (s₁.setTop (mkF m 12 #[.val (.int u0), .val (.int u1)] [(.int (4094 : Int32))])) tt
        refine XS.goto X0.here hx rfl (pc0 := 12) (pc' := 18) rfl (hb hby d10_12) (by decide) (by decide) ?_
        exact kk
      · have qw3 : w3 = (4088 : Int32) := by rw [hw3, if_neg hc2]
        rw [qw3] at kk
        show Steps p.tables e below (s₁.setTop (mkF m 6 #[.val (.int u0), .val (.int u1)] [(.int u0)])) tt
        refine XS.ifYes X0.here hx rfl (pc0 := 6) (pc' := 15) rfl (hb hby d10_6) rfl ((if0 _ _).trans (feq hc2).2) (by decide) (by decide) ?_
        show Steps p.tables e below (s₁.setTop (mkF m 15 #[.val (.int u0), .val (.int u1)] [])) tt
        refine XS.sipush X0.here hx rfl (hb hby d10_15) ?_
        exact kk
    exact Goal.retV X0 hx Bd.returns rfl (Or.inl ⟨rfl, Or.inl rfl, _, rfl⟩) (hb hby d10_18) hlk e0 ⟨(congrArg some (by rw [hw3]; simp only [own_exp, if_pos hc1] : ((.int w3) : Value) = (.int (own_exp u0 u1)))), N0, rfl⟩ (by decide) (by decide)
  · refine Goal.to (B := s₁.setTop (mkF m 21 #[.val (.int u0), .val (.int u1)] [(.int (2 : Int32)), (.int u1)])) (fun tt kk => ?_) ?_
    · show Steps p.tables e below (s₁.setTop (mkF m 2 #[.val (.int u0), .val (.int u1)] [(.int (1 : Int32)), (.int u1)])) tt
      refine XS.icmpYes X0.here hx rfl (pc0 := 2) (pc' := 19) rfl (hb hby d10_2) rfl (feq hc1).2 (by decide) (by decide) ?_
      show Steps p.tables e below (s₁.setTop (mkF m 19 #[.val (.int u0), .val (.int u1)] [])) tt
      refine XS.iloadN X0.here hx rfl (hb hby d10_19) rfl ?_
      show Steps p.tables e below (s₁.setTop (mkF m 20 #[.val (.int u0), .val (.int u1)] [(.int u1)])) tt
      refine XS.iconst X0.here hx rfl (hb hby d10_20) ?_
      exact kk
    by_cases hc4 : u1 = (2 : Int32)
    · refine Goal.to (B := s₁.setTop (mkF m 25 #[.val (.int u0), .val (.int u1)] [(.int u0)])) (fun tt kk => ?_) ?_
      · show Steps p.tables e below (s₁.setTop (mkF m 21 #[.val (.int u0), .val (.int u1)] [(.int (2 : Int32)), (.int u1)])) tt
        refine XS.icmpNo X0.here hx rfl (hb hby d10_21) rfl (teq hc4).2 ?_
        show Steps p.tables e below (s₁.setTop (mkF m 24 #[.val (.int u0), .val (.int u1)] [])) tt
        refine XS.iloadN X0.here hx rfl (hb hby d10_24) rfl ?_
        exact kk
      obtain ⟨w6, hw6⟩ : ∃ z : Int32, z = if u0 = (0 : Int32) then (1364 : Int32) else (1360 : Int32) := ⟨_, rfl⟩
      refine Goal.to (B := s₁.setTop (mkF m 37 #[.val (.int u0), .val (.int u1)] [(.int w6)])) (fun tt kk => ?_) ?_
      · by_cases hc5 : u0 = (0 : Int32)
        · have qw6 : w6 = (1364 : Int32) := by rw [hw6, if_pos hc5]
          rw [qw6] at kk
          show Steps p.tables e below (s₁.setTop (mkF m 25 #[.val (.int u0), .val (.int u1)] [(.int u0)])) tt
          refine XS.ifNo X0.here hx rfl (hb hby d10_25) rfl ((if0 _ _).trans (teq hc5).2) ?_
          show Steps p.tables e below (s₁.setTop (mkF m 28 #[.val (.int u0), .val (.int u1)] [])) tt
          refine XS.sipush X0.here hx rfl (hb hby d10_28) ?_
          show Steps p.tables e below (s₁.setTop (mkF m 31 #[.val (.int u0), .val (.int u1)] [(.int (1364 : Int32))])) tt
          refine XS.goto X0.here hx rfl (pc0 := 31) (pc' := 37) rfl (hb hby d10_31) (by decide) (by decide) ?_
          exact kk
        · have qw6 : w6 = (1360 : Int32) := by rw [hw6, if_neg hc5]
          rw [qw6] at kk
          show Steps p.tables e below (s₁.setTop (mkF m 25 #[.val (.int u0), .val (.int u1)] [(.int u0)])) tt
          refine XS.ifYes X0.here hx rfl (pc0 := 25) (pc' := 34) rfl (hb hby d10_25) rfl ((if0 _ _).trans (feq hc5).2) (by decide) (by decide) ?_
          show Steps p.tables e below (s₁.setTop (mkF m 34 #[.val (.int u0), .val (.int u1)] [])) tt
          refine XS.sipush X0.here hx rfl (hb hby d10_34) ?_
          exact kk
      exact Goal.retV X0 hx Bd.returns rfl (Or.inl ⟨rfl, Or.inl rfl, _, rfl⟩) (hb hby d10_37) hlk e0 ⟨(congrArg some (by rw [hw6]; simp only [own_exp, if_neg hc1, if_pos hc4] : ((.int w6) : Value) = (.int (own_exp u0 u1)))), N0, rfl⟩ (by decide) (by decide)
    · refine Goal.to (B := s₁.setTop (mkF m 40 #[.val (.int u0), .val (.int u1)] [(.int (3 : Int32)), (.int u1)])) (fun tt kk => ?_) ?_
      · show Steps p.tables e below (s₁.setTop (mkF m 21 #[.val (.int u0), .val (.int u1)] [(.int (2 : Int32)), (.int u1)])) tt
        refine XS.icmpYes X0.here hx rfl (pc0 := 21) (pc' := 38) rfl (hb hby d10_21) rfl (feq hc4).2 (by decide) (by decide) ?_
        show Steps p.tables e below (s₁.setTop (mkF m 38 #[.val (.int u0), .val (.int u1)] [])) tt
        refine XS.iloadN X0.here hx rfl (hb hby d10_38) rfl ?_
        show Steps p.tables e below (s₁.setTop (mkF m 39 #[.val (.int u0), .val (.int u1)] [(.int u1)])) tt
        refine XS.iconst X0.here hx rfl (hb hby d10_39) ?_
        exact kk
      by_cases hc7 : u1 = (3 : Int32)
      · refine Goal.to (B := s₁.setTop (mkF m 46 #[.val (.int u0), .val (.int u1)] [(.int (2336 : Int32))])) (fun tt kk => ?_) ?_
        · show Steps p.tables e below (s₁.setTop (mkF m 40 #[.val (.int u0), .val (.int u1)] [(.int (3 : Int32)), (.int u1)])) tt
          refine XS.icmpNo X0.here hx rfl (hb hby d10_40) rfl (teq hc7).2 ?_
          show Steps p.tables e below (s₁.setTop (mkF m 43 #[.val (.int u0), .val (.int u1)] [])) tt
          refine XS.sipush X0.here hx rfl (hb hby d10_43) ?_
          exact kk
        exact Goal.retV X0 hx Bd.returns rfl (Or.inl ⟨rfl, Or.inl rfl, _, rfl⟩) (hb hby d10_46) hlk e0 ⟨(congrArg some (by simp only [own_exp, if_neg hc1, if_neg hc4, if_pos hc7] : ((.int (2336 : Int32)) : Value) = (.int (own_exp u0 u1)))), N0, rfl⟩ (by decide) (by decide)
      · refine Goal.to (B := s₁.setTop (mkF m 49 #[.val (.int u0), .val (.int u1)] [(.int (4 : Int32)), (.int u1)])) (fun tt kk => ?_) ?_
        · show Steps p.tables e below (s₁.setTop (mkF m 40 #[.val (.int u0), .val (.int u1)] [(.int (3 : Int32)), (.int u1)])) tt
          refine XS.icmpYes X0.here hx rfl (pc0 := 40) (pc' := 47) rfl (hb hby d10_40) rfl (feq hc7).2 (by decide) (by decide) ?_
          show Steps p.tables e below (s₁.setTop (mkF m 47 #[.val (.int u0), .val (.int u1)] [])) tt
          refine XS.iloadN X0.here hx rfl (hb hby d10_47) rfl ?_
          show Steps p.tables e below (s₁.setTop (mkF m 48 #[.val (.int u0), .val (.int u1)] [(.int u1)])) tt
          refine XS.iconst X0.here hx rfl (hb hby d10_48) ?_
          exact kk
        by_cases hc8 : u1 = (4 : Int32)
        · refine Goal.to (B := s₁.setTop (mkF m 55 #[.val (.int u0), .val (.int u1)] [(.int (1088 : Int32))])) (fun tt kk => ?_) ?_
          · show Steps p.tables e below (s₁.setTop (mkF m 49 #[.val (.int u0), .val (.int u1)] [(.int (4 : Int32)), (.int u1)])) tt
            refine XS.icmpNo X0.here hx rfl (hb hby d10_49) rfl (teq hc8).2 ?_
            show Steps p.tables e below (s₁.setTop (mkF m 52 #[.val (.int u0), .val (.int u1)] [])) tt
            refine XS.sipush X0.here hx rfl (hb hby d10_52) ?_
            exact kk
          exact Goal.retV X0 hx Bd.returns rfl (Or.inl ⟨rfl, Or.inl rfl, _, rfl⟩) (hb hby d10_55) hlk e0 ⟨(congrArg some (by simp only [own_exp, if_neg hc1, if_neg hc4, if_neg hc7, if_pos hc8] : ((.int (1088 : Int32)) : Value) = (.int (own_exp u0 u1)))), N0, rfl⟩ (by decide) (by decide)
        · refine Goal.to (B := s₁.setTop (mkF m 59 #[.val (.int u0), .val (.int u1)] [(.int (2048 : Int32))])) (fun tt kk => ?_) ?_
          · show Steps p.tables e below (s₁.setTop (mkF m 49 #[.val (.int u0), .val (.int u1)] [(.int (4 : Int32)), (.int u1)])) tt
            refine XS.icmpYes X0.here hx rfl (pc0 := 49) (pc' := 56) rfl (hb hby d10_49) rfl (feq hc8).2 (by decide) (by decide) ?_
            show Steps p.tables e below (s₁.setTop (mkF m 56 #[.val (.int u0), .val (.int u1)] [])) tt
            refine XS.sipush X0.here hx rfl (hb hby d10_56) ?_
            exact kk
          exact Goal.retV X0 hx Bd.returns rfl (Or.inl ⟨rfl, Or.inl rfl, _, rfl⟩) (hb hby d10_59) hlk e0 ⟨(congrArg some (by simp only [own_exp, if_neg hc1, if_neg hc4, if_neg hc7, if_neg hc8] : ((.int (2048 : Int32)) : Value) = (.int (own_exp u0 u1)))), N0, rfl⟩ (by decide) (by decide)
theorem ef_0 (m : MethodId) (x0 : Int32) (x1 : Int32) (x2 : Int32) (x3 : Int32)  : entryFrame m #[(.int x0), (.int x1), (.int x2), (.int x3)] maxLocals = mkF m 0 #[.val (.int x0), .val (.int x1), .val (.int x2), .val (.int x3), .unset, .unset, .unset, .unset, .unset, .unset, .unset, .unset] [] := by first | (simp [entryFrame, mkF, argsToLocals, Value.category, maxLocals]; done) | rfl
theorem pn_0 : plainName "com/example/tributary/tributary/runtime/RevisitsSeenBeforePinLaw" = true := by first | (simp [plainName, overriddenIn]; done) | decide +kernel
theorem pd_0 : parseMethodDescriptor "([C)V" = some ⟨[(.array .char)], none⟩ := by decide +kernel
theorem pd_2 : parseMethodDescriptor "()V" = some ⟨[], none⟩ := by decide +kernel
theorem pd_6 : parseMethodDescriptor "(Lcom/example/tributary/tributary/runtime/Revisits;[Ljava/lang/Object;[Ljava/lang/Object;III)Z" = some ⟨[(.object "com/example/tributary/tributary/runtime/Revisits"), (.array (.object "java/lang/Object")), (.array (.object "java/lang/Object")), .int, .int, .int], some .boolean⟩ := by decide +kernel
theorem pd_8 : parseMethodDescriptor "(II)I" = some ⟨[.int, .int], some .int⟩ := by decide +kernel
def Q0 (Z : State) (u0 : Int32) (u1 : Int32) (u2 : Int32) (u3 : Int32) (zc : Int32) (h0 : Heap) (n0 : Nat) (v : Option Value) (h : Heap) (L : List Loc) : Prop := v = some (.int (1 : Int32)) ∧ Fr n0 L
set_option maxRecDepth 65536 in
set_option maxHeartbeats 40000000 in
theorem rm0 (l : Launch) (Z : State) (a0 : Array Value) (hw : ∀ d ∈ tables_1, d.before a0 Z = true) (ws : List Jvm.Cond) (u0 : Int32) (u1 : Int32) (u2 : Int32) (u3 : Int32) (zc : Int32) (h0 : Heap) (n0 : Nat) (Z0 : n0 ≤ h0.size) (S_COMPACT_STRINGS : StaN Z n0 h0 "java/lang/String" "COMPACT_STRINGS" "Z" (.int zc)) (hCS : ¬ (zc = (0 : Int32))) :
    MetFree l x (head1 (Jvm.Cond.code x code maxLocals ret :: ws) room_1) (fun a U => a = #[(.int u0), (.int u1), (.int u2), (.int u3)] ∧ Z.Warmed39 U.vm ∧ U.heap = h0) (fun _ _ _ _ _ => True) (fun _ U o U' => ∃ v L, o = .returned v ∧ Q0 Z u0 u1 u2 u3 zc h0 n0 v U'.heap L ∧ FrameEnd U o U' L 56 192) := by
  refine MetFree.of_bodySF (plainFor_of_name pn_0) hisR ?_
  intro p e s m args below meth c s₁ Bd hml0 hP hK
  obtain ⟨rfl, hZ, hh⟩ := hP
  have hx := Bd.exec
  have hby := Bd.bytes
  have hml : c.maxLocals = 12 := hml0
  have hown : s.vm.findClass "com/example/tributary/tributary/runtime/RevisitsSeenBeforePinLaw" = some m.cls := findClass_of_methodNamed Bd.named
  have hnm := (name_of_methodNamed Bd.named Bd.method).1
  have X0 : Stand p l e room_1 s m #[(.int u0), (.int u1), (.int u2), (.int u3)] below meth c s₁ [] 0 0 := Stand.of_body Bd
  have e0 : s₁.heap = h0 := by rw [← hh, Bd.state]; rfl
  have N0 := Fr.nil n0
  have hlk : meth.locks = false := BodyLoose.notSynchronized Bd
  show Goal p e below s (Q0 Z u0 u1 u2 u3 zc h0 n0) 56 192 (s₁.setTop (entryFrame m #[(.int u0), (.int u1), (.int u2), (.int u3)] maxLocals))
  refine Goal.to (B := s₁.setTop (mkF m 0 #[.val (.int u0), .val (.int u1), .val (.int u2), .val (.int u3), .unset, .unset, .unset, .unset, .unset, .unset, .unset, .unset] [])) (fun tt kk => castTop (ef_0 m u0 u1 u2 u3 ) kk) ?_
  have hws : ∀ d ∈ StrChars.Road.words, d.before a0 Z = true := fun d hd => hw d (own_ws d hd)
  obtain ⟨tt0, htt0⟩ : ∃ z : Int32, z = ((u0 &&& (2147483647 : Int32)) % (3 : Int32)) := ⟨_, rfl⟩
  obtain ⟨ll0, hll0⟩ : ∃ z : Int32, z = (((u1 &&& (2147483647 : Int32)) % (5 : Int32)) + (1 : Int32)) := ⟨_, rfl⟩
  refine Goal.to (B := s₁.setTop (mkF m 18 #[.val (.int u0), .val (.int u1), .val (.int u2), .val (.int u3), .val (.int tt0), .val (.int ll0), .unset, .unset, .unset, .unset, .unset, .unset] [])) (fun tt kk => ?_) ?_
  · subst htt0
    subst hll0
    show Steps p.tables e below (s₁.setTop (mkF m 0 #[.val (.int u0), .val (.int u1), .val (.int u2), .val (.int u3), .unset, .unset, .unset, .unset, .unset, .unset, .unset, .unset] [])) tt
    refine XS.iloadN X0.here hx rfl (hb hby at_0) rfl ?_
    show Steps p.tables e below (s₁.setTop (mkF m 1 #[.val (.int u0), .val (.int u1), .val (.int u2), .val (.int u3), .unset, .unset, .unset, .unset, .unset, .unset, .unset, .unset] [(.int u0)])) tt
    refine X0.ldcInt hx hown (mvT hZ (hw _ (mw 0 rfl))) (g := (mkF m 1 #[.val (.int u0), .val (.int u1), .val (.int u2), .val (.int u3), .unset, .unset, .unset, .unset, .unset, .unset, .unset, .unset] [(.int u0)])) rfl (hb hby at_1) _ ?_
    show Steps p.tables e below (s₁.setTop (mkF m 3 #[.val (.int u0), .val (.int u1), .val (.int u2), .val (.int u3), .unset, .unset, .unset, .unset, .unset, .unset, .unset, .unset] [(.int (2147483647 : Int32)), (.int u0)])) tt
    refine XS.iand X0.here hx rfl (hb hby at_3) rfl ?_
    show Steps p.tables e below (s₁.setTop (mkF m 4 #[.val (.int u0), .val (.int u1), .val (.int u2), .val (.int u3), .unset, .unset, .unset, .unset, .unset, .unset, .unset, .unset] [(.int (u0 &&& (2147483647 : Int32)))])) tt
    refine XS.iconst X0.here hx rfl (hb hby at_4) ?_
    show Steps p.tables e below (s₁.setTop (mkF m 5 #[.val (.int u0), .val (.int u1), .val (.int u2), .val (.int u3), .unset, .unset, .unset, .unset, .unset, .unset, .unset, .unset] [(.int (3 : Int32)), (.int (u0 &&& (2147483647 : Int32)))])) tt
    refine iremM X0 hx rfl (hb hby at_5) rfl (by decide) ?_
    show Steps p.tables e below (s₁.setTop (mkF m 6 #[.val (.int u0), .val (.int u1), .val (.int u2), .val (.int u3), .unset, .unset, .unset, .unset, .unset, .unset, .unset, .unset] [(.int ((u0 &&& (2147483647 : Int32)) % (3 : Int32)))])) tt
    refine XS.istore X0.here hx rfl (hb hby at_6) rfl (l' := #[.val (.int u0), .val (.int u1), .val (.int u2), .val (.int u3), .val (.int ((u0 &&& (2147483647 : Int32)) % (3 : Int32))), .unset, .unset, .unset, .unset, .unset, .unset, .unset]) rfl ?_
    show Steps p.tables e below (s₁.setTop (mkF m 8 #[.val (.int u0), .val (.int u1), .val (.int u2), .val (.int u3), .val (.int ((u0 &&& (2147483647 : Int32)) % (3 : Int32))), .unset, .unset, .unset, .unset, .unset, .unset, .unset] [])) tt
    refine XS.iloadN X0.here hx rfl (hb hby at_8) rfl ?_
    show Steps p.tables e below (s₁.setTop (mkF m 9 #[.val (.int u0), .val (.int u1), .val (.int u2), .val (.int u3), .val (.int ((u0 &&& (2147483647 : Int32)) % (3 : Int32))), .unset, .unset, .unset, .unset, .unset, .unset, .unset] [(.int u1)])) tt
    refine X0.ldcInt hx hown (mvT hZ (hw _ (mw 0 rfl))) (g := (mkF m 9 #[.val (.int u0), .val (.int u1), .val (.int u2), .val (.int u3), .val (.int ((u0 &&& (2147483647 : Int32)) % (3 : Int32))), .unset, .unset, .unset, .unset, .unset, .unset, .unset] [(.int u1)])) rfl (hb hby at_9) _ ?_
    show Steps p.tables e below (s₁.setTop (mkF m 11 #[.val (.int u0), .val (.int u1), .val (.int u2), .val (.int u3), .val (.int ((u0 &&& (2147483647 : Int32)) % (3 : Int32))), .unset, .unset, .unset, .unset, .unset, .unset, .unset] [(.int (2147483647 : Int32)), (.int u1)])) tt
    refine XS.iand X0.here hx rfl (hb hby at_11) rfl ?_
    show Steps p.tables e below (s₁.setTop (mkF m 12 #[.val (.int u0), .val (.int u1), .val (.int u2), .val (.int u3), .val (.int ((u0 &&& (2147483647 : Int32)) % (3 : Int32))), .unset, .unset, .unset, .unset, .unset, .unset, .unset] [(.int (u1 &&& (2147483647 : Int32)))])) tt
    refine XS.iconst X0.here hx rfl (hb hby at_12) ?_
    show Steps p.tables e below (s₁.setTop (mkF m 13 #[.val (.int u0), .val (.int u1), .val (.int u2), .val (.int u3), .val (.int ((u0 &&& (2147483647 : Int32)) % (3 : Int32))), .unset, .unset, .unset, .unset, .unset, .unset, .unset] [(.int (5 : Int32)), (.int (u1 &&& (2147483647 : Int32)))])) tt
    refine iremM X0 hx rfl (hb hby at_13) rfl (by decide) ?_
    show Steps p.tables e below (s₁.setTop (mkF m 14 #[.val (.int u0), .val (.int u1), .val (.int u2), .val (.int u3), .val (.int ((u0 &&& (2147483647 : Int32)) % (3 : Int32))), .unset, .unset, .unset, .unset, .unset, .unset, .unset] [(.int ((u1 &&& (2147483647 : Int32)) % (5 : Int32)))])) tt
    refine XS.iconst X0.here hx rfl (hb hby at_14) ?_
    show Steps p.tables e below (s₁.setTop (mkF m 15 #[.val (.int u0), .val (.int u1), .val (.int u2), .val (.int u3), .val (.int ((u0 &&& (2147483647 : Int32)) % (3 : Int32))), .unset, .unset, .unset, .unset, .unset, .unset, .unset] [(.int (1 : Int32)), (.int ((u1 &&& (2147483647 : Int32)) % (5 : Int32)))])) tt
    refine XS.iadd X0.here hx rfl (hb hby at_15) rfl ?_
    show Steps p.tables e below (s₁.setTop (mkF m 16 #[.val (.int u0), .val (.int u1), .val (.int u2), .val (.int u3), .val (.int ((u0 &&& (2147483647 : Int32)) % (3 : Int32))), .unset, .unset, .unset, .unset, .unset, .unset, .unset] [(.int (((u1 &&& (2147483647 : Int32)) % (5 : Int32)) + (1 : Int32)))])) tt
    refine XS.istore X0.here hx rfl (hb hby at_16) rfl (l' := #[.val (.int u0), .val (.int u1), .val (.int u2), .val (.int u3), .val (.int ((u0 &&& (2147483647 : Int32)) % (3 : Int32))), .val (.int (((u1 &&& (2147483647 : Int32)) % (5 : Int32)) + (1 : Int32))), .unset, .unset, .unset, .unset, .unset, .unset]) rfl ?_
    exact kk
  obtain ⟨tn, htn⟩ := own_t htt0
  obtain ⟨ln, hln⟩ := own_ln hll0
  subst htn hln
  · obtain ⟨cc, hcc⟩ : ∃ z : Int32, z = ((u2 &&& (255 : Int32)).toUInt32.toUInt16.toUInt32.toInt32) := ⟨_, rfl⟩
    refine Goal.to (B := s₁.setTop (mkF m 26 #[.val (.int u0), .val (.int u1), .val (.int u2), .val (.int u3), .val (.int (own_t3 tn)), .val (.int (own_l5 ln)), .val (.int cc), .unset, .unset, .unset, .unset, .unset] [])) (fun tt kk => ?_) ?_
    · subst hcc
      show Steps p.tables e below (s₁.setTop (mkF m 18 #[.val (.int u0), .val (.int u1), .val (.int u2), .val (.int u3), .val (.int (own_t3 tn)), .val (.int (own_l5 ln)), .unset, .unset, .unset, .unset, .unset, .unset] [])) tt
      refine XS.iloadN X0.here hx rfl (hb hby at_18) rfl ?_
      show Steps p.tables e below (s₁.setTop (mkF m 19 #[.val (.int u0), .val (.int u1), .val (.int u2), .val (.int u3), .val (.int (own_t3 tn)), .val (.int (own_l5 ln)), .unset, .unset, .unset, .unset, .unset, .unset] [(.int u2)])) tt
      refine XS.sipush X0.here hx rfl (hb hby at_19) ?_
      show Steps p.tables e below (s₁.setTop (mkF m 22 #[.val (.int u0), .val (.int u1), .val (.int u2), .val (.int u3), .val (.int (own_t3 tn)), .val (.int (own_l5 ln)), .unset, .unset, .unset, .unset, .unset, .unset] [(.int (255 : Int32)), (.int u2)])) tt
      refine XS.iand X0.here hx rfl (hb hby at_22) rfl ?_
      show Steps p.tables e below (s₁.setTop (mkF m 23 #[.val (.int u0), .val (.int u1), .val (.int u2), .val (.int u3), .val (.int (own_t3 tn)), .val (.int (own_l5 ln)), .unset, .unset, .unset, .unset, .unset, .unset] [(.int (u2 &&& (255 : Int32)))])) tt
      refine XS.i2c X0.here hx rfl (hb hby at_23) rfl ?_
      show Steps p.tables e below (s₁.setTop (mkF m 24 #[.val (.int u0), .val (.int u1), .val (.int u2), .val (.int u3), .val (.int (own_t3 tn)), .val (.int (own_l5 ln)), .unset, .unset, .unset, .unset, .unset, .unset] [(.int ((u2 &&& (255 : Int32)).toUInt32.toUInt16.toUInt32.toInt32))])) tt
      refine XS.istore X0.here hx rfl (hb hby at_24) rfl (l' := #[.val (.int u0), .val (.int u1), .val (.int u2), .val (.int u3), .val (.int (own_t3 tn)), .val (.int (own_l5 ln)), .val (.int ((u2 &&& (255 : Int32)).toUInt32.toUInt16.toUInt32.toInt32)), .unset, .unset, .unset, .unset, .unset]) rfl ?_
      exact kk
    obtain ⟨cd, hcd⟩ : ∃ z : Int32, z = ((((u2.toUInt32 >>> ((8 : Int32) &&& 31).toUInt32).toInt32) &&& (255 : Int32)).toUInt32.toUInt16.toUInt32.toInt32) := ⟨_, rfl⟩
    refine Goal.to (B := s₁.setTop (mkF m 37 #[.val (.int u0), .val (.int u1), .val (.int u2), .val (.int u3), .val (.int (own_t3 tn)), .val (.int (own_l5 ln)), .val (.int cc), .val (.int cd), .unset, .unset, .unset, .unset] [])) (fun tt kk => ?_) ?_
    · subst hcd
      show Steps p.tables e below (s₁.setTop (mkF m 26 #[.val (.int u0), .val (.int u1), .val (.int u2), .val (.int u3), .val (.int (own_t3 tn)), .val (.int (own_l5 ln)), .val (.int cc), .unset, .unset, .unset, .unset, .unset] [])) tt
      refine XS.iloadN X0.here hx rfl (hb hby at_26) rfl ?_
      show Steps p.tables e below (s₁.setTop (mkF m 27 #[.val (.int u0), .val (.int u1), .val (.int u2), .val (.int u3), .val (.int (own_t3 tn)), .val (.int (own_l5 ln)), .val (.int cc), .unset, .unset, .unset, .unset, .unset] [(.int u2)])) tt
      refine XS.bipush X0.here hx rfl (hb hby at_27) ?_
      show Steps p.tables e below (s₁.setTop (mkF m 29 #[.val (.int u0), .val (.int u1), .val (.int u2), .val (.int u3), .val (.int (own_t3 tn)), .val (.int (own_l5 ln)), .val (.int cc), .unset, .unset, .unset, .unset, .unset] [(.int (8 : Int32)), (.int u2)])) tt
      refine XS.iushr X0.here hx rfl (hb hby at_29) rfl ?_
      show Steps p.tables e below (s₁.setTop (mkF m 30 #[.val (.int u0), .val (.int u1), .val (.int u2), .val (.int u3), .val (.int (own_t3 tn)), .val (.int (own_l5 ln)), .val (.int cc), .unset, .unset, .unset, .unset, .unset] [(.int ((u2.toUInt32 >>> ((8 : Int32) &&& 31).toUInt32).toInt32))])) tt
      refine XS.sipush X0.here hx rfl (hb hby at_30) ?_
      show Steps p.tables e below (s₁.setTop (mkF m 33 #[.val (.int u0), .val (.int u1), .val (.int u2), .val (.int u3), .val (.int (own_t3 tn)), .val (.int (own_l5 ln)), .val (.int cc), .unset, .unset, .unset, .unset, .unset] [(.int (255 : Int32)), (.int ((u2.toUInt32 >>> ((8 : Int32) &&& 31).toUInt32).toInt32))])) tt
      refine XS.iand X0.here hx rfl (hb hby at_33) rfl ?_
      show Steps p.tables e below (s₁.setTop (mkF m 34 #[.val (.int u0), .val (.int u1), .val (.int u2), .val (.int u3), .val (.int (own_t3 tn)), .val (.int (own_l5 ln)), .val (.int cc), .unset, .unset, .unset, .unset, .unset] [(.int (((u2.toUInt32 >>> ((8 : Int32) &&& 31).toUInt32).toInt32) &&& (255 : Int32)))])) tt
      refine XS.i2c X0.here hx rfl (hb hby at_34) rfl ?_
      show Steps p.tables e below (s₁.setTop (mkF m 35 #[.val (.int u0), .val (.int u1), .val (.int u2), .val (.int u3), .val (.int (own_t3 tn)), .val (.int (own_l5 ln)), .val (.int cc), .unset, .unset, .unset, .unset, .unset] [(.int ((((u2.toUInt32 >>> ((8 : Int32) &&& 31).toUInt32).toInt32) &&& (255 : Int32)).toUInt32.toUInt16.toUInt32.toInt32))])) tt
      refine XS.istore X0.here hx rfl (hb hby at_35) rfl (l' := #[.val (.int u0), .val (.int u1), .val (.int u2), .val (.int u3), .val (.int (own_t3 tn)), .val (.int (own_l5 ln)), .val (.int cc), .val (.int ((((u2.toUInt32 >>> ((8 : Int32) &&& 31).toUInt32).toInt32) &&& (255 : Int32)).toUInt32.toUInt16.toUInt32.toInt32)), .unset, .unset, .unset, .unset]) rfl ?_
      exact kk
    refine Goal.to (B := s₁.setTop (mkF m 38 #[.val (.int u0), .val (.int u1), .val (.int u2), .val (.int u3), .val (.int (own_t3 tn)), .val (.int (own_l5 ln)), .val (.int cc), .val (.int cd), .unset, .unset, .unset, .unset] [(.int (4 : Int32))])) (fun tt kk => ?_) ?_
    · show Steps p.tables e below (s₁.setTop (mkF m 37 #[.val (.int u0), .val (.int u1), .val (.int u2), .val (.int u3), .val (.int (own_t3 tn)), .val (.int (own_l5 ln)), .val (.int cc), .val (.int cd), .unset, .unset, .unset, .unset] [])) tt
      refine XS.iconst X0.here hx rfl (hb hby at_37) ?_
      exact kk
    obtain ⟨T1, h1, k1, X1, e1, E1, A1, O1, st1⟩ := newR X0 hx hZ hown (hw _ (mw 1 rfl)) (hw _ (mw 2 rfl)) e0 (g := (mkF m 38 #[.val (.int u0), .val (.int u1), .val (.int u2), .val (.int u3), .val (.int (own_t3 tn)), .val (.int (own_l5 ln)), .val (.int cc), .val (.int cd), .unset, .unset, .unset, .unset] [(.int (4 : Int32))])) rfl (hb hby at_38) rfl (by decide) (cap := 4) (by decide) (by decide) (by decide) (by decide)
    obtain ⟨b1, g1⟩ : ∃ z, z = h0.size := ⟨_, rfl⟩
    rw [← g1] at A1 st1
    have g_b1 : n0 ≤ b1 := Nat.le_trans Z0 (Nat.le_of_eq g1.symm)
    have Ov1 : OvrO Z h1 b1 "java/lang/Object" := ⟨_, A1.1, O1⟩
    have V1 : Ary Z h1 b1 (.object "java/lang/Object") [.null, .null, .null, .null] := Ary.new A1 rfl
    refine Goal.to (B := T1.setTop (mkF m 41 #[.val (.int u0), .val (.int u1), .val (.int u2), .val (.int u3), .val (.int (own_t3 tn)), .val (.int (own_l5 ln)), .val (.int cc), .val (.int cd), .unset, .unset, .unset, .unset] [(.ref b1)])) st1 ?_
    refine Goal.to (B := T1.setTop (mkF m 46 #[.val (.int u0), .val (.int u1), .val (.int u2), .val (.int u3), .val (.int (own_t3 tn)), .val (.int (own_l5 ln)), .val (.int cc), .val (.int cd), .val (.ref b1), .unset, .unset, .unset] [(.int (0 : Int32)), (.ref b1)])) (fun tt kk => ?_) ?_
    · show Steps p.tables e below (T1.setTop (mkF m 41 #[.val (.int u0), .val (.int u1), .val (.int u2), .val (.int u3), .val (.int (own_t3 tn)), .val (.int (own_l5 ln)), .val (.int cc), .val (.int cd), .unset, .unset, .unset, .unset] [(.ref b1)])) tt
      refine XS.astore X1.here hx rfl (hb hby at_41) rfl rfl (l' := #[.val (.int u0), .val (.int u1), .val (.int u2), .val (.int u3), .val (.int (own_t3 tn)), .val (.int (own_l5 ln)), .val (.int cc), .val (.int cd), .val (.ref b1), .unset, .unset, .unset]) rfl ?_
      show Steps p.tables e below (T1.setTop (mkF m 43 #[.val (.int u0), .val (.int u1), .val (.int u2), .val (.int u3), .val (.int (own_t3 tn)), .val (.int (own_l5 ln)), .val (.int cc), .val (.int cd), .val (.ref b1), .unset, .unset, .unset] [])) tt
      refine XS.aload X1.here hx rfl (hb hby at_43) rfl rfl ?_
      show Steps p.tables e below (T1.setTop (mkF m 45 #[.val (.int u0), .val (.int u1), .val (.int u2), .val (.int u3), .val (.int (own_t3 tn)), .val (.int (own_l5 ln)), .val (.int cc), .val (.int cd), .val (.ref b1), .unset, .unset, .unset] [(.ref b1)])) tt
      refine XS.iconst X1.here hx rfl (hb hby at_45) ?_
      exact kk
    have f3 : n0 ≤ h1.size := (Nat.le_trans Z0 E1.1)
    obtain ⟨T2, h2, X2, e2, E2, A2, D2, -, st2⟩ := newO X1 hx hZ hown (hw _ (mw 3 rfl)) (hw _ (mw 4 rfl)) (hw _ (mw 5 rfl)) e1 (g := (mkF m 46 #[.val (.int u0), .val (.int u1), .val (.int u2), .val (.int u3), .val (.int (own_t3 tn)), .val (.int (own_l5 ln)), .val (.int cc), .val (.int cd), .val (.ref b1), .unset, .unset, .unset] [(.int (0 : Int32)), (.ref b1)])) rfl (hb hby at_46) (by decide) (by decide)
    obtain ⟨b2, g2⟩ : ∃ z, z = h1.size := ⟨_, rfl⟩
    rw [← g2] at A2 D2 st2
    have ne_b1_b2 : b1 ≠ b2 := Nat.ne_of_lt (Nat.lt_of_lt_of_le V1.lt (Nat.le_of_eq g2.symm))
    have g_b2 : n0 ≤ b2 := Nat.le_trans f3 (Nat.le_of_eq g2.symm)
    have F_coder_b2 : Fld Z h2 b2 "java/lang/String" "coder" "B" (.int (0 : Int32)) := D2 (Or.inr (hw _ (mw 30 rfl))) (ty := .byte) (by decide)
    have F_value_b2 : Fld Z h2 b2 "java/lang/String" "value" "[B" .null := D2 (Or.inr (hw _ (mw 32 rfl))) (ty := (.array .byte)) (by decide)
    refine Goal.to (B := T2.setTop (mkF m 49 #[.val (.int u0), .val (.int u1), .val (.int u2), .val (.int u3), .val (.int (own_t3 tn)), .val (.int (own_l5 ln)), .val (.int cc), .val (.int cd), .val (.ref b1), .unset, .unset, .unset] [(.ref b2), (.int (0 : Int32)), (.ref b1)])) st2 ?_
    refine Goal.to (B := T2.setTop (mkF m 51 #[.val (.int u0), .val (.int u1), .val (.int u2), .val (.int u3), .val (.int (own_t3 tn)), .val (.int (own_l5 ln)), .val (.int cc), .val (.int cd), .val (.ref b1), .unset, .unset, .unset] [(.int (1 : Int32)), (.ref b2), (.ref b2), (.int (0 : Int32)), (.ref b1)])) (fun tt kk => ?_) ?_
    · show Steps p.tables e below (T2.setTop (mkF m 49 #[.val (.int u0), .val (.int u1), .val (.int u2), .val (.int u3), .val (.int (own_t3 tn)), .val (.int (own_l5 ln)), .val (.int cc), .val (.int cd), .val (.ref b1), .unset, .unset, .unset] [(.ref b2), (.int (0 : Int32)), (.ref b1)])) tt
      refine XS.dup X2.here hx rfl (hb hby at_49) rfl rfl ?_
      show Steps p.tables e below (T2.setTop (mkF m 50 #[.val (.int u0), .val (.int u1), .val (.int u2), .val (.int u3), .val (.int (own_t3 tn)), .val (.int (own_l5 ln)), .val (.int cc), .val (.int cd), .val (.ref b1), .unset, .unset, .unset] [(.ref b2), (.ref b2), (.int (0 : Int32)), (.ref b1)])) tt
      refine XS.iconst X2.here hx rfl (hb hby at_50) ?_
      exact kk
    have f5 : Ary Z h2 b1 (.object "java/lang/Object") [.null, .null, .null, .null] := (V1.ext E2)
    have f6 : n0 ≤ h2.size := (Nat.le_trans f3 E2.1)
    obtain ⟨T4, h4, k4, X4, e4, E4, A4, st4⟩ := newP X2 hx hZ (hw _ (mw 6 rfl)) e2 (g := (mkF m 51 #[.val (.int u0), .val (.int u1), .val (.int u2), .val (.int u3), .val (.int (own_t3 tn)), .val (.int (own_l5 ln)), .val (.int cc), .val (.int cd), .val (.ref b1), .unset, .unset, .unset] [(.int (1 : Int32)), (.ref b2), (.ref b2), (.int (0 : Int32)), (.ref b1)])) rfl (hb hby at_51) rfl (by decide) (cap := 1) (by decide) (by decide) (by decide) (by decide)
    obtain ⟨b4, g4⟩ : ∃ z, z = h2.size := ⟨_, rfl⟩
    rw [← g4] at A4 st4
    have ne_b1_b4 : b1 ≠ b4 := Nat.ne_of_lt (Nat.lt_of_lt_of_le f5.lt (Nat.le_of_eq g4.symm))
    have ne_b2_b4 : b2 ≠ b4 := Nat.ne_of_lt (Nat.lt_of_lt_of_le A2.lt (Nat.le_of_eq g4.symm))
    have g_b4 : n0 ≤ b4 := Nat.le_trans f6 (Nat.le_of_eq g4.symm)
    have V4 : Ary Z h4 b4 .char [(.int (0 : Int32))] := Ary.new A4 rfl
    refine Goal.to (B := T4.setTop (mkF m 53 #[.val (.int u0), .val (.int u1), .val (.int u2), .val (.int u3), .val (.int (own_t3 tn)), .val (.int (own_l5 ln)), .val (.int cc), .val (.int cd), .val (.ref b1), .unset, .unset, .unset] [(.ref b4), (.ref b2), (.ref b2), (.int (0 : Int32)), (.ref b1)])) st4 ?_
    refine Goal.to (B := T4.setTop (mkF m 57 #[.val (.int u0), .val (.int u1), .val (.int u2), .val (.int u3), .val (.int (own_t3 tn)), .val (.int (own_l5 ln)), .val (.int cc), .val (.int cd), .val (.ref b1), .unset, .unset, .unset] [(.int cc), (.int (0 : Int32)), (.ref b4), (.ref b4), (.ref b2), (.ref b2), (.int (0 : Int32)), (.ref b1)])) (fun tt kk => ?_) ?_
    · show Steps p.tables e below (T4.setTop (mkF m 53 #[.val (.int u0), .val (.int u1), .val (.int u2), .val (.int u3), .val (.int (own_t3 tn)), .val (.int (own_l5 ln)), .val (.int cc), .val (.int cd), .val (.ref b1), .unset, .unset, .unset] [(.ref b4), (.ref b2), (.ref b2), (.int (0 : Int32)), (.ref b1)])) tt
      refine XS.dup X4.here hx rfl (hb hby at_53) rfl rfl ?_
      show Steps p.tables e below (T4.setTop (mkF m 54 #[.val (.int u0), .val (.int u1), .val (.int u2), .val (.int u3), .val (.int (own_t3 tn)), .val (.int (own_l5 ln)), .val (.int cc), .val (.int cd), .val (.ref b1), .unset, .unset, .unset] [(.ref b4), (.ref b4), (.ref b2), (.ref b2), (.int (0 : Int32)), (.ref b1)])) tt
      refine XS.iconst X4.here hx rfl (hb hby at_54) ?_
      show Steps p.tables e below (T4.setTop (mkF m 55 #[.val (.int u0), .val (.int u1), .val (.int u2), .val (.int u3), .val (.int (own_t3 tn)), .val (.int (own_l5 ln)), .val (.int cc), .val (.int cd), .val (.ref b1), .unset, .unset, .unset] [(.int (0 : Int32)), (.ref b4), (.ref b4), (.ref b2), (.ref b2), (.int (0 : Int32)), (.ref b1)])) tt
      refine XS.iload X4.here hx rfl (hb hby at_55) rfl ?_
      exact kk
    obtain ⟨cl7, Ar7, Sl7⟩ := id V4
    have hin7 := inA (cl := cl7) Sl7 (j := (0 : Int32)) (by decide) (Nat.le_of_ble_eq_true rfl)
    obtain ⟨T7, h7, X7, e7, W7, st7⟩ := stC X4 hx hZ e4 Ar7 (j := (0 : Int32)) hin7 (g := (mkF m 57 #[.val (.int u0), .val (.int u1), .val (.int u2), .val (.int u3), .val (.int (own_t3 tn)), .val (.int (own_l5 ln)), .val (.int cc), .val (.int cd), .val (.ref b1), .unset, .unset, .unset] [(.int cc), (.int (0 : Int32)), (.ref b4), (.ref b4), (.ref b2), (.ref b2), (.int (0 : Int32)), (.ref b1)])) rfl rfl (hb hby at_57)
    have V7 : Ary Z h7 b4 .char [(.int (nar .char cc))] := Ary.put Ar7 Sl7 W7 rfl
    have N7 := Fr.snoc X7 N0 g_b4
    refine Goal.to (B := T7.setTop (mkF m 58 #[.val (.int u0), .val (.int u1), .val (.int u2), .val (.int u3), .val (.int (own_t3 tn)), .val (.int (own_l5 ln)), .val (.int cc), .val (.int cd), .val (.ref b1), .unset, .unset, .unset] [(.ref b4), (.ref b2), (.ref b2), (.int (0 : Int32)), (.ref b1)])) st7 ?_
    have f9 : n0 ≤ h7.size := (Nat.le_trans (Nat.le_trans f6 E4.1) (Keep.of_wr W7).1)
    have f10 : Exa Z h7 b2 "java/lang/String" := ((A2.ext E4).wr W7)
    have f11 : Fld Z h7 b2 "java/lang/String" "value" "[B" .null := ((F_value_b2.ext E4).other W7 (Or.inl ne_b2_b4))
    have f12 : Fld Z h7 b2 "java/lang/String" "coder" "B" (.int (0 : Int32)) := ((F_coder_b2.ext E4).other W7 (Or.inl ne_b2_b4))
    have f13 : StaN Z n0 h7 "java/lang/String" "COMPACT_STRINGS" "Z" (.int zc) := ((((S_COMPACT_STRINGS.ext E1).ext E2).ext E4).wr W7)
    have f14 : Ary Z h7 b1 (.object "java/lang/Object") [.null, .null, .null, .null] := ((f5.ext E4).other W7 ne_b1_b4)
    obtain ⟨kc8, Vc8⟩ := Ary.arv (dv := (.int (0 : Int32))) (z := (1 : Int32)) V7 rfl (by decide) (fits_cons (fits_nar_char _) fits_nil)
    have hp8 : ∀ c ∈ [(nar .char cc)], ¬ c < 0 ∧ ¬ (255 : Int32) < c := by
      intro c hc
      simp only [List.mem_cons, List.not_mem_nil, or_false] at hc
      rcases hc with rfl
      · exact own_lat _ hcc
    obtain ⟨_, _, ⟨T8, L8, k8, n8⟩, -, X8, ⟨Lc8, hQ8, l8, y8, z8⟩, st8⟩ := X7.specialBack hx (y := (⟨"java/lang/String", "<init>", "([C)V"⟩ : MethodName)) rfl hown (mvT hZ (hw _ (mw 7 rfl))) (mvT hZ (hw _ (mw 8 rfl))) (mvT hZ (hw _ (mw 9 rfl))) (by decide) (StrChars.Road.backV (W := 3) hZ hws (kI := 4) (hw _ (mw 4 rfl)) (cs := [(nar .char cc)]) (bs := [((nar .char cc)).toInt8.toInt32]) (n := 1) g_b2 f9 f10 f11 f12 Vc8 f13.sta hCS rfl rfl (by decide) (by decide) hp8 rfl (by decide) (by decide)) (g := (mkF m 58 #[.val (.int u0), .val (.int u1), .val (.int u2), .val (.int u3), .val (.int (own_t3 tn)), .val (.int (own_l5 ln)), .val (.int cc), .val (.int cd), .val (.ref b1), .unset, .unset, .unset] [(.ref b4), (.ref b2), (.ref b2), (.int (0 : Int32)), (.ref b1)])) rfl (by rw [hml]; rfl) (Steps.refl _) (a := b2) (argsL := [(.ref b4)]) (rest := [(.ref b2), (.int (0 : Int32)), (.ref b1)]) (lenOf pd_0 rfl) rfl (by show 2 * 0 + _ ≤ _; exact Nat.le_of_eq rfl) (hb hby at_58) (fun _ _ => ⟨rfl, e7, (by decide : 3 + 1 ≤ _), (by decide : 9 + 1 ≤ _)⟩)
    dsimp only [Pt.U, Pt.locs, Pt.cells, Pt.slots] at X8 l8 y8 z8 st8 hQ8
    subst y8 z8
    obtain ⟨rfl, N8q, K8, P8_0, P8_1, t8, kb8, gt8, sz8, nt8, P8_2, P8_3⟩ := hQ8
    have N8 := Fr.eqv l8 (Fr.app N7 N8q)
    refine Goal.tr (B := T8.setTop (mkF m 61 #[.val (.int u0), .val (.int u1), .val (.int u2), .val (.int u3), .val (.int (own_t3 tn)), .val (.int (own_l5 ln)), .val (.int cc), .val (.int cd), .val (.ref b1), .unset, .unset, .unset] [(.ref b2), (.int (0 : Int32)), (.ref b1)])) st8 ?_
    have f15 : Ary Z T8.heap b1 (.object "java/lang/Object") [.null, .null, .null, .null] := (f14.keep K8 (ninS ne_b1_b2 nin0))
    obtain ⟨cl16, Ar16, Sl16⟩ := id f15
    have hin16 := inA (cl := cl16) Sl16 (j := (0 : Int32)) (by decide) (Nat.le_of_ble_eq_true rfl)
    have f17 : OvrO Z T8.heap b1 "java/lang/Object" := ((((Ov1.ext E2).ext E4).wr W7).keep K8)
    obtain ⟨T16, h16, X16, e16, W16, st16⟩ := stR X8 hx hZ rfl Ar16 (j := (0 : Int32)) hin16 rfl (stoO Ar16 f17 (Ins.of_exa P8_0 (hw _ (mw 33 rfl)))) (g := (mkF m 61 #[.val (.int u0), .val (.int u1), .val (.int u2), .val (.int u3), .val (.int (own_t3 tn)), .val (.int (own_l5 ln)), .val (.int cc), .val (.int cd), .val (.ref b1), .unset, .unset, .unset] [(.ref b2), (.int (0 : Int32)), (.ref b1)])) rfl rfl (hb hby at_61)
    have V16 : Ary Z h16 b1 (.object "java/lang/Object") [(.ref b2), .null, .null, .null] := Ary.put Ar16 Sl16 W16 rfl
    have N16 := Fr.snoc X16 N8 g_b1
    refine Goal.to (B := T16.setTop (mkF m 62 #[.val (.int u0), .val (.int u1), .val (.int u2), .val (.int u3), .val (.int (own_t3 tn)), .val (.int (own_l5 ln)), .val (.int cc), .val (.int cd), .val (.ref b1), .unset, .unset, .unset] [])) st16 ?_
    refine Goal.to (B := T16.setTop (mkF m 65 #[.val (.int u0), .val (.int u1), .val (.int u2), .val (.int u3), .val (.int (own_t3 tn)), .val (.int (own_l5 ln)), .val (.int cc), .val (.int cd), .val (.ref b1), .unset, .unset, .unset] [(.int (1 : Int32)), (.ref b1)])) (fun tt kk => ?_) ?_
    · show Steps p.tables e below (T16.setTop (mkF m 62 #[.val (.int u0), .val (.int u1), .val (.int u2), .val (.int u3), .val (.int (own_t3 tn)), .val (.int (own_l5 ln)), .val (.int cc), .val (.int cd), .val (.ref b1), .unset, .unset, .unset] [])) tt
      refine XS.aload X16.here hx rfl (hb hby at_62) rfl rfl ?_
      show Steps p.tables e below (T16.setTop (mkF m 64 #[.val (.int u0), .val (.int u1), .val (.int u2), .val (.int u3), .val (.int (own_t3 tn)), .val (.int (own_l5 ln)), .val (.int cc), .val (.int cd), .val (.ref b1), .unset, .unset, .unset] [(.ref b1)])) tt
      refine XS.iconst X16.here hx rfl (hb hby at_64) ?_
      exact kk
    have f19 : Exa Z h16 b2 "java/lang/String" := (P8_0.wr W16)
    have f20 : Ary Z h16 b4 .char [(.int (nar .char cc))] := ((V7.keep K8 (ninS (Ne.symm ne_b2_b4) nin0)).other W16 (Ne.symm ne_b1_b4))
    have f21 : n0 ≤ h16.size := (Nat.le_trans (Nat.le_trans f9 K8.1) (Keep.of_wr W16).1)
    obtain ⟨T18, h18, X18, e18, E18, A18, D18, -, st18⟩ := newO X16 hx hZ hown (hw _ (mw 3 rfl)) (hw _ (mw 4 rfl)) (hw _ (mw 5 rfl)) e16 (g := (mkF m 65 #[.val (.int u0), .val (.int u1), .val (.int u2), .val (.int u3), .val (.int (own_t3 tn)), .val (.int (own_l5 ln)), .val (.int cc), .val (.int cd), .val (.ref b1), .unset, .unset, .unset] [(.int (1 : Int32)), (.ref b1)])) rfl (hb hby at_65) (by decide) (by decide)
    obtain ⟨b18, g18⟩ : ∃ z, z = h16.size := ⟨_, rfl⟩
    rw [← g18] at A18 D18 st18
    have ne_b1_b18 : b1 ≠ b18 := Nat.ne_of_lt (Nat.lt_of_lt_of_le V16.lt (Nat.le_of_eq g18.symm))
    have ne_b2_b18 : b2 ≠ b18 := Nat.ne_of_lt (Nat.lt_of_lt_of_le f19.lt (Nat.le_of_eq g18.symm))
    have ne_b4_b18 : b4 ≠ b18 := Nat.ne_of_lt (Nat.lt_of_lt_of_le f20.lt (Nat.le_of_eq g18.symm))
    have g_b18 : n0 ≤ b18 := Nat.le_trans f21 (Nat.le_of_eq g18.symm)
    have F_coder_b18 : Fld Z h18 b18 "java/lang/String" "coder" "B" (.int (0 : Int32)) := D18 (Or.inr (hw _ (mw 30 rfl))) (ty := .byte) (by decide)
    have F_value_b18 : Fld Z h18 b18 "java/lang/String" "value" "[B" .null := D18 (Or.inr (hw _ (mw 32 rfl))) (ty := (.array .byte)) (by decide)
    refine Goal.to (B := T18.setTop (mkF m 68 #[.val (.int u0), .val (.int u1), .val (.int u2), .val (.int u3), .val (.int (own_t3 tn)), .val (.int (own_l5 ln)), .val (.int cc), .val (.int cd), .val (.ref b1), .unset, .unset, .unset] [(.ref b18), (.int (1 : Int32)), (.ref b1)])) st18 ?_
    refine Goal.to (B := T18.setTop (mkF m 70 #[.val (.int u0), .val (.int u1), .val (.int u2), .val (.int u3), .val (.int (own_t3 tn)), .val (.int (own_l5 ln)), .val (.int cc), .val (.int cd), .val (.ref b1), .unset, .unset, .unset] [(.int (1 : Int32)), (.ref b18), (.ref b18), (.int (1 : Int32)), (.ref b1)])) (fun tt kk => ?_) ?_
    · show Steps p.tables e below (T18.setTop (mkF m 68 #[.val (.int u0), .val (.int u1), .val (.int u2), .val (.int u3), .val (.int (own_t3 tn)), .val (.int (own_l5 ln)), .val (.int cc), .val (.int cd), .val (.ref b1), .unset, .unset, .unset] [(.ref b18), (.int (1 : Int32)), (.ref b1)])) tt
      refine XS.dup X18.here hx rfl (hb hby at_68) rfl rfl ?_
      show Steps p.tables e below (T18.setTop (mkF m 69 #[.val (.int u0), .val (.int u1), .val (.int u2), .val (.int u3), .val (.int (own_t3 tn)), .val (.int (own_l5 ln)), .val (.int cc), .val (.int cd), .val (.ref b1), .unset, .unset, .unset] [(.ref b18), (.ref b18), (.int (1 : Int32)), (.ref b1)])) tt
      refine XS.iconst X18.here hx rfl (hb hby at_69) ?_
      exact kk
    have f23 : Ary Z h18 b1 (.object "java/lang/Object") [(.ref b2), .null, .null, .null] := (V16.ext E18)
    have f24 : Exa Z h18 b2 "java/lang/String" := (f19.ext E18)
    have f25 : Ary Z h18 b4 .char [(.int (nar .char cc))] := (f20.ext E18)
    have f26 : n0 ≤ h18.size := (Nat.le_trans f21 E18.1)
    obtain ⟨T22, h22, k22, X22, e22, E22, A22, st22⟩ := newP X18 hx hZ (hw _ (mw 6 rfl)) e18 (g := (mkF m 70 #[.val (.int u0), .val (.int u1), .val (.int u2), .val (.int u3), .val (.int (own_t3 tn)), .val (.int (own_l5 ln)), .val (.int cc), .val (.int cd), .val (.ref b1), .unset, .unset, .unset] [(.int (1 : Int32)), (.ref b18), (.ref b18), (.int (1 : Int32)), (.ref b1)])) rfl (hb hby at_70) rfl (by decide) (cap := 1) (by decide) (by decide) (by decide) (by decide)
    obtain ⟨b22, g22⟩ : ∃ z, z = h18.size := ⟨_, rfl⟩
    rw [← g22] at A22 st22
    have ne_b1_b22 : b1 ≠ b22 := Nat.ne_of_lt (Nat.lt_of_lt_of_le f23.lt (Nat.le_of_eq g22.symm))
    have ne_b2_b22 : b2 ≠ b22 := Nat.ne_of_lt (Nat.lt_of_lt_of_le f24.lt (Nat.le_of_eq g22.symm))
    have ne_b4_b22 : b4 ≠ b22 := Nat.ne_of_lt (Nat.lt_of_lt_of_le f25.lt (Nat.le_of_eq g22.symm))
    have ne_b18_b22 : b18 ≠ b22 := Nat.ne_of_lt (Nat.lt_of_lt_of_le A18.lt (Nat.le_of_eq g22.symm))
    have g_b22 : n0 ≤ b22 := Nat.le_trans f26 (Nat.le_of_eq g22.symm)
    have V22 : Ary Z h22 b22 .char [(.int (0 : Int32))] := Ary.new A22 rfl
    refine Goal.to (B := T22.setTop (mkF m 72 #[.val (.int u0), .val (.int u1), .val (.int u2), .val (.int u3), .val (.int (own_t3 tn)), .val (.int (own_l5 ln)), .val (.int cc), .val (.int cd), .val (.ref b1), .unset, .unset, .unset] [(.ref b22), (.ref b18), (.ref b18), (.int (1 : Int32)), (.ref b1)])) st22 ?_
    refine Goal.to (B := T22.setTop (mkF m 76 #[.val (.int u0), .val (.int u1), .val (.int u2), .val (.int u3), .val (.int (own_t3 tn)), .val (.int (own_l5 ln)), .val (.int cc), .val (.int cd), .val (.ref b1), .unset, .unset, .unset] [(.int cc), (.int (0 : Int32)), (.ref b22), (.ref b22), (.ref b18), (.ref b18), (.int (1 : Int32)), (.ref b1)])) (fun tt kk => ?_) ?_
    · show Steps p.tables e below (T22.setTop (mkF m 72 #[.val (.int u0), .val (.int u1), .val (.int u2), .val (.int u3), .val (.int (own_t3 tn)), .val (.int (own_l5 ln)), .val (.int cc), .val (.int cd), .val (.ref b1), .unset, .unset, .unset] [(.ref b22), (.ref b18), (.ref b18), (.int (1 : Int32)), (.ref b1)])) tt
      refine XS.dup X22.here hx rfl (hb hby at_72) rfl rfl ?_
      show Steps p.tables e below (T22.setTop (mkF m 73 #[.val (.int u0), .val (.int u1), .val (.int u2), .val (.int u3), .val (.int (own_t3 tn)), .val (.int (own_l5 ln)), .val (.int cc), .val (.int cd), .val (.ref b1), .unset, .unset, .unset] [(.ref b22), (.ref b22), (.ref b18), (.ref b18), (.int (1 : Int32)), (.ref b1)])) tt
      refine XS.iconst X22.here hx rfl (hb hby at_73) ?_
      show Steps p.tables e below (T22.setTop (mkF m 74 #[.val (.int u0), .val (.int u1), .val (.int u2), .val (.int u3), .val (.int (own_t3 tn)), .val (.int (own_l5 ln)), .val (.int cc), .val (.int cd), .val (.ref b1), .unset, .unset, .unset] [(.int (0 : Int32)), (.ref b22), (.ref b22), (.ref b18), (.ref b18), (.int (1 : Int32)), (.ref b1)])) tt
      refine XS.iload X22.here hx rfl (hb hby at_74) rfl ?_
      exact kk
    obtain ⟨cl27, Ar27, Sl27⟩ := id V22
    have hin27 := inA (cl := cl27) Sl27 (j := (0 : Int32)) (by decide) (Nat.le_of_ble_eq_true rfl)
    obtain ⟨T27, h27, X27, e27, W27, st27⟩ := stC X22 hx hZ e22 Ar27 (j := (0 : Int32)) hin27 (g := (mkF m 76 #[.val (.int u0), .val (.int u1), .val (.int u2), .val (.int u3), .val (.int (own_t3 tn)), .val (.int (own_l5 ln)), .val (.int cc), .val (.int cd), .val (.ref b1), .unset, .unset, .unset] [(.int cc), (.int (0 : Int32)), (.ref b22), (.ref b22), (.ref b18), (.ref b18), (.int (1 : Int32)), (.ref b1)])) rfl rfl (hb hby at_76)
    have V27 : Ary Z h27 b22 .char [(.int (nar .char cc))] := Ary.put Ar27 Sl27 W27 rfl
    have N27 := Fr.snoc X27 N16 g_b22
    refine Goal.to (B := T27.setTop (mkF m 77 #[.val (.int u0), .val (.int u1), .val (.int u2), .val (.int u3), .val (.int (own_t3 tn)), .val (.int (own_l5 ln)), .val (.int cc), .val (.int cd), .val (.ref b1), .unset, .unset, .unset] [(.ref b22), (.ref b18), (.ref b18), (.int (1 : Int32)), (.ref b1)])) st27 ?_
    have f29 : n0 ≤ h27.size := (Nat.le_trans (Nat.le_trans f26 E22.1) (Keep.of_wr W27).1)
    have f30 : Exa Z h27 b18 "java/lang/String" := ((A18.ext E22).wr W27)
    have f31 : Fld Z h27 b18 "java/lang/String" "value" "[B" .null := ((F_value_b18.ext E22).other W27 (Or.inl ne_b18_b22))
    have f32 : Fld Z h27 b18 "java/lang/String" "coder" "B" (.int (0 : Int32)) := ((F_coder_b18.ext E22).other W27 (Or.inl ne_b18_b22))
    have f33 : StaN Z n0 h27 "java/lang/String" "COMPACT_STRINGS" "Z" (.int zc) := (((((f13.keep K8 (allS g_b2 all0)).wr W16).ext E18).ext E22).wr W27)
    have f34 : Ary Z h27 b1 (.object "java/lang/Object") [(.ref b2), .null, .null, .null] := ((f23.ext E22).other W27 ne_b1_b22)
    have f35 : Exa Z h27 b2 "java/lang/String" := ((f24.ext E22).wr W27)
    have f36 : Ary Z h27 b4 .char [(.int (nar .char cc))] := ((f25.ext E22).other W27 ne_b4_b22)
    obtain ⟨kc28, Vc28⟩ := Ary.arv (dv := (.int (0 : Int32))) (z := (1 : Int32)) V27 rfl (by decide) (fits_cons (fits_nar_char _) fits_nil)
    have hp28 : ∀ c ∈ [(nar .char cc)], ¬ c < 0 ∧ ¬ (255 : Int32) < c := by
      intro c hc
      simp only [List.mem_cons, List.not_mem_nil, or_false] at hc
      rcases hc with rfl
      · exact own_lat _ hcc
    obtain ⟨_, _, ⟨T28, L28, k28, n28⟩, -, X28, ⟨Lc28, hQ28, l28, y28, z28⟩, st28⟩ := X27.specialBack hx (y := (⟨"java/lang/String", "<init>", "([C)V"⟩ : MethodName)) rfl hown (mvT hZ (hw _ (mw 7 rfl))) (mvT hZ (hw _ (mw 8 rfl))) (mvT hZ (hw _ (mw 9 rfl))) (by decide) (StrChars.Road.backV (W := 3) hZ hws (kI := 4) (hw _ (mw 4 rfl)) (cs := [(nar .char cc)]) (bs := [((nar .char cc)).toInt8.toInt32]) (n := 1) g_b18 f29 f30 f31 f32 Vc28 f33.sta hCS rfl rfl (by decide) (by decide) hp28 rfl (by decide) (by decide)) (g := (mkF m 77 #[.val (.int u0), .val (.int u1), .val (.int u2), .val (.int u3), .val (.int (own_t3 tn)), .val (.int (own_l5 ln)), .val (.int cc), .val (.int cd), .val (.ref b1), .unset, .unset, .unset] [(.ref b22), (.ref b18), (.ref b18), (.int (1 : Int32)), (.ref b1)])) rfl (by rw [hml]; rfl) (Steps.refl _) (a := b18) (argsL := [(.ref b22)]) (rest := [(.ref b18), (.int (1 : Int32)), (.ref b1)]) (lenOf pd_0 rfl) rfl (by show 2 * 0 + _ ≤ _; exact Nat.le_of_eq rfl) (hb hby at_77) (fun _ _ => ⟨rfl, e27, (by decide : 6 + 1 ≤ _), (by decide : 15 + 1 ≤ _)⟩)
    dsimp only [Pt.U, Pt.locs, Pt.cells, Pt.slots] at X28 l28 y28 z28 st28 hQ28
    subst y28 z28
    obtain ⟨rfl, N28q, K28, P28_0, P28_1, t28, kb28, gt28, sz28, nt28, P28_2, P28_3⟩ := hQ28
    have N28 := Fr.eqv l28 (Fr.app N27 N28q)
    refine Goal.tr (B := T28.setTop (mkF m 80 #[.val (.int u0), .val (.int u1), .val (.int u2), .val (.int u3), .val (.int (own_t3 tn)), .val (.int (own_l5 ln)), .val (.int cc), .val (.int cd), .val (.ref b1), .unset, .unset, .unset] [(.ref b18), (.int (1 : Int32)), (.ref b1)])) st28 ?_
    have f37 : Ary Z T28.heap b1 (.object "java/lang/Object") [(.ref b2), .null, .null, .null] := (f34.keep K28 (ninS ne_b1_b18 nin0))
    obtain ⟨cl38, Ar38, Sl38⟩ := id f37
    have hin38 := inA (cl := cl38) Sl38 (j := (1 : Int32)) (by decide) (Nat.le_of_ble_eq_true rfl)
    have f39 : OvrO Z T28.heap b1 "java/lang/Object" := (((((f17.wr W16).ext E18).ext E22).wr W27).keep K28)
    obtain ⟨T38, h38, X38, e38, W38, st38⟩ := stR X28 hx hZ rfl Ar38 (j := (1 : Int32)) hin38 rfl (stoO Ar38 f39 (Ins.of_exa P28_0 (hw _ (mw 33 rfl)))) (g := (mkF m 80 #[.val (.int u0), .val (.int u1), .val (.int u2), .val (.int u3), .val (.int (own_t3 tn)), .val (.int (own_l5 ln)), .val (.int cc), .val (.int cd), .val (.ref b1), .unset, .unset, .unset] [(.ref b18), (.int (1 : Int32)), (.ref b1)])) rfl rfl (hb hby at_80)
    have V38 : Ary Z h38 b1 (.object "java/lang/Object") [(.ref b2), (.ref b18), .null, .null] := Ary.put Ar38 Sl38 W38 rfl
    have N38 := Fr.snoc X38 N28 g_b1
    refine Goal.to (B := T38.setTop (mkF m 81 #[.val (.int u0), .val (.int u1), .val (.int u2), .val (.int u3), .val (.int (own_t3 tn)), .val (.int (own_l5 ln)), .val (.int cc), .val (.int cd), .val (.ref b1), .unset, .unset, .unset] [])) st38 ?_
    refine Goal.to (B := T38.setTop (mkF m 84 #[.val (.int u0), .val (.int u1), .val (.int u2), .val (.int u3), .val (.int (own_t3 tn)), .val (.int (own_l5 ln)), .val (.int cc), .val (.int cd), .val (.ref b1), .unset, .unset, .unset] [(.int (2 : Int32)), (.ref b1)])) (fun tt kk => ?_) ?_
    · show Steps p.tables e below (T38.setTop (mkF m 81 #[.val (.int u0), .val (.int u1), .val (.int u2), .val (.int u3), .val (.int (own_t3 tn)), .val (.int (own_l5 ln)), .val (.int cc), .val (.int cd), .val (.ref b1), .unset, .unset, .unset] [])) tt
      refine XS.aload X38.here hx rfl (hb hby at_81) rfl rfl ?_
      show Steps p.tables e below (T38.setTop (mkF m 83 #[.val (.int u0), .val (.int u1), .val (.int u2), .val (.int u3), .val (.int (own_t3 tn)), .val (.int (own_l5 ln)), .val (.int cc), .val (.int cd), .val (.ref b1), .unset, .unset, .unset] [(.ref b1)])) tt
      refine XS.iconst X38.here hx rfl (hb hby at_83) ?_
      exact kk
    have f41 : Exa Z h38 b2 "java/lang/String" := ((f35.keep K28).wr W38)
    have f42 : Ary Z h38 b4 .char [(.int (nar .char cc))] := ((f36.keep K28 (ninS ne_b4_b18 nin0)).other W38 (Ne.symm ne_b1_b4))
    have f43 : Exa Z h38 b18 "java/lang/String" := (P28_0.wr W38)
    have f44 : Ary Z h38 b22 .char [(.int (nar .char cc))] := ((V27.keep K28 (ninS (Ne.symm ne_b18_b22) nin0)).other W38 (Ne.symm ne_b1_b22))
    have f45 : n0 ≤ h38.size := (Nat.le_trans (Nat.le_trans f29 K28.1) (Keep.of_wr W38).1)
    obtain ⟨T40, h40, X40, e40, E40, A40, D40, -, st40⟩ := newO X38 hx hZ hown (hw _ (mw 3 rfl)) (hw _ (mw 4 rfl)) (hw _ (mw 5 rfl)) e38 (g := (mkF m 84 #[.val (.int u0), .val (.int u1), .val (.int u2), .val (.int u3), .val (.int (own_t3 tn)), .val (.int (own_l5 ln)), .val (.int cc), .val (.int cd), .val (.ref b1), .unset, .unset, .unset] [(.int (2 : Int32)), (.ref b1)])) rfl (hb hby at_84) (by decide) (by decide)
    obtain ⟨b40, g40⟩ : ∃ z, z = h38.size := ⟨_, rfl⟩
    rw [← g40] at A40 D40 st40
    have ne_b1_b40 : b1 ≠ b40 := Nat.ne_of_lt (Nat.lt_of_lt_of_le V38.lt (Nat.le_of_eq g40.symm))
    have ne_b2_b40 : b2 ≠ b40 := Nat.ne_of_lt (Nat.lt_of_lt_of_le f41.lt (Nat.le_of_eq g40.symm))
    have ne_b4_b40 : b4 ≠ b40 := Nat.ne_of_lt (Nat.lt_of_lt_of_le f42.lt (Nat.le_of_eq g40.symm))
    have ne_b18_b40 : b18 ≠ b40 := Nat.ne_of_lt (Nat.lt_of_lt_of_le f43.lt (Nat.le_of_eq g40.symm))
    have ne_b22_b40 : b22 ≠ b40 := Nat.ne_of_lt (Nat.lt_of_lt_of_le f44.lt (Nat.le_of_eq g40.symm))
    have g_b40 : n0 ≤ b40 := Nat.le_trans f45 (Nat.le_of_eq g40.symm)
    have F_coder_b40 : Fld Z h40 b40 "java/lang/String" "coder" "B" (.int (0 : Int32)) := D40 (Or.inr (hw _ (mw 30 rfl))) (ty := .byte) (by decide)
    have F_value_b40 : Fld Z h40 b40 "java/lang/String" "value" "[B" .null := D40 (Or.inr (hw _ (mw 32 rfl))) (ty := (.array .byte)) (by decide)
    refine Goal.to (B := T40.setTop (mkF m 87 #[.val (.int u0), .val (.int u1), .val (.int u2), .val (.int u3), .val (.int (own_t3 tn)), .val (.int (own_l5 ln)), .val (.int cc), .val (.int cd), .val (.ref b1), .unset, .unset, .unset] [(.ref b40), (.int (2 : Int32)), (.ref b1)])) st40 ?_
    refine Goal.to (B := T40.setTop (mkF m 89 #[.val (.int u0), .val (.int u1), .val (.int u2), .val (.int u3), .val (.int (own_t3 tn)), .val (.int (own_l5 ln)), .val (.int cc), .val (.int cd), .val (.ref b1), .unset, .unset, .unset] [(.int (1 : Int32)), (.ref b40), (.ref b40), (.int (2 : Int32)), (.ref b1)])) (fun tt kk => ?_) ?_
    · show Steps p.tables e below (T40.setTop (mkF m 87 #[.val (.int u0), .val (.int u1), .val (.int u2), .val (.int u3), .val (.int (own_t3 tn)), .val (.int (own_l5 ln)), .val (.int cc), .val (.int cd), .val (.ref b1), .unset, .unset, .unset] [(.ref b40), (.int (2 : Int32)), (.ref b1)])) tt
      refine XS.dup X40.here hx rfl (hb hby at_87) rfl rfl ?_
      show Steps p.tables e below (T40.setTop (mkF m 88 #[.val (.int u0), .val (.int u1), .val (.int u2), .val (.int u3), .val (.int (own_t3 tn)), .val (.int (own_l5 ln)), .val (.int cc), .val (.int cd), .val (.ref b1), .unset, .unset, .unset] [(.ref b40), (.ref b40), (.int (2 : Int32)), (.ref b1)])) tt
      refine XS.iconst X40.here hx rfl (hb hby at_88) ?_
      exact kk
    have f47 : Ary Z h40 b1 (.object "java/lang/Object") [(.ref b2), (.ref b18), .null, .null] := (V38.ext E40)
    have f48 : Exa Z h40 b2 "java/lang/String" := (f41.ext E40)
    have f49 : Ary Z h40 b4 .char [(.int (nar .char cc))] := (f42.ext E40)
    have f50 : Exa Z h40 b18 "java/lang/String" := (f43.ext E40)
    have f51 : Ary Z h40 b22 .char [(.int (nar .char cc))] := (f44.ext E40)
    have f52 : n0 ≤ h40.size := (Nat.le_trans f45 E40.1)
    obtain ⟨T46, h46, k46, X46, e46, E46, A46, st46⟩ := newP X40 hx hZ (hw _ (mw 6 rfl)) e40 (g := (mkF m 89 #[.val (.int u0), .val (.int u1), .val (.int u2), .val (.int u3), .val (.int (own_t3 tn)), .val (.int (own_l5 ln)), .val (.int cc), .val (.int cd), .val (.ref b1), .unset, .unset, .unset] [(.int (1 : Int32)), (.ref b40), (.ref b40), (.int (2 : Int32)), (.ref b1)])) rfl (hb hby at_89) rfl (by decide) (cap := 1) (by decide) (by decide) (by decide) (by decide)
    obtain ⟨b46, g46⟩ : ∃ z, z = h40.size := ⟨_, rfl⟩
    rw [← g46] at A46 st46
    have ne_b1_b46 : b1 ≠ b46 := Nat.ne_of_lt (Nat.lt_of_lt_of_le f47.lt (Nat.le_of_eq g46.symm))
    have ne_b2_b46 : b2 ≠ b46 := Nat.ne_of_lt (Nat.lt_of_lt_of_le f48.lt (Nat.le_of_eq g46.symm))
    have ne_b4_b46 : b4 ≠ b46 := Nat.ne_of_lt (Nat.lt_of_lt_of_le f49.lt (Nat.le_of_eq g46.symm))
    have ne_b18_b46 : b18 ≠ b46 := Nat.ne_of_lt (Nat.lt_of_lt_of_le f50.lt (Nat.le_of_eq g46.symm))
    have ne_b22_b46 : b22 ≠ b46 := Nat.ne_of_lt (Nat.lt_of_lt_of_le f51.lt (Nat.le_of_eq g46.symm))
    have ne_b40_b46 : b40 ≠ b46 := Nat.ne_of_lt (Nat.lt_of_lt_of_le A40.lt (Nat.le_of_eq g46.symm))
    have g_b46 : n0 ≤ b46 := Nat.le_trans f52 (Nat.le_of_eq g46.symm)
    have V46 : Ary Z h46 b46 .char [(.int (0 : Int32))] := Ary.new A46 rfl
    refine Goal.to (B := T46.setTop (mkF m 91 #[.val (.int u0), .val (.int u1), .val (.int u2), .val (.int u3), .val (.int (own_t3 tn)), .val (.int (own_l5 ln)), .val (.int cc), .val (.int cd), .val (.ref b1), .unset, .unset, .unset] [(.ref b46), (.ref b40), (.ref b40), (.int (2 : Int32)), (.ref b1)])) st46 ?_
    refine Goal.to (B := T46.setTop (mkF m 95 #[.val (.int u0), .val (.int u1), .val (.int u2), .val (.int u3), .val (.int (own_t3 tn)), .val (.int (own_l5 ln)), .val (.int cc), .val (.int cd), .val (.ref b1), .unset, .unset, .unset] [(.int cc), (.int (0 : Int32)), (.ref b46), (.ref b46), (.ref b40), (.ref b40), (.int (2 : Int32)), (.ref b1)])) (fun tt kk => ?_) ?_
    · show Steps p.tables e below (T46.setTop (mkF m 91 #[.val (.int u0), .val (.int u1), .val (.int u2), .val (.int u3), .val (.int (own_t3 tn)), .val (.int (own_l5 ln)), .val (.int cc), .val (.int cd), .val (.ref b1), .unset, .unset, .unset] [(.ref b46), (.ref b40), (.ref b40), (.int (2 : Int32)), (.ref b1)])) tt
      refine XS.dup X46.here hx rfl (hb hby at_91) rfl rfl ?_
      show Steps p.tables e below (T46.setTop (mkF m 92 #[.val (.int u0), .val (.int u1), .val (.int u2), .val (.int u3), .val (.int (own_t3 tn)), .val (.int (own_l5 ln)), .val (.int cc), .val (.int cd), .val (.ref b1), .unset, .unset, .unset] [(.ref b46), (.ref b46), (.ref b40), (.ref b40), (.int (2 : Int32)), (.ref b1)])) tt
      refine XS.iconst X46.here hx rfl (hb hby at_92) ?_
      show Steps p.tables e below (T46.setTop (mkF m 93 #[.val (.int u0), .val (.int u1), .val (.int u2), .val (.int u3), .val (.int (own_t3 tn)), .val (.int (own_l5 ln)), .val (.int cc), .val (.int cd), .val (.ref b1), .unset, .unset, .unset] [(.int (0 : Int32)), (.ref b46), (.ref b46), (.ref b40), (.ref b40), (.int (2 : Int32)), (.ref b1)])) tt
      refine XS.iload X46.here hx rfl (hb hby at_93) rfl ?_
      exact kk
    obtain ⟨cl53, Ar53, Sl53⟩ := id V46
    have hin53 := inA (cl := cl53) Sl53 (j := (0 : Int32)) (by decide) (Nat.le_of_ble_eq_true rfl)
    obtain ⟨T53, h53, X53, e53, W53, st53⟩ := stC X46 hx hZ e46 Ar53 (j := (0 : Int32)) hin53 (g := (mkF m 95 #[.val (.int u0), .val (.int u1), .val (.int u2), .val (.int u3), .val (.int (own_t3 tn)), .val (.int (own_l5 ln)), .val (.int cc), .val (.int cd), .val (.ref b1), .unset, .unset, .unset] [(.int cc), (.int (0 : Int32)), (.ref b46), (.ref b46), (.ref b40), (.ref b40), (.int (2 : Int32)), (.ref b1)])) rfl rfl (hb hby at_95)
    have V53 : Ary Z h53 b46 .char [(.int (nar .char cc))] := Ary.put Ar53 Sl53 W53 rfl
    have N53 := Fr.snoc X53 N38 g_b46
    refine Goal.to (B := T53.setTop (mkF m 96 #[.val (.int u0), .val (.int u1), .val (.int u2), .val (.int u3), .val (.int (own_t3 tn)), .val (.int (own_l5 ln)), .val (.int cc), .val (.int cd), .val (.ref b1), .unset, .unset, .unset] [(.ref b46), (.ref b40), (.ref b40), (.int (2 : Int32)), (.ref b1)])) st53 ?_
    have f55 : n0 ≤ h53.size := (Nat.le_trans (Nat.le_trans f52 E46.1) (Keep.of_wr W53).1)
    have f56 : Exa Z h53 b40 "java/lang/String" := ((A40.ext E46).wr W53)
    have f57 : Fld Z h53 b40 "java/lang/String" "value" "[B" .null := ((F_value_b40.ext E46).other W53 (Or.inl ne_b40_b46))
    have f58 : Fld Z h53 b40 "java/lang/String" "coder" "B" (.int (0 : Int32)) := ((F_coder_b40.ext E46).other W53 (Or.inl ne_b40_b46))
    have f59 : StaN Z n0 h53 "java/lang/String" "COMPACT_STRINGS" "Z" (.int zc) := (((((f33.keep K28 (allS g_b18 all0)).wr W38).ext E40).ext E46).wr W53)
    have f60 : Ary Z h53 b1 (.object "java/lang/Object") [(.ref b2), (.ref b18), .null, .null] := ((f47.ext E46).other W53 ne_b1_b46)
    have f61 : Exa Z h53 b2 "java/lang/String" := ((f48.ext E46).wr W53)
    have f62 : Ary Z h53 b4 .char [(.int (nar .char cc))] := ((f49.ext E46).other W53 ne_b4_b46)
    have f63 : Exa Z h53 b18 "java/lang/String" := ((f50.ext E46).wr W53)
    have f64 : Ary Z h53 b22 .char [(.int (nar .char cc))] := ((f51.ext E46).other W53 ne_b22_b46)
    obtain ⟨kc54, Vc54⟩ := Ary.arv (dv := (.int (0 : Int32))) (z := (1 : Int32)) V53 rfl (by decide) (fits_cons (fits_nar_char _) fits_nil)
    have hp54 : ∀ c ∈ [(nar .char cc)], ¬ c < 0 ∧ ¬ (255 : Int32) < c := by
      intro c hc
      simp only [List.mem_cons, List.not_mem_nil, or_false] at hc
      rcases hc with rfl
      · exact own_lat _ hcc
    obtain ⟨_, _, ⟨T54, L54, k54, n54⟩, -, X54, ⟨Lc54, hQ54, l54, y54, z54⟩, st54⟩ := X53.specialBack hx (y := (⟨"java/lang/String", "<init>", "([C)V"⟩ : MethodName)) rfl hown (mvT hZ (hw _ (mw 7 rfl))) (mvT hZ (hw _ (mw 8 rfl))) (mvT hZ (hw _ (mw 9 rfl))) (by decide) (StrChars.Road.backV (W := 3) hZ hws (kI := 4) (hw _ (mw 4 rfl)) (cs := [(nar .char cc)]) (bs := [((nar .char cc)).toInt8.toInt32]) (n := 1) g_b40 f55 f56 f57 f58 Vc54 f59.sta hCS rfl rfl (by decide) (by decide) hp54 rfl (by decide) (by decide)) (g := (mkF m 96 #[.val (.int u0), .val (.int u1), .val (.int u2), .val (.int u3), .val (.int (own_t3 tn)), .val (.int (own_l5 ln)), .val (.int cc), .val (.int cd), .val (.ref b1), .unset, .unset, .unset] [(.ref b46), (.ref b40), (.ref b40), (.int (2 : Int32)), (.ref b1)])) rfl (by rw [hml]; rfl) (Steps.refl _) (a := b40) (argsL := [(.ref b46)]) (rest := [(.ref b40), (.int (2 : Int32)), (.ref b1)]) (lenOf pd_0 rfl) rfl (by show 2 * 0 + _ ≤ _; exact Nat.le_of_eq rfl) (hb hby at_96) (fun _ _ => ⟨rfl, e53, (by decide : 9 + 1 ≤ _), (by decide : 21 + 1 ≤ _)⟩)
    dsimp only [Pt.U, Pt.locs, Pt.cells, Pt.slots] at X54 l54 y54 z54 st54 hQ54
    subst y54 z54
    obtain ⟨rfl, N54q, K54, P54_0, P54_1, t54, kb54, gt54, sz54, nt54, P54_2, P54_3⟩ := hQ54
    have N54 := Fr.eqv l54 (Fr.app N53 N54q)
    refine Goal.tr (B := T54.setTop (mkF m 99 #[.val (.int u0), .val (.int u1), .val (.int u2), .val (.int u3), .val (.int (own_t3 tn)), .val (.int (own_l5 ln)), .val (.int cc), .val (.int cd), .val (.ref b1), .unset, .unset, .unset] [(.ref b40), (.int (2 : Int32)), (.ref b1)])) st54 ?_
    have f65 : Ary Z T54.heap b1 (.object "java/lang/Object") [(.ref b2), (.ref b18), .null, .null] := (f60.keep K54 (ninS ne_b1_b40 nin0))
    obtain ⟨cl66, Ar66, Sl66⟩ := id f65
    have hin66 := inA (cl := cl66) Sl66 (j := (2 : Int32)) (by decide) (Nat.le_of_ble_eq_true rfl)
    have f67 : OvrO Z T54.heap b1 "java/lang/Object" := (((((f39.wr W38).ext E40).ext E46).wr W53).keep K54)
    obtain ⟨T66, h66, X66, e66, W66, st66⟩ := stR X54 hx hZ rfl Ar66 (j := (2 : Int32)) hin66 rfl (stoO Ar66 f67 (Ins.of_exa P54_0 (hw _ (mw 33 rfl)))) (g := (mkF m 99 #[.val (.int u0), .val (.int u1), .val (.int u2), .val (.int u3), .val (.int (own_t3 tn)), .val (.int (own_l5 ln)), .val (.int cc), .val (.int cd), .val (.ref b1), .unset, .unset, .unset] [(.ref b40), (.int (2 : Int32)), (.ref b1)])) rfl rfl (hb hby at_99)
    have V66 : Ary Z h66 b1 (.object "java/lang/Object") [(.ref b2), (.ref b18), (.ref b40), .null] := Ary.put Ar66 Sl66 W66 rfl
    have N66 := Fr.snoc X66 N54 g_b1
    refine Goal.to (B := T66.setTop (mkF m 100 #[.val (.int u0), .val (.int u1), .val (.int u2), .val (.int u3), .val (.int (own_t3 tn)), .val (.int (own_l5 ln)), .val (.int cc), .val (.int cd), .val (.ref b1), .unset, .unset, .unset] [])) st66 ?_
    refine Goal.to (B := T66.setTop (mkF m 103 #[.val (.int u0), .val (.int u1), .val (.int u2), .val (.int u3), .val (.int (own_t3 tn)), .val (.int (own_l5 ln)), .val (.int cc), .val (.int cd), .val (.ref b1), .unset, .unset, .unset] [(.int (3 : Int32)), (.ref b1)])) (fun tt kk => ?_) ?_
    · show Steps p.tables e below (T66.setTop (mkF m 100 #[.val (.int u0), .val (.int u1), .val (.int u2), .val (.int u3), .val (.int (own_t3 tn)), .val (.int (own_l5 ln)), .val (.int cc), .val (.int cd), .val (.ref b1), .unset, .unset, .unset] [])) tt
      refine XS.aload X66.here hx rfl (hb hby at_100) rfl rfl ?_
      show Steps p.tables e below (T66.setTop (mkF m 102 #[.val (.int u0), .val (.int u1), .val (.int u2), .val (.int u3), .val (.int (own_t3 tn)), .val (.int (own_l5 ln)), .val (.int cc), .val (.int cd), .val (.ref b1), .unset, .unset, .unset] [(.ref b1)])) tt
      refine XS.iconst X66.here hx rfl (hb hby at_102) ?_
      exact kk
    have f69 : Exa Z h66 b2 "java/lang/String" := ((f61.keep K54).wr W66)
    have f70 : Ary Z h66 b4 .char [(.int (nar .char cc))] := ((f62.keep K54 (ninS ne_b4_b40 nin0)).other W66 (Ne.symm ne_b1_b4))
    have f71 : Exa Z h66 b18 "java/lang/String" := ((f63.keep K54).wr W66)
    have f72 : Ary Z h66 b22 .char [(.int (nar .char cc))] := ((f64.keep K54 (ninS ne_b22_b40 nin0)).other W66 (Ne.symm ne_b1_b22))
    have f73 : Exa Z h66 b40 "java/lang/String" := (P54_0.wr W66)
    have f74 : Ary Z h66 b46 .char [(.int (nar .char cc))] := ((V53.keep K54 (ninS (Ne.symm ne_b40_b46) nin0)).other W66 (Ne.symm ne_b1_b46))
    have f75 : n0 ≤ h66.size := (Nat.le_trans (Nat.le_trans f55 K54.1) (Keep.of_wr W66).1)
    obtain ⟨T68, h68, X68, e68, E68, A68, D68, -, st68⟩ := newO X66 hx hZ hown (hw _ (mw 3 rfl)) (hw _ (mw 4 rfl)) (hw _ (mw 5 rfl)) e66 (g := (mkF m 103 #[.val (.int u0), .val (.int u1), .val (.int u2), .val (.int u3), .val (.int (own_t3 tn)), .val (.int (own_l5 ln)), .val (.int cc), .val (.int cd), .val (.ref b1), .unset, .unset, .unset] [(.int (3 : Int32)), (.ref b1)])) rfl (hb hby at_103) (by decide) (by decide)
    obtain ⟨b68, g68⟩ : ∃ z, z = h66.size := ⟨_, rfl⟩
    rw [← g68] at A68 D68 st68
    have ne_b1_b68 : b1 ≠ b68 := Nat.ne_of_lt (Nat.lt_of_lt_of_le V66.lt (Nat.le_of_eq g68.symm))
    have ne_b2_b68 : b2 ≠ b68 := Nat.ne_of_lt (Nat.lt_of_lt_of_le f69.lt (Nat.le_of_eq g68.symm))
    have ne_b4_b68 : b4 ≠ b68 := Nat.ne_of_lt (Nat.lt_of_lt_of_le f70.lt (Nat.le_of_eq g68.symm))
    have ne_b18_b68 : b18 ≠ b68 := Nat.ne_of_lt (Nat.lt_of_lt_of_le f71.lt (Nat.le_of_eq g68.symm))
    have ne_b22_b68 : b22 ≠ b68 := Nat.ne_of_lt (Nat.lt_of_lt_of_le f72.lt (Nat.le_of_eq g68.symm))
    have ne_b40_b68 : b40 ≠ b68 := Nat.ne_of_lt (Nat.lt_of_lt_of_le f73.lt (Nat.le_of_eq g68.symm))
    have ne_b46_b68 : b46 ≠ b68 := Nat.ne_of_lt (Nat.lt_of_lt_of_le f74.lt (Nat.le_of_eq g68.symm))
    have g_b68 : n0 ≤ b68 := Nat.le_trans f75 (Nat.le_of_eq g68.symm)
    have F_coder_b68 : Fld Z h68 b68 "java/lang/String" "coder" "B" (.int (0 : Int32)) := D68 (Or.inr (hw _ (mw 30 rfl))) (ty := .byte) (by decide)
    have F_value_b68 : Fld Z h68 b68 "java/lang/String" "value" "[B" .null := D68 (Or.inr (hw _ (mw 32 rfl))) (ty := (.array .byte)) (by decide)
    refine Goal.to (B := T68.setTop (mkF m 106 #[.val (.int u0), .val (.int u1), .val (.int u2), .val (.int u3), .val (.int (own_t3 tn)), .val (.int (own_l5 ln)), .val (.int cc), .val (.int cd), .val (.ref b1), .unset, .unset, .unset] [(.ref b68), (.int (3 : Int32)), (.ref b1)])) st68 ?_
    refine Goal.to (B := T68.setTop (mkF m 108 #[.val (.int u0), .val (.int u1), .val (.int u2), .val (.int u3), .val (.int (own_t3 tn)), .val (.int (own_l5 ln)), .val (.int cc), .val (.int cd), .val (.ref b1), .unset, .unset, .unset] [(.int (1 : Int32)), (.ref b68), (.ref b68), (.int (3 : Int32)), (.ref b1)])) (fun tt kk => ?_) ?_
    · show Steps p.tables e below (T68.setTop (mkF m 106 #[.val (.int u0), .val (.int u1), .val (.int u2), .val (.int u3), .val (.int (own_t3 tn)), .val (.int (own_l5 ln)), .val (.int cc), .val (.int cd), .val (.ref b1), .unset, .unset, .unset] [(.ref b68), (.int (3 : Int32)), (.ref b1)])) tt
      refine XS.dup X68.here hx rfl (hb hby at_106) rfl rfl ?_
      show Steps p.tables e below (T68.setTop (mkF m 107 #[.val (.int u0), .val (.int u1), .val (.int u2), .val (.int u3), .val (.int (own_t3 tn)), .val (.int (own_l5 ln)), .val (.int cc), .val (.int cd), .val (.ref b1), .unset, .unset, .unset] [(.ref b68), (.ref b68), (.int (3 : Int32)), (.ref b1)])) tt
      refine XS.iconst X68.here hx rfl (hb hby at_107) ?_
      exact kk
    have f77 : Ary Z h68 b1 (.object "java/lang/Object") [(.ref b2), (.ref b18), (.ref b40), .null] := (V66.ext E68)
    have f78 : Exa Z h68 b2 "java/lang/String" := (f69.ext E68)
    have f79 : Ary Z h68 b4 .char [(.int (nar .char cc))] := (f70.ext E68)
    have f80 : Exa Z h68 b18 "java/lang/String" := (f71.ext E68)
    have f81 : Ary Z h68 b22 .char [(.int (nar .char cc))] := (f72.ext E68)
    have f82 : Exa Z h68 b40 "java/lang/String" := (f73.ext E68)
    have f83 : Ary Z h68 b46 .char [(.int (nar .char cc))] := (f74.ext E68)
    have f84 : n0 ≤ h68.size := (Nat.le_trans f75 E68.1)
    obtain ⟨T76, h76, k76, X76, e76, E76, A76, st76⟩ := newP X68 hx hZ (hw _ (mw 6 rfl)) e68 (g := (mkF m 108 #[.val (.int u0), .val (.int u1), .val (.int u2), .val (.int u3), .val (.int (own_t3 tn)), .val (.int (own_l5 ln)), .val (.int cc), .val (.int cd), .val (.ref b1), .unset, .unset, .unset] [(.int (1 : Int32)), (.ref b68), (.ref b68), (.int (3 : Int32)), (.ref b1)])) rfl (hb hby at_108) rfl (by decide) (cap := 1) (by decide) (by decide) (by decide) (by decide)
    obtain ⟨b76, g76⟩ : ∃ z, z = h68.size := ⟨_, rfl⟩
    rw [← g76] at A76 st76
    have ne_b1_b76 : b1 ≠ b76 := Nat.ne_of_lt (Nat.lt_of_lt_of_le f77.lt (Nat.le_of_eq g76.symm))
    have ne_b2_b76 : b2 ≠ b76 := Nat.ne_of_lt (Nat.lt_of_lt_of_le f78.lt (Nat.le_of_eq g76.symm))
    have ne_b4_b76 : b4 ≠ b76 := Nat.ne_of_lt (Nat.lt_of_lt_of_le f79.lt (Nat.le_of_eq g76.symm))
    have ne_b18_b76 : b18 ≠ b76 := Nat.ne_of_lt (Nat.lt_of_lt_of_le f80.lt (Nat.le_of_eq g76.symm))
    have ne_b22_b76 : b22 ≠ b76 := Nat.ne_of_lt (Nat.lt_of_lt_of_le f81.lt (Nat.le_of_eq g76.symm))
    have ne_b40_b76 : b40 ≠ b76 := Nat.ne_of_lt (Nat.lt_of_lt_of_le f82.lt (Nat.le_of_eq g76.symm))
    have ne_b46_b76 : b46 ≠ b76 := Nat.ne_of_lt (Nat.lt_of_lt_of_le f83.lt (Nat.le_of_eq g76.symm))
    have ne_b68_b76 : b68 ≠ b76 := Nat.ne_of_lt (Nat.lt_of_lt_of_le A68.lt (Nat.le_of_eq g76.symm))
    have g_b76 : n0 ≤ b76 := Nat.le_trans f84 (Nat.le_of_eq g76.symm)
    have V76 : Ary Z h76 b76 .char [(.int (0 : Int32))] := Ary.new A76 rfl
    refine Goal.to (B := T76.setTop (mkF m 110 #[.val (.int u0), .val (.int u1), .val (.int u2), .val (.int u3), .val (.int (own_t3 tn)), .val (.int (own_l5 ln)), .val (.int cc), .val (.int cd), .val (.ref b1), .unset, .unset, .unset] [(.ref b76), (.ref b68), (.ref b68), (.int (3 : Int32)), (.ref b1)])) st76 ?_
    refine Goal.to (B := T76.setTop (mkF m 114 #[.val (.int u0), .val (.int u1), .val (.int u2), .val (.int u3), .val (.int (own_t3 tn)), .val (.int (own_l5 ln)), .val (.int cc), .val (.int cd), .val (.ref b1), .unset, .unset, .unset] [(.int cc), (.int (0 : Int32)), (.ref b76), (.ref b76), (.ref b68), (.ref b68), (.int (3 : Int32)), (.ref b1)])) (fun tt kk => ?_) ?_
    · show Steps p.tables e below (T76.setTop (mkF m 110 #[.val (.int u0), .val (.int u1), .val (.int u2), .val (.int u3), .val (.int (own_t3 tn)), .val (.int (own_l5 ln)), .val (.int cc), .val (.int cd), .val (.ref b1), .unset, .unset, .unset] [(.ref b76), (.ref b68), (.ref b68), (.int (3 : Int32)), (.ref b1)])) tt
      refine XS.dup X76.here hx rfl (hb hby at_110) rfl rfl ?_
      show Steps p.tables e below (T76.setTop (mkF m 111 #[.val (.int u0), .val (.int u1), .val (.int u2), .val (.int u3), .val (.int (own_t3 tn)), .val (.int (own_l5 ln)), .val (.int cc), .val (.int cd), .val (.ref b1), .unset, .unset, .unset] [(.ref b76), (.ref b76), (.ref b68), (.ref b68), (.int (3 : Int32)), (.ref b1)])) tt
      refine XS.iconst X76.here hx rfl (hb hby at_111) ?_
      show Steps p.tables e below (T76.setTop (mkF m 112 #[.val (.int u0), .val (.int u1), .val (.int u2), .val (.int u3), .val (.int (own_t3 tn)), .val (.int (own_l5 ln)), .val (.int cc), .val (.int cd), .val (.ref b1), .unset, .unset, .unset] [(.int (0 : Int32)), (.ref b76), (.ref b76), (.ref b68), (.ref b68), (.int (3 : Int32)), (.ref b1)])) tt
      refine XS.iload X76.here hx rfl (hb hby at_112) rfl ?_
      exact kk
    obtain ⟨cl85, Ar85, Sl85⟩ := id V76
    have hin85 := inA (cl := cl85) Sl85 (j := (0 : Int32)) (by decide) (Nat.le_of_ble_eq_true rfl)
    obtain ⟨T85, h85, X85, e85, W85, st85⟩ := stC X76 hx hZ e76 Ar85 (j := (0 : Int32)) hin85 (g := (mkF m 114 #[.val (.int u0), .val (.int u1), .val (.int u2), .val (.int u3), .val (.int (own_t3 tn)), .val (.int (own_l5 ln)), .val (.int cc), .val (.int cd), .val (.ref b1), .unset, .unset, .unset] [(.int cc), (.int (0 : Int32)), (.ref b76), (.ref b76), (.ref b68), (.ref b68), (.int (3 : Int32)), (.ref b1)])) rfl rfl (hb hby at_114)
    have V85 : Ary Z h85 b76 .char [(.int (nar .char cc))] := Ary.put Ar85 Sl85 W85 rfl
    have N85 := Fr.snoc X85 N66 g_b76
    refine Goal.to (B := T85.setTop (mkF m 115 #[.val (.int u0), .val (.int u1), .val (.int u2), .val (.int u3), .val (.int (own_t3 tn)), .val (.int (own_l5 ln)), .val (.int cc), .val (.int cd), .val (.ref b1), .unset, .unset, .unset] [(.ref b76), (.ref b68), (.ref b68), (.int (3 : Int32)), (.ref b1)])) st85 ?_
    have f87 : n0 ≤ h85.size := (Nat.le_trans (Nat.le_trans f84 E76.1) (Keep.of_wr W85).1)
    have f88 : Exa Z h85 b68 "java/lang/String" := ((A68.ext E76).wr W85)
    have f89 : Fld Z h85 b68 "java/lang/String" "value" "[B" .null := ((F_value_b68.ext E76).other W85 (Or.inl ne_b68_b76))
    have f90 : Fld Z h85 b68 "java/lang/String" "coder" "B" (.int (0 : Int32)) := ((F_coder_b68.ext E76).other W85 (Or.inl ne_b68_b76))
    have f91 : StaN Z n0 h85 "java/lang/String" "COMPACT_STRINGS" "Z" (.int zc) := (((((f59.keep K54 (allS g_b40 all0)).wr W66).ext E68).ext E76).wr W85)
    have f92 : Ary Z h85 b1 (.object "java/lang/Object") [(.ref b2), (.ref b18), (.ref b40), .null] := ((f77.ext E76).other W85 ne_b1_b76)
    have f93 : Exa Z h85 b2 "java/lang/String" := ((f78.ext E76).wr W85)
    have f94 : Ary Z h85 b4 .char [(.int (nar .char cc))] := ((f79.ext E76).other W85 ne_b4_b76)
    have f95 : Exa Z h85 b18 "java/lang/String" := ((f80.ext E76).wr W85)
    have f96 : Ary Z h85 b22 .char [(.int (nar .char cc))] := ((f81.ext E76).other W85 ne_b22_b76)
    have f97 : Exa Z h85 b40 "java/lang/String" := ((f82.ext E76).wr W85)
    have f98 : Ary Z h85 b46 .char [(.int (nar .char cc))] := ((f83.ext E76).other W85 ne_b46_b76)
    obtain ⟨kc86, Vc86⟩ := Ary.arv (dv := (.int (0 : Int32))) (z := (1 : Int32)) V85 rfl (by decide) (fits_cons (fits_nar_char _) fits_nil)
    have hp86 : ∀ c ∈ [(nar .char cc)], ¬ c < 0 ∧ ¬ (255 : Int32) < c := by
      intro c hc
      simp only [List.mem_cons, List.not_mem_nil, or_false] at hc
      rcases hc with rfl
      · exact own_lat _ hcc
    obtain ⟨_, _, ⟨T86, L86, k86, n86⟩, -, X86, ⟨Lc86, hQ86, l86, y86, z86⟩, st86⟩ := X85.specialBack hx (y := (⟨"java/lang/String", "<init>", "([C)V"⟩ : MethodName)) rfl hown (mvT hZ (hw _ (mw 7 rfl))) (mvT hZ (hw _ (mw 8 rfl))) (mvT hZ (hw _ (mw 9 rfl))) (by decide) (StrChars.Road.backV (W := 3) hZ hws (kI := 4) (hw _ (mw 4 rfl)) (cs := [(nar .char cc)]) (bs := [((nar .char cc)).toInt8.toInt32]) (n := 1) g_b68 f87 f88 f89 f90 Vc86 f91.sta hCS rfl rfl (by decide) (by decide) hp86 rfl (by decide) (by decide)) (g := (mkF m 115 #[.val (.int u0), .val (.int u1), .val (.int u2), .val (.int u3), .val (.int (own_t3 tn)), .val (.int (own_l5 ln)), .val (.int cc), .val (.int cd), .val (.ref b1), .unset, .unset, .unset] [(.ref b76), (.ref b68), (.ref b68), (.int (3 : Int32)), (.ref b1)])) rfl (by rw [hml]; rfl) (Steps.refl _) (a := b68) (argsL := [(.ref b76)]) (rest := [(.ref b68), (.int (3 : Int32)), (.ref b1)]) (lenOf pd_0 rfl) rfl (by show 2 * 0 + _ ≤ _; exact Nat.le_of_eq rfl) (hb hby at_115) (fun _ _ => ⟨rfl, e85, (by decide : 12 + 1 ≤ _), (by decide : 27 + 1 ≤ _)⟩)
    dsimp only [Pt.U, Pt.locs, Pt.cells, Pt.slots] at X86 l86 y86 z86 st86 hQ86
    subst y86 z86
    obtain ⟨rfl, N86q, K86, P86_0, P86_1, t86, kb86, gt86, sz86, nt86, P86_2, P86_3⟩ := hQ86
    have N86 := Fr.eqv l86 (Fr.app N85 N86q)
    refine Goal.tr (B := T86.setTop (mkF m 118 #[.val (.int u0), .val (.int u1), .val (.int u2), .val (.int u3), .val (.int (own_t3 tn)), .val (.int (own_l5 ln)), .val (.int cc), .val (.int cd), .val (.ref b1), .unset, .unset, .unset] [(.ref b68), (.int (3 : Int32)), (.ref b1)])) st86 ?_
    have f99 : Ary Z T86.heap b1 (.object "java/lang/Object") [(.ref b2), (.ref b18), (.ref b40), .null] := (f92.keep K86 (ninS ne_b1_b68 nin0))
    obtain ⟨cl100, Ar100, Sl100⟩ := id f99
    have hin100 := inA (cl := cl100) Sl100 (j := (3 : Int32)) (by decide) (Nat.le_of_ble_eq_true rfl)
    have f101 : OvrO Z T86.heap b1 "java/lang/Object" := (((((f67.wr W66).ext E68).ext E76).wr W85).keep K86)
    obtain ⟨T100, h100, X100, e100, W100, st100⟩ := stR X86 hx hZ rfl Ar100 (j := (3 : Int32)) hin100 rfl (stoO Ar100 f101 (Ins.of_exa P86_0 (hw _ (mw 33 rfl)))) (g := (mkF m 118 #[.val (.int u0), .val (.int u1), .val (.int u2), .val (.int u3), .val (.int (own_t3 tn)), .val (.int (own_l5 ln)), .val (.int cc), .val (.int cd), .val (.ref b1), .unset, .unset, .unset] [(.ref b68), (.int (3 : Int32)), (.ref b1)])) rfl rfl (hb hby at_118)
    have V100 : Ary Z h100 b1 (.object "java/lang/Object") [(.ref b2), (.ref b18), (.ref b40), (.ref b68)] := Ary.put Ar100 Sl100 W100 rfl
    have N100 := Fr.snoc X100 N86 g_b1
    refine Goal.to (B := T100.setTop (mkF m 119 #[.val (.int u0), .val (.int u1), .val (.int u2), .val (.int u3), .val (.int (own_t3 tn)), .val (.int (own_l5 ln)), .val (.int cc), .val (.int cd), .val (.ref b1), .unset, .unset, .unset] [])) st100 ?_
    refine Goal.to (B := T100.setTop (mkF m 120 #[.val (.int u0), .val (.int u1), .val (.int u2), .val (.int u3), .val (.int (own_t3 tn)), .val (.int (own_l5 ln)), .val (.int cc), .val (.int cd), .val (.ref b1), .unset, .unset, .unset] [(.int (2 : Int32))])) (fun tt kk => ?_) ?_
    · show Steps p.tables e below (T100.setTop (mkF m 119 #[.val (.int u0), .val (.int u1), .val (.int u2), .val (.int u3), .val (.int (own_t3 tn)), .val (.int (own_l5 ln)), .val (.int cc), .val (.int cd), .val (.ref b1), .unset, .unset, .unset] [])) tt
      refine XS.iconst X100.here hx rfl (hb hby at_119) ?_
      exact kk
    have f103 : Exa Z h100 b2 "java/lang/String" := ((f93.keep K86).wr W100)
    have f104 : Ary Z h100 b4 .char [(.int (nar .char cc))] := ((f94.keep K86 (ninS ne_b4_b68 nin0)).other W100 (Ne.symm ne_b1_b4))
    have f105 : Exa Z h100 b18 "java/lang/String" := ((f95.keep K86).wr W100)
    have f106 : Ary Z h100 b22 .char [(.int (nar .char cc))] := ((f96.keep K86 (ninS ne_b22_b68 nin0)).other W100 (Ne.symm ne_b1_b22))
    have f107 : Exa Z h100 b40 "java/lang/String" := ((f97.keep K86).wr W100)
    have f108 : Ary Z h100 b46 .char [(.int (nar .char cc))] := ((f98.keep K86 (ninS ne_b46_b68 nin0)).other W100 (Ne.symm ne_b1_b46))
    have f109 : Exa Z h100 b68 "java/lang/String" := (P86_0.wr W100)
    have f110 : Ary Z h100 b76 .char [(.int (nar .char cc))] := ((V85.keep K86 (ninS (Ne.symm ne_b68_b76) nin0)).other W100 (Ne.symm ne_b1_b76))
    have f111 : n0 ≤ h100.size := (Nat.le_trans (Nat.le_trans f87 K86.1) (Keep.of_wr W100).1)
    obtain ⟨T102, h102, k102, X102, e102, E102, A102, O102, st102⟩ := newR X100 hx hZ hown (hw _ (mw 1 rfl)) (hw _ (mw 2 rfl)) e100 (g := (mkF m 120 #[.val (.int u0), .val (.int u1), .val (.int u2), .val (.int u3), .val (.int (own_t3 tn)), .val (.int (own_l5 ln)), .val (.int cc), .val (.int cd), .val (.ref b1), .unset, .unset, .unset] [(.int (2 : Int32))])) rfl (hb hby at_120) rfl (by decide) (cap := 2) (by decide) (by decide) (by decide) (by decide)
    obtain ⟨b102, g102⟩ : ∃ z, z = h100.size := ⟨_, rfl⟩
    rw [← g102] at A102 st102
    have ne_b1_b102 : b1 ≠ b102 := Nat.ne_of_lt (Nat.lt_of_lt_of_le V100.lt (Nat.le_of_eq g102.symm))
    have ne_b2_b102 : b2 ≠ b102 := Nat.ne_of_lt (Nat.lt_of_lt_of_le f103.lt (Nat.le_of_eq g102.symm))
    have ne_b4_b102 : b4 ≠ b102 := Nat.ne_of_lt (Nat.lt_of_lt_of_le f104.lt (Nat.le_of_eq g102.symm))
    have ne_b18_b102 : b18 ≠ b102 := Nat.ne_of_lt (Nat.lt_of_lt_of_le f105.lt (Nat.le_of_eq g102.symm))
    have ne_b22_b102 : b22 ≠ b102 := Nat.ne_of_lt (Nat.lt_of_lt_of_le f106.lt (Nat.le_of_eq g102.symm))
    have ne_b40_b102 : b40 ≠ b102 := Nat.ne_of_lt (Nat.lt_of_lt_of_le f107.lt (Nat.le_of_eq g102.symm))
    have ne_b46_b102 : b46 ≠ b102 := Nat.ne_of_lt (Nat.lt_of_lt_of_le f108.lt (Nat.le_of_eq g102.symm))
    have ne_b68_b102 : b68 ≠ b102 := Nat.ne_of_lt (Nat.lt_of_lt_of_le f109.lt (Nat.le_of_eq g102.symm))
    have ne_b76_b102 : b76 ≠ b102 := Nat.ne_of_lt (Nat.lt_of_lt_of_le f110.lt (Nat.le_of_eq g102.symm))
    have g_b102 : n0 ≤ b102 := Nat.le_trans f111 (Nat.le_of_eq g102.symm)
    have Ov102 : OvrO Z h102 b102 "java/lang/Object" := ⟨_, A102.1, O102⟩
    have V102 : Ary Z h102 b102 (.object "java/lang/Object") [.null, .null] := Ary.new A102 rfl
    refine Goal.to (B := T102.setTop (mkF m 123 #[.val (.int u0), .val (.int u1), .val (.int u2), .val (.int u3), .val (.int (own_t3 tn)), .val (.int (own_l5 ln)), .val (.int cc), .val (.int cd), .val (.ref b1), .unset, .unset, .unset] [(.ref b102)])) st102 ?_
    refine Goal.to (B := T102.setTop (mkF m 131 #[.val (.int u0), .val (.int u1), .val (.int u2), .val (.int u3), .val (.int (own_t3 tn)), .val (.int (own_l5 ln)), .val (.int cc), .val (.int cd), .val (.ref b1), .val (.ref b102), .unset, .unset] [(.int (u3 &&& (1 : Int32))), (.int (0 : Int32)), (.ref b102)])) (fun tt kk => ?_) ?_
    · show Steps p.tables e below (T102.setTop (mkF m 123 #[.val (.int u0), .val (.int u1), .val (.int u2), .val (.int u3), .val (.int (own_t3 tn)), .val (.int (own_l5 ln)), .val (.int cc), .val (.int cd), .val (.ref b1), .unset, .unset, .unset] [(.ref b102)])) tt
      refine XS.astore X102.here hx rfl (hb hby at_123) rfl rfl (l' := #[.val (.int u0), .val (.int u1), .val (.int u2), .val (.int u3), .val (.int (own_t3 tn)), .val (.int (own_l5 ln)), .val (.int cc), .val (.int cd), .val (.ref b1), .val (.ref b102), .unset, .unset]) rfl ?_
      show Steps p.tables e below (T102.setTop (mkF m 125 #[.val (.int u0), .val (.int u1), .val (.int u2), .val (.int u3), .val (.int (own_t3 tn)), .val (.int (own_l5 ln)), .val (.int cc), .val (.int cd), .val (.ref b1), .val (.ref b102), .unset, .unset] [])) tt
      refine XS.aload X102.here hx rfl (hb hby at_125) rfl rfl ?_
      show Steps p.tables e below (T102.setTop (mkF m 127 #[.val (.int u0), .val (.int u1), .val (.int u2), .val (.int u3), .val (.int (own_t3 tn)), .val (.int (own_l5 ln)), .val (.int cc), .val (.int cd), .val (.ref b1), .val (.ref b102), .unset, .unset] [(.ref b102)])) tt
      refine XS.iconst X102.here hx rfl (hb hby at_127) ?_
      show Steps p.tables e below (T102.setTop (mkF m 128 #[.val (.int u0), .val (.int u1), .val (.int u2), .val (.int u3), .val (.int (own_t3 tn)), .val (.int (own_l5 ln)), .val (.int cc), .val (.int cd), .val (.ref b1), .val (.ref b102), .unset, .unset] [(.int (0 : Int32)), (.ref b102)])) tt
      refine XS.iloadN X102.here hx rfl (hb hby at_128) rfl ?_
      show Steps p.tables e below (T102.setTop (mkF m 129 #[.val (.int u0), .val (.int u1), .val (.int u2), .val (.int u3), .val (.int (own_t3 tn)), .val (.int (own_l5 ln)), .val (.int cc), .val (.int cd), .val (.ref b1), .val (.ref b102), .unset, .unset] [(.int u3), (.int (0 : Int32)), (.ref b102)])) tt
      refine XS.iconst X102.here hx rfl (hb hby at_129) ?_
      show Steps p.tables e below (T102.setTop (mkF m 130 #[.val (.int u0), .val (.int u1), .val (.int u2), .val (.int u3), .val (.int (own_t3 tn)), .val (.int (own_l5 ln)), .val (.int cc), .val (.int cd), .val (.ref b1), .val (.ref b102), .unset, .unset] [(.int (1 : Int32)), (.int u3), (.int (0 : Int32)), (.ref b102)])) tt
      refine XS.iand X102.here hx rfl (hb hby at_130) rfl ?_
      exact kk
    by_cases hfl : (u3 &&& (1 : Int32)) = (0 : Int32)
    · refine Goal.to (B := T102.setTop (mkF m 138 #[.val (.int u0), .val (.int u1), .val (.int u2), .val (.int u3), .val (.int (own_t3 tn)), .val (.int (own_l5 ln)), .val (.int cc), .val (.int cd), .val (.ref b1), .val (.ref b102), .unset, .unset] [(.int (0 : Int32)), (.ref b102)])) (fun tt kk => ?_) ?_
      · show Steps p.tables e below (T102.setTop (mkF m 131 #[.val (.int u0), .val (.int u1), .val (.int u2), .val (.int u3), .val (.int (own_t3 tn)), .val (.int (own_l5 ln)), .val (.int cc), .val (.int cd), .val (.ref b1), .val (.ref b102), .unset, .unset] [(.int (u3 &&& (1 : Int32))), (.int (0 : Int32)), (.ref b102)])) tt
        refine XS.ifYes X102.here hx rfl (pc0 := 131) (pc' := 138) rfl (hb hby at_131) rfl ((if0 _ _).trans (teq hfl).1) (by decide) (by decide) ?_
        exact kk
      have f113 : Ary Z h102 b1 (.object "java/lang/Object") [(.ref b2), (.ref b18), (.ref b40), (.ref b68)] := (V100.ext E102)
      have f114 : Exa Z h102 b2 "java/lang/String" := (f103.ext E102)
      have f115 : Ary Z h102 b4 .char [(.int (nar .char cc))] := (f104.ext E102)
      have f116 : Exa Z h102 b18 "java/lang/String" := (f105.ext E102)
      have f117 : Ary Z h102 b22 .char [(.int (nar .char cc))] := (f106.ext E102)
      have f118 : Exa Z h102 b40 "java/lang/String" := (f107.ext E102)
      have f119 : Ary Z h102 b46 .char [(.int (nar .char cc))] := (f108.ext E102)
      have f120 : Exa Z h102 b68 "java/lang/String" := (f109.ext E102)
      have f121 : Ary Z h102 b76 .char [(.int (nar .char cc))] := (f110.ext E102)
      have f122 : n0 ≤ h102.size := (Nat.le_trans f111 E102.1)
      obtain ⟨T112, h112, X112, e112, E112, A112, D112, -, st112⟩ := newO X102 hx hZ hown (hw _ (mw 3 rfl)) (hw _ (mw 4 rfl)) (hw _ (mw 5 rfl)) e102 (g := (mkF m 138 #[.val (.int u0), .val (.int u1), .val (.int u2), .val (.int u3), .val (.int (own_t3 tn)), .val (.int (own_l5 ln)), .val (.int cc), .val (.int cd), .val (.ref b1), .val (.ref b102), .unset, .unset] [(.int (0 : Int32)), (.ref b102)])) rfl (hb hby at_138) (by decide) (by decide)
      obtain ⟨b112, g112⟩ : ∃ z, z = h102.size := ⟨_, rfl⟩
      rw [← g112] at A112 D112 st112
      have ne_b1_b112 : b1 ≠ b112 := Nat.ne_of_lt (Nat.lt_of_lt_of_le f113.lt (Nat.le_of_eq g112.symm))
      have ne_b2_b112 : b2 ≠ b112 := Nat.ne_of_lt (Nat.lt_of_lt_of_le f114.lt (Nat.le_of_eq g112.symm))
      have ne_b4_b112 : b4 ≠ b112 := Nat.ne_of_lt (Nat.lt_of_lt_of_le f115.lt (Nat.le_of_eq g112.symm))
      have ne_b18_b112 : b18 ≠ b112 := Nat.ne_of_lt (Nat.lt_of_lt_of_le f116.lt (Nat.le_of_eq g112.symm))
      have ne_b22_b112 : b22 ≠ b112 := Nat.ne_of_lt (Nat.lt_of_lt_of_le f117.lt (Nat.le_of_eq g112.symm))
      have ne_b40_b112 : b40 ≠ b112 := Nat.ne_of_lt (Nat.lt_of_lt_of_le f118.lt (Nat.le_of_eq g112.symm))
      have ne_b46_b112 : b46 ≠ b112 := Nat.ne_of_lt (Nat.lt_of_lt_of_le f119.lt (Nat.le_of_eq g112.symm))
      have ne_b68_b112 : b68 ≠ b112 := Nat.ne_of_lt (Nat.lt_of_lt_of_le f120.lt (Nat.le_of_eq g112.symm))
      have ne_b76_b112 : b76 ≠ b112 := Nat.ne_of_lt (Nat.lt_of_lt_of_le f121.lt (Nat.le_of_eq g112.symm))
      have ne_b102_b112 : b102 ≠ b112 := Nat.ne_of_lt (Nat.lt_of_lt_of_le V102.lt (Nat.le_of_eq g112.symm))
      have g_b112 : n0 ≤ b112 := Nat.le_trans f122 (Nat.le_of_eq g112.symm)
      have F_coder_b112 : Fld Z h112 b112 "java/lang/String" "coder" "B" (.int (0 : Int32)) := D112 (Or.inr (hw _ (mw 30 rfl))) (ty := .byte) (by decide)
      have F_value_b112 : Fld Z h112 b112 "java/lang/String" "value" "[B" .null := D112 (Or.inr (hw _ (mw 32 rfl))) (ty := (.array .byte)) (by decide)
      refine Goal.to (B := T112.setTop (mkF m 141 #[.val (.int u0), .val (.int u1), .val (.int u2), .val (.int u3), .val (.int (own_t3 tn)), .val (.int (own_l5 ln)), .val (.int cc), .val (.int cd), .val (.ref b1), .val (.ref b102), .unset, .unset] [(.ref b112), (.int (0 : Int32)), (.ref b102)])) st112 ?_
      refine Goal.to (B := T112.setTop (mkF m 143 #[.val (.int u0), .val (.int u1), .val (.int u2), .val (.int u3), .val (.int (own_t3 tn)), .val (.int (own_l5 ln)), .val (.int cc), .val (.int cd), .val (.ref b1), .val (.ref b102), .unset, .unset] [(.int (1 : Int32)), (.ref b112), (.ref b112), (.int (0 : Int32)), (.ref b102)])) (fun tt kk => ?_) ?_
      · show Steps p.tables e below (T112.setTop (mkF m 141 #[.val (.int u0), .val (.int u1), .val (.int u2), .val (.int u3), .val (.int (own_t3 tn)), .val (.int (own_l5 ln)), .val (.int cc), .val (.int cd), .val (.ref b1), .val (.ref b102), .unset, .unset] [(.ref b112), (.int (0 : Int32)), (.ref b102)])) tt
        refine XS.dup X112.here hx rfl (hb hby at_141) rfl rfl ?_
        show Steps p.tables e below (T112.setTop (mkF m 142 #[.val (.int u0), .val (.int u1), .val (.int u2), .val (.int u3), .val (.int (own_t3 tn)), .val (.int (own_l5 ln)), .val (.int cc), .val (.int cd), .val (.ref b1), .val (.ref b102), .unset, .unset] [(.ref b112), (.ref b112), (.int (0 : Int32)), (.ref b102)])) tt
        refine XS.iconst X112.here hx rfl (hb hby at_142) ?_
        exact kk
      have f124 : Ary Z h112 b1 (.object "java/lang/Object") [(.ref b2), (.ref b18), (.ref b40), (.ref b68)] := (f113.ext E112)
      have f125 : Exa Z h112 b2 "java/lang/String" := (f114.ext E112)
      have f126 : Ary Z h112 b4 .char [(.int (nar .char cc))] := (f115.ext E112)
      have f127 : Exa Z h112 b18 "java/lang/String" := (f116.ext E112)
      have f128 : Ary Z h112 b22 .char [(.int (nar .char cc))] := (f117.ext E112)
      have f129 : Exa Z h112 b40 "java/lang/String" := (f118.ext E112)
      have f130 : Ary Z h112 b46 .char [(.int (nar .char cc))] := (f119.ext E112)
      have f131 : Exa Z h112 b68 "java/lang/String" := (f120.ext E112)
      have f132 : Ary Z h112 b76 .char [(.int (nar .char cc))] := (f121.ext E112)
      have f133 : Ary Z h112 b102 (.object "java/lang/Object") [.null, .null] := (V102.ext E112)
      have f134 : n0 ≤ h112.size := (Nat.le_trans f122 E112.1)
      obtain ⟨T123, h123, k123, X123, e123, E123, A123, st123⟩ := newP X112 hx hZ (hw _ (mw 6 rfl)) e112 (g := (mkF m 143 #[.val (.int u0), .val (.int u1), .val (.int u2), .val (.int u3), .val (.int (own_t3 tn)), .val (.int (own_l5 ln)), .val (.int cc), .val (.int cd), .val (.ref b1), .val (.ref b102), .unset, .unset] [(.int (1 : Int32)), (.ref b112), (.ref b112), (.int (0 : Int32)), (.ref b102)])) rfl (hb hby at_143) rfl (by decide) (cap := 1) (by decide) (by decide) (by decide) (by decide)
      obtain ⟨b123, g123⟩ : ∃ z, z = h112.size := ⟨_, rfl⟩
      rw [← g123] at A123 st123
      have ne_b1_b123 : b1 ≠ b123 := Nat.ne_of_lt (Nat.lt_of_lt_of_le f124.lt (Nat.le_of_eq g123.symm))
      have ne_b2_b123 : b2 ≠ b123 := Nat.ne_of_lt (Nat.lt_of_lt_of_le f125.lt (Nat.le_of_eq g123.symm))
      have ne_b4_b123 : b4 ≠ b123 := Nat.ne_of_lt (Nat.lt_of_lt_of_le f126.lt (Nat.le_of_eq g123.symm))
      have ne_b18_b123 : b18 ≠ b123 := Nat.ne_of_lt (Nat.lt_of_lt_of_le f127.lt (Nat.le_of_eq g123.symm))
      have ne_b22_b123 : b22 ≠ b123 := Nat.ne_of_lt (Nat.lt_of_lt_of_le f128.lt (Nat.le_of_eq g123.symm))
      have ne_b40_b123 : b40 ≠ b123 := Nat.ne_of_lt (Nat.lt_of_lt_of_le f129.lt (Nat.le_of_eq g123.symm))
      have ne_b46_b123 : b46 ≠ b123 := Nat.ne_of_lt (Nat.lt_of_lt_of_le f130.lt (Nat.le_of_eq g123.symm))
      have ne_b68_b123 : b68 ≠ b123 := Nat.ne_of_lt (Nat.lt_of_lt_of_le f131.lt (Nat.le_of_eq g123.symm))
      have ne_b76_b123 : b76 ≠ b123 := Nat.ne_of_lt (Nat.lt_of_lt_of_le f132.lt (Nat.le_of_eq g123.symm))
      have ne_b102_b123 : b102 ≠ b123 := Nat.ne_of_lt (Nat.lt_of_lt_of_le f133.lt (Nat.le_of_eq g123.symm))
      have ne_b112_b123 : b112 ≠ b123 := Nat.ne_of_lt (Nat.lt_of_lt_of_le A112.lt (Nat.le_of_eq g123.symm))
      have g_b123 : n0 ≤ b123 := Nat.le_trans f134 (Nat.le_of_eq g123.symm)
      have V123 : Ary Z h123 b123 .char [(.int (0 : Int32))] := Ary.new A123 rfl
      refine Goal.to (B := T123.setTop (mkF m 145 #[.val (.int u0), .val (.int u1), .val (.int u2), .val (.int u3), .val (.int (own_t3 tn)), .val (.int (own_l5 ln)), .val (.int cc), .val (.int cd), .val (.ref b1), .val (.ref b102), .unset, .unset] [(.ref b123), (.ref b112), (.ref b112), (.int (0 : Int32)), (.ref b102)])) st123 ?_
      refine Goal.to (B := T123.setTop (mkF m 149 #[.val (.int u0), .val (.int u1), .val (.int u2), .val (.int u3), .val (.int (own_t3 tn)), .val (.int (own_l5 ln)), .val (.int cc), .val (.int cd), .val (.ref b1), .val (.ref b102), .unset, .unset] [(.int cd), (.int (0 : Int32)), (.ref b123), (.ref b123), (.ref b112), (.ref b112), (.int (0 : Int32)), (.ref b102)])) (fun tt kk => ?_) ?_
      · show Steps p.tables e below (T123.setTop (mkF m 145 #[.val (.int u0), .val (.int u1), .val (.int u2), .val (.int u3), .val (.int (own_t3 tn)), .val (.int (own_l5 ln)), .val (.int cc), .val (.int cd), .val (.ref b1), .val (.ref b102), .unset, .unset] [(.ref b123), (.ref b112), (.ref b112), (.int (0 : Int32)), (.ref b102)])) tt
        refine XS.dup X123.here hx rfl (hb hby at_145) rfl rfl ?_
        show Steps p.tables e below (T123.setTop (mkF m 146 #[.val (.int u0), .val (.int u1), .val (.int u2), .val (.int u3), .val (.int (own_t3 tn)), .val (.int (own_l5 ln)), .val (.int cc), .val (.int cd), .val (.ref b1), .val (.ref b102), .unset, .unset] [(.ref b123), (.ref b123), (.ref b112), (.ref b112), (.int (0 : Int32)), (.ref b102)])) tt
        refine XS.iconst X123.here hx rfl (hb hby at_146) ?_
        show Steps p.tables e below (T123.setTop (mkF m 147 #[.val (.int u0), .val (.int u1), .val (.int u2), .val (.int u3), .val (.int (own_t3 tn)), .val (.int (own_l5 ln)), .val (.int cc), .val (.int cd), .val (.ref b1), .val (.ref b102), .unset, .unset] [(.int (0 : Int32)), (.ref b123), (.ref b123), (.ref b112), (.ref b112), (.int (0 : Int32)), (.ref b102)])) tt
        refine XS.iload X123.here hx rfl (hb hby at_147) rfl ?_
        exact kk
      obtain ⟨cl135, Ar135, Sl135⟩ := id V123
      have hin135 := inA (cl := cl135) Sl135 (j := (0 : Int32)) (by decide) (Nat.le_of_ble_eq_true rfl)
      obtain ⟨T135, h135, X135, e135, W135, st135⟩ := stC X123 hx hZ e123 Ar135 (j := (0 : Int32)) hin135 (g := (mkF m 149 #[.val (.int u0), .val (.int u1), .val (.int u2), .val (.int u3), .val (.int (own_t3 tn)), .val (.int (own_l5 ln)), .val (.int cc), .val (.int cd), .val (.ref b1), .val (.ref b102), .unset, .unset] [(.int cd), (.int (0 : Int32)), (.ref b123), (.ref b123), (.ref b112), (.ref b112), (.int (0 : Int32)), (.ref b102)])) rfl rfl (hb hby at_149)
      have V135 : Ary Z h135 b123 .char [(.int (nar .char cd))] := Ary.put Ar135 Sl135 W135 rfl
      have N135 := Fr.snoc X135 N100 g_b123
      refine Goal.to (B := T135.setTop (mkF m 150 #[.val (.int u0), .val (.int u1), .val (.int u2), .val (.int u3), .val (.int (own_t3 tn)), .val (.int (own_l5 ln)), .val (.int cc), .val (.int cd), .val (.ref b1), .val (.ref b102), .unset, .unset] [(.ref b123), (.ref b112), (.ref b112), (.int (0 : Int32)), (.ref b102)])) st135 ?_
      have f137 : n0 ≤ h135.size := (Nat.le_trans (Nat.le_trans f134 E123.1) (Keep.of_wr W135).1)
      have f138 : Exa Z h135 b112 "java/lang/String" := ((A112.ext E123).wr W135)
      have f139 : Fld Z h135 b112 "java/lang/String" "value" "[B" .null := ((F_value_b112.ext E123).other W135 (Or.inl ne_b112_b123))
      have f140 : Fld Z h135 b112 "java/lang/String" "coder" "B" (.int (0 : Int32)) := ((F_coder_b112.ext E123).other W135 (Or.inl ne_b112_b123))
      have f141 : StaN Z n0 h135 "java/lang/String" "COMPACT_STRINGS" "Z" (.int zc) := ((((((f91.keep K86 (allS g_b68 all0)).wr W100).ext E102).ext E112).ext E123).wr W135)
      have f142 : Ary Z h135 b1 (.object "java/lang/Object") [(.ref b2), (.ref b18), (.ref b40), (.ref b68)] := ((f124.ext E123).other W135 ne_b1_b123)
      have f143 : Exa Z h135 b2 "java/lang/String" := ((f125.ext E123).wr W135)
      have f144 : Ary Z h135 b4 .char [(.int (nar .char cc))] := ((f126.ext E123).other W135 ne_b4_b123)
      have f145 : Exa Z h135 b18 "java/lang/String" := ((f127.ext E123).wr W135)
      have f146 : Ary Z h135 b22 .char [(.int (nar .char cc))] := ((f128.ext E123).other W135 ne_b22_b123)
      have f147 : Exa Z h135 b40 "java/lang/String" := ((f129.ext E123).wr W135)
      have f148 : Ary Z h135 b46 .char [(.int (nar .char cc))] := ((f130.ext E123).other W135 ne_b46_b123)
      have f149 : Exa Z h135 b68 "java/lang/String" := ((f131.ext E123).wr W135)
      have f150 : Ary Z h135 b76 .char [(.int (nar .char cc))] := ((f132.ext E123).other W135 ne_b76_b123)
      have f151 : Ary Z h135 b102 (.object "java/lang/Object") [.null, .null] := ((f133.ext E123).other W135 ne_b102_b123)
      obtain ⟨kc136, Vc136⟩ := Ary.arv (dv := (.int (0 : Int32))) (z := (1 : Int32)) V135 rfl (by decide) (fits_cons (fits_nar_char _) fits_nil)
      have hp136 : ∀ c ∈ [(nar .char cd)], ¬ c < 0 ∧ ¬ (255 : Int32) < c := by
        intro c hc
        simp only [List.mem_cons, List.not_mem_nil, or_false] at hc
        rcases hc with rfl
        · exact own_lat _ hcd
      obtain ⟨_, _, ⟨T136, L136, k136, n136⟩, -, X136, ⟨Lc136, hQ136, l136, y136, z136⟩, st136⟩ := X135.specialBack hx (y := (⟨"java/lang/String", "<init>", "([C)V"⟩ : MethodName)) rfl hown (mvT hZ (hw _ (mw 7 rfl))) (mvT hZ (hw _ (mw 8 rfl))) (mvT hZ (hw _ (mw 9 rfl))) (by decide) (StrChars.Road.backV (W := 3) hZ hws (kI := 4) (hw _ (mw 4 rfl)) (cs := [(nar .char cd)]) (bs := [((nar .char cd)).toInt8.toInt32]) (n := 1) g_b112 f137 f138 f139 f140 Vc136 f141.sta hCS rfl rfl (by decide) (by decide) hp136 rfl (by decide) (by decide)) (g := (mkF m 150 #[.val (.int u0), .val (.int u1), .val (.int u2), .val (.int u3), .val (.int (own_t3 tn)), .val (.int (own_l5 ln)), .val (.int cc), .val (.int cd), .val (.ref b1), .val (.ref b102), .unset, .unset] [(.ref b123), (.ref b112), (.ref b112), (.int (0 : Int32)), (.ref b102)])) rfl (by rw [hml]; rfl) (Steps.refl _) (a := b112) (argsL := [(.ref b123)]) (rest := [(.ref b112), (.int (0 : Int32)), (.ref b102)]) (lenOf pd_0 rfl) rfl (by show 2 * 0 + _ ≤ _; exact Nat.le_of_eq rfl) (hb hby at_150) (fun _ _ => ⟨rfl, e135, (by decide : 16 + 1 ≤ _), (by decide : 35 + 1 ≤ _)⟩)
      dsimp only [Pt.U, Pt.locs, Pt.cells, Pt.slots] at X136 l136 y136 z136 st136 hQ136
      subst y136 z136
      obtain ⟨rfl, N136q, K136, P136_0, P136_1, t136, kb136, gt136, sz136, nt136, P136_2, P136_3⟩ := hQ136
      have N136 := Fr.eqv l136 (Fr.app N135 N136q)
      refine Goal.tr (B := T136.setTop (mkF m 153 #[.val (.int u0), .val (.int u1), .val (.int u2), .val (.int u3), .val (.int (own_t3 tn)), .val (.int (own_l5 ln)), .val (.int cc), .val (.int cd), .val (.ref b1), .val (.ref b102), .unset, .unset] [(.ref b112), (.int (0 : Int32)), (.ref b102)])) st136 ?_
      have f152 : Ary Z T136.heap b102 (.object "java/lang/Object") [.null, .null] := (f151.keep K136 (ninS ne_b102_b112 nin0))
      obtain ⟨cl153, Ar153, Sl153⟩ := id f152
      have hin153 := inA (cl := cl153) Sl153 (j := (0 : Int32)) (by decide) (Nat.le_of_ble_eq_true rfl)
      have f154 : OvrO Z T136.heap b102 "java/lang/Object" := ((((Ov102.ext E112).ext E123).wr W135).keep K136)
      obtain ⟨T153, h153, X153, e153, W153, st153⟩ := stR X136 hx hZ rfl Ar153 (j := (0 : Int32)) hin153 rfl (stoO Ar153 f154 (Ins.of_exa P136_0 (hw _ (mw 33 rfl)))) (g := (mkF m 153 #[.val (.int u0), .val (.int u1), .val (.int u2), .val (.int u3), .val (.int (own_t3 tn)), .val (.int (own_l5 ln)), .val (.int cc), .val (.int cd), .val (.ref b1), .val (.ref b102), .unset, .unset] [(.ref b112), (.int (0 : Int32)), (.ref b102)])) rfl rfl (hb hby at_153)
      have V153 : Ary Z h153 b102 (.object "java/lang/Object") [(.ref b112), .null] := Ary.put Ar153 Sl153 W153 rfl
      have N153 := Fr.snoc X153 N136 g_b102
      refine Goal.to (B := T153.setTop (mkF m 154 #[.val (.int u0), .val (.int u1), .val (.int u2), .val (.int u3), .val (.int (own_t3 tn)), .val (.int (own_l5 ln)), .val (.int cc), .val (.int cd), .val (.ref b1), .val (.ref b102), .unset, .unset] [])) st153 ?_
      refine Goal.to (B := T153.setTop (mkF m 157 #[.val (.int u0), .val (.int u1), .val (.int u2), .val (.int u3), .val (.int (own_t3 tn)), .val (.int (own_l5 ln)), .val (.int cc), .val (.int cd), .val (.ref b1), .val (.ref b102), .unset, .unset] [(.int (1 : Int32)), (.ref b102)])) (fun tt kk => ?_) ?_
      · show Steps p.tables e below (T153.setTop (mkF m 154 #[.val (.int u0), .val (.int u1), .val (.int u2), .val (.int u3), .val (.int (own_t3 tn)), .val (.int (own_l5 ln)), .val (.int cc), .val (.int cd), .val (.ref b1), .val (.ref b102), .unset, .unset] [])) tt
        refine XS.aload X153.here hx rfl (hb hby at_154) rfl rfl ?_
        show Steps p.tables e below (T153.setTop (mkF m 156 #[.val (.int u0), .val (.int u1), .val (.int u2), .val (.int u3), .val (.int (own_t3 tn)), .val (.int (own_l5 ln)), .val (.int cc), .val (.int cd), .val (.ref b1), .val (.ref b102), .unset, .unset] [(.ref b102)])) tt
        refine XS.iconst X153.here hx rfl (hb hby at_156) ?_
        exact kk
      have f156 : Ary Z h153 b1 (.object "java/lang/Object") [(.ref b2), (.ref b18), (.ref b40), (.ref b68)] := ((f142.keep K136 (ninS ne_b1_b112 nin0)).other W153 ne_b1_b102)
      have f157 : Exa Z h153 b2 "java/lang/String" := ((f143.keep K136).wr W153)
      have f158 : Ary Z h153 b4 .char [(.int (nar .char cc))] := ((f144.keep K136 (ninS ne_b4_b112 nin0)).other W153 ne_b4_b102)
      have f159 : Exa Z h153 b18 "java/lang/String" := ((f145.keep K136).wr W153)
      have f160 : Ary Z h153 b22 .char [(.int (nar .char cc))] := ((f146.keep K136 (ninS ne_b22_b112 nin0)).other W153 ne_b22_b102)
      have f161 : Exa Z h153 b40 "java/lang/String" := ((f147.keep K136).wr W153)
      have f162 : Ary Z h153 b46 .char [(.int (nar .char cc))] := ((f148.keep K136 (ninS ne_b46_b112 nin0)).other W153 ne_b46_b102)
      have f163 : Exa Z h153 b68 "java/lang/String" := ((f149.keep K136).wr W153)
      have f164 : Ary Z h153 b76 .char [(.int (nar .char cc))] := ((f150.keep K136 (ninS ne_b76_b112 nin0)).other W153 ne_b76_b102)
      have f165 : Exa Z h153 b112 "java/lang/String" := (P136_0.wr W153)
      have f166 : Ary Z h153 b123 .char [(.int (nar .char cd))] := ((V135.keep K136 (ninS (Ne.symm ne_b112_b123) nin0)).other W153 (Ne.symm ne_b102_b123))
      have f167 : n0 ≤ h153.size := (Nat.le_trans (Nat.le_trans f137 K136.1) (Keep.of_wr W153).1)
      obtain ⟨T155, h155, X155, e155, E155, A155, D155, -, st155⟩ := newO X153 hx hZ hown (hw _ (mw 3 rfl)) (hw _ (mw 4 rfl)) (hw _ (mw 5 rfl)) e153 (g := (mkF m 157 #[.val (.int u0), .val (.int u1), .val (.int u2), .val (.int u3), .val (.int (own_t3 tn)), .val (.int (own_l5 ln)), .val (.int cc), .val (.int cd), .val (.ref b1), .val (.ref b102), .unset, .unset] [(.int (1 : Int32)), (.ref b102)])) rfl (hb hby at_157) (by decide) (by decide)
      obtain ⟨b155, g155⟩ : ∃ z, z = h153.size := ⟨_, rfl⟩
      rw [← g155] at A155 D155 st155
      have ne_b1_b155 : b1 ≠ b155 := Nat.ne_of_lt (Nat.lt_of_lt_of_le f156.lt (Nat.le_of_eq g155.symm))
      have ne_b2_b155 : b2 ≠ b155 := Nat.ne_of_lt (Nat.lt_of_lt_of_le f157.lt (Nat.le_of_eq g155.symm))
      have ne_b4_b155 : b4 ≠ b155 := Nat.ne_of_lt (Nat.lt_of_lt_of_le f158.lt (Nat.le_of_eq g155.symm))
      have ne_b18_b155 : b18 ≠ b155 := Nat.ne_of_lt (Nat.lt_of_lt_of_le f159.lt (Nat.le_of_eq g155.symm))
      have ne_b22_b155 : b22 ≠ b155 := Nat.ne_of_lt (Nat.lt_of_lt_of_le f160.lt (Nat.le_of_eq g155.symm))
      have ne_b40_b155 : b40 ≠ b155 := Nat.ne_of_lt (Nat.lt_of_lt_of_le f161.lt (Nat.le_of_eq g155.symm))
      have ne_b46_b155 : b46 ≠ b155 := Nat.ne_of_lt (Nat.lt_of_lt_of_le f162.lt (Nat.le_of_eq g155.symm))
      have ne_b68_b155 : b68 ≠ b155 := Nat.ne_of_lt (Nat.lt_of_lt_of_le f163.lt (Nat.le_of_eq g155.symm))
      have ne_b76_b155 : b76 ≠ b155 := Nat.ne_of_lt (Nat.lt_of_lt_of_le f164.lt (Nat.le_of_eq g155.symm))
      have ne_b102_b155 : b102 ≠ b155 := Nat.ne_of_lt (Nat.lt_of_lt_of_le V153.lt (Nat.le_of_eq g155.symm))
      have ne_b112_b155 : b112 ≠ b155 := Nat.ne_of_lt (Nat.lt_of_lt_of_le f165.lt (Nat.le_of_eq g155.symm))
      have ne_b123_b155 : b123 ≠ b155 := Nat.ne_of_lt (Nat.lt_of_lt_of_le f166.lt (Nat.le_of_eq g155.symm))
      have g_b155 : n0 ≤ b155 := Nat.le_trans f167 (Nat.le_of_eq g155.symm)
      have F_coder_b155 : Fld Z h155 b155 "java/lang/String" "coder" "B" (.int (0 : Int32)) := D155 (Or.inr (hw _ (mw 30 rfl))) (ty := .byte) (by decide)
      have F_value_b155 : Fld Z h155 b155 "java/lang/String" "value" "[B" .null := D155 (Or.inr (hw _ (mw 32 rfl))) (ty := (.array .byte)) (by decide)
      refine Goal.to (B := T155.setTop (mkF m 160 #[.val (.int u0), .val (.int u1), .val (.int u2), .val (.int u3), .val (.int (own_t3 tn)), .val (.int (own_l5 ln)), .val (.int cc), .val (.int cd), .val (.ref b1), .val (.ref b102), .unset, .unset] [(.ref b155), (.int (1 : Int32)), (.ref b102)])) st155 ?_
      refine Goal.to (B := T155.setTop (mkF m 162 #[.val (.int u0), .val (.int u1), .val (.int u2), .val (.int u3), .val (.int (own_t3 tn)), .val (.int (own_l5 ln)), .val (.int cc), .val (.int cd), .val (.ref b1), .val (.ref b102), .unset, .unset] [(.int (1 : Int32)), (.ref b155), (.ref b155), (.int (1 : Int32)), (.ref b102)])) (fun tt kk => ?_) ?_
      · show Steps p.tables e below (T155.setTop (mkF m 160 #[.val (.int u0), .val (.int u1), .val (.int u2), .val (.int u3), .val (.int (own_t3 tn)), .val (.int (own_l5 ln)), .val (.int cc), .val (.int cd), .val (.ref b1), .val (.ref b102), .unset, .unset] [(.ref b155), (.int (1 : Int32)), (.ref b102)])) tt
        refine XS.dup X155.here hx rfl (hb hby at_160) rfl rfl ?_
        show Steps p.tables e below (T155.setTop (mkF m 161 #[.val (.int u0), .val (.int u1), .val (.int u2), .val (.int u3), .val (.int (own_t3 tn)), .val (.int (own_l5 ln)), .val (.int cc), .val (.int cd), .val (.ref b1), .val (.ref b102), .unset, .unset] [(.ref b155), (.ref b155), (.int (1 : Int32)), (.ref b102)])) tt
        refine XS.iconst X155.here hx rfl (hb hby at_161) ?_
        exact kk
      have f169 : Ary Z h155 b1 (.object "java/lang/Object") [(.ref b2), (.ref b18), (.ref b40), (.ref b68)] := (f156.ext E155)
      have f170 : Exa Z h155 b2 "java/lang/String" := (f157.ext E155)
      have f171 : Ary Z h155 b4 .char [(.int (nar .char cc))] := (f158.ext E155)
      have f172 : Exa Z h155 b18 "java/lang/String" := (f159.ext E155)
      have f173 : Ary Z h155 b22 .char [(.int (nar .char cc))] := (f160.ext E155)
      have f174 : Exa Z h155 b40 "java/lang/String" := (f161.ext E155)
      have f175 : Ary Z h155 b46 .char [(.int (nar .char cc))] := (f162.ext E155)
      have f176 : Exa Z h155 b68 "java/lang/String" := (f163.ext E155)
      have f177 : Ary Z h155 b76 .char [(.int (nar .char cc))] := (f164.ext E155)
      have f178 : Ary Z h155 b102 (.object "java/lang/Object") [(.ref b112), .null] := (V153.ext E155)
      have f179 : Exa Z h155 b112 "java/lang/String" := (f165.ext E155)
      have f180 : Ary Z h155 b123 .char [(.int (nar .char cd))] := (f166.ext E155)
      have f181 : n0 ≤ h155.size := (Nat.le_trans f167 E155.1)
      obtain ⟨T168, h168, k168, X168, e168, E168, A168, st168⟩ := newP X155 hx hZ (hw _ (mw 6 rfl)) e155 (g := (mkF m 162 #[.val (.int u0), .val (.int u1), .val (.int u2), .val (.int u3), .val (.int (own_t3 tn)), .val (.int (own_l5 ln)), .val (.int cc), .val (.int cd), .val (.ref b1), .val (.ref b102), .unset, .unset] [(.int (1 : Int32)), (.ref b155), (.ref b155), (.int (1 : Int32)), (.ref b102)])) rfl (hb hby at_162) rfl (by decide) (cap := 1) (by decide) (by decide) (by decide) (by decide)
      obtain ⟨b168, g168⟩ : ∃ z, z = h155.size := ⟨_, rfl⟩
      rw [← g168] at A168 st168
      have ne_b1_b168 : b1 ≠ b168 := Nat.ne_of_lt (Nat.lt_of_lt_of_le f169.lt (Nat.le_of_eq g168.symm))
      have ne_b2_b168 : b2 ≠ b168 := Nat.ne_of_lt (Nat.lt_of_lt_of_le f170.lt (Nat.le_of_eq g168.symm))
      have ne_b4_b168 : b4 ≠ b168 := Nat.ne_of_lt (Nat.lt_of_lt_of_le f171.lt (Nat.le_of_eq g168.symm))
      have ne_b18_b168 : b18 ≠ b168 := Nat.ne_of_lt (Nat.lt_of_lt_of_le f172.lt (Nat.le_of_eq g168.symm))
      have ne_b22_b168 : b22 ≠ b168 := Nat.ne_of_lt (Nat.lt_of_lt_of_le f173.lt (Nat.le_of_eq g168.symm))
      have ne_b40_b168 : b40 ≠ b168 := Nat.ne_of_lt (Nat.lt_of_lt_of_le f174.lt (Nat.le_of_eq g168.symm))
      have ne_b46_b168 : b46 ≠ b168 := Nat.ne_of_lt (Nat.lt_of_lt_of_le f175.lt (Nat.le_of_eq g168.symm))
      have ne_b68_b168 : b68 ≠ b168 := Nat.ne_of_lt (Nat.lt_of_lt_of_le f176.lt (Nat.le_of_eq g168.symm))
      have ne_b76_b168 : b76 ≠ b168 := Nat.ne_of_lt (Nat.lt_of_lt_of_le f177.lt (Nat.le_of_eq g168.symm))
      have ne_b102_b168 : b102 ≠ b168 := Nat.ne_of_lt (Nat.lt_of_lt_of_le f178.lt (Nat.le_of_eq g168.symm))
      have ne_b112_b168 : b112 ≠ b168 := Nat.ne_of_lt (Nat.lt_of_lt_of_le f179.lt (Nat.le_of_eq g168.symm))
      have ne_b123_b168 : b123 ≠ b168 := Nat.ne_of_lt (Nat.lt_of_lt_of_le f180.lt (Nat.le_of_eq g168.symm))
      have ne_b155_b168 : b155 ≠ b168 := Nat.ne_of_lt (Nat.lt_of_lt_of_le A155.lt (Nat.le_of_eq g168.symm))
      have g_b168 : n0 ≤ b168 := Nat.le_trans f181 (Nat.le_of_eq g168.symm)
      have V168 : Ary Z h168 b168 .char [(.int (0 : Int32))] := Ary.new A168 rfl
      refine Goal.to (B := T168.setTop (mkF m 164 #[.val (.int u0), .val (.int u1), .val (.int u2), .val (.int u3), .val (.int (own_t3 tn)), .val (.int (own_l5 ln)), .val (.int cc), .val (.int cd), .val (.ref b1), .val (.ref b102), .unset, .unset] [(.ref b168), (.ref b155), (.ref b155), (.int (1 : Int32)), (.ref b102)])) st168 ?_
      refine Goal.to (B := T168.setTop (mkF m 168 #[.val (.int u0), .val (.int u1), .val (.int u2), .val (.int u3), .val (.int (own_t3 tn)), .val (.int (own_l5 ln)), .val (.int cc), .val (.int cd), .val (.ref b1), .val (.ref b102), .unset, .unset] [(.int cd), (.int (0 : Int32)), (.ref b168), (.ref b168), (.ref b155), (.ref b155), (.int (1 : Int32)), (.ref b102)])) (fun tt kk => ?_) ?_
      · show Steps p.tables e below (T168.setTop (mkF m 164 #[.val (.int u0), .val (.int u1), .val (.int u2), .val (.int u3), .val (.int (own_t3 tn)), .val (.int (own_l5 ln)), .val (.int cc), .val (.int cd), .val (.ref b1), .val (.ref b102), .unset, .unset] [(.ref b168), (.ref b155), (.ref b155), (.int (1 : Int32)), (.ref b102)])) tt
        refine XS.dup X168.here hx rfl (hb hby at_164) rfl rfl ?_
        show Steps p.tables e below (T168.setTop (mkF m 165 #[.val (.int u0), .val (.int u1), .val (.int u2), .val (.int u3), .val (.int (own_t3 tn)), .val (.int (own_l5 ln)), .val (.int cc), .val (.int cd), .val (.ref b1), .val (.ref b102), .unset, .unset] [(.ref b168), (.ref b168), (.ref b155), (.ref b155), (.int (1 : Int32)), (.ref b102)])) tt
        refine XS.iconst X168.here hx rfl (hb hby at_165) ?_
        show Steps p.tables e below (T168.setTop (mkF m 166 #[.val (.int u0), .val (.int u1), .val (.int u2), .val (.int u3), .val (.int (own_t3 tn)), .val (.int (own_l5 ln)), .val (.int cc), .val (.int cd), .val (.ref b1), .val (.ref b102), .unset, .unset] [(.int (0 : Int32)), (.ref b168), (.ref b168), (.ref b155), (.ref b155), (.int (1 : Int32)), (.ref b102)])) tt
        refine XS.iload X168.here hx rfl (hb hby at_166) rfl ?_
        exact kk
      obtain ⟨cl182, Ar182, Sl182⟩ := id V168
      have hin182 := inA (cl := cl182) Sl182 (j := (0 : Int32)) (by decide) (Nat.le_of_ble_eq_true rfl)
      obtain ⟨T182, h182, X182, e182, W182, st182⟩ := stC X168 hx hZ e168 Ar182 (j := (0 : Int32)) hin182 (g := (mkF m 168 #[.val (.int u0), .val (.int u1), .val (.int u2), .val (.int u3), .val (.int (own_t3 tn)), .val (.int (own_l5 ln)), .val (.int cc), .val (.int cd), .val (.ref b1), .val (.ref b102), .unset, .unset] [(.int cd), (.int (0 : Int32)), (.ref b168), (.ref b168), (.ref b155), (.ref b155), (.int (1 : Int32)), (.ref b102)])) rfl rfl (hb hby at_168)
      have V182 : Ary Z h182 b168 .char [(.int (nar .char cd))] := Ary.put Ar182 Sl182 W182 rfl
      have N182 := Fr.snoc X182 N153 g_b168
      refine Goal.to (B := T182.setTop (mkF m 169 #[.val (.int u0), .val (.int u1), .val (.int u2), .val (.int u3), .val (.int (own_t3 tn)), .val (.int (own_l5 ln)), .val (.int cc), .val (.int cd), .val (.ref b1), .val (.ref b102), .unset, .unset] [(.ref b168), (.ref b155), (.ref b155), (.int (1 : Int32)), (.ref b102)])) st182 ?_
      have f184 : n0 ≤ h182.size := (Nat.le_trans (Nat.le_trans f181 E168.1) (Keep.of_wr W182).1)
      have f185 : Exa Z h182 b155 "java/lang/String" := ((A155.ext E168).wr W182)
      have f186 : Fld Z h182 b155 "java/lang/String" "value" "[B" .null := ((F_value_b155.ext E168).other W182 (Or.inl ne_b155_b168))
      have f187 : Fld Z h182 b155 "java/lang/String" "coder" "B" (.int (0 : Int32)) := ((F_coder_b155.ext E168).other W182 (Or.inl ne_b155_b168))
      have f188 : StaN Z n0 h182 "java/lang/String" "COMPACT_STRINGS" "Z" (.int zc) := (((((f141.keep K136 (allS g_b112 all0)).wr W153).ext E155).ext E168).wr W182)
      have f189 : Ary Z h182 b1 (.object "java/lang/Object") [(.ref b2), (.ref b18), (.ref b40), (.ref b68)] := ((f169.ext E168).other W182 ne_b1_b168)
      have f190 : Exa Z h182 b2 "java/lang/String" := ((f170.ext E168).wr W182)
      have f191 : Ary Z h182 b4 .char [(.int (nar .char cc))] := ((f171.ext E168).other W182 ne_b4_b168)
      have f192 : Exa Z h182 b18 "java/lang/String" := ((f172.ext E168).wr W182)
      have f193 : Ary Z h182 b22 .char [(.int (nar .char cc))] := ((f173.ext E168).other W182 ne_b22_b168)
      have f194 : Exa Z h182 b40 "java/lang/String" := ((f174.ext E168).wr W182)
      have f195 : Ary Z h182 b46 .char [(.int (nar .char cc))] := ((f175.ext E168).other W182 ne_b46_b168)
      have f196 : Exa Z h182 b68 "java/lang/String" := ((f176.ext E168).wr W182)
      have f197 : Ary Z h182 b76 .char [(.int (nar .char cc))] := ((f177.ext E168).other W182 ne_b76_b168)
      have f198 : Ary Z h182 b102 (.object "java/lang/Object") [(.ref b112), .null] := ((f178.ext E168).other W182 ne_b102_b168)
      have f199 : Exa Z h182 b112 "java/lang/String" := ((f179.ext E168).wr W182)
      have f200 : Ary Z h182 b123 .char [(.int (nar .char cd))] := ((f180.ext E168).other W182 ne_b123_b168)
      obtain ⟨kc183, Vc183⟩ := Ary.arv (dv := (.int (0 : Int32))) (z := (1 : Int32)) V182 rfl (by decide) (fits_cons (fits_nar_char _) fits_nil)
      have hp183 : ∀ c ∈ [(nar .char cd)], ¬ c < 0 ∧ ¬ (255 : Int32) < c := by
        intro c hc
        simp only [List.mem_cons, List.not_mem_nil, or_false] at hc
        rcases hc with rfl
        · exact own_lat _ hcd
      obtain ⟨_, _, ⟨T183, L183, k183, n183⟩, -, X183, ⟨Lc183, hQ183, l183, y183, z183⟩, st183⟩ := X182.specialBack hx (y := (⟨"java/lang/String", "<init>", "([C)V"⟩ : MethodName)) rfl hown (mvT hZ (hw _ (mw 7 rfl))) (mvT hZ (hw _ (mw 8 rfl))) (mvT hZ (hw _ (mw 9 rfl))) (by decide) (StrChars.Road.backV (W := 3) hZ hws (kI := 4) (hw _ (mw 4 rfl)) (cs := [(nar .char cd)]) (bs := [((nar .char cd)).toInt8.toInt32]) (n := 1) g_b155 f184 f185 f186 f187 Vc183 f188.sta hCS rfl rfl (by decide) (by decide) hp183 rfl (by decide) (by decide)) (g := (mkF m 169 #[.val (.int u0), .val (.int u1), .val (.int u2), .val (.int u3), .val (.int (own_t3 tn)), .val (.int (own_l5 ln)), .val (.int cc), .val (.int cd), .val (.ref b1), .val (.ref b102), .unset, .unset] [(.ref b168), (.ref b155), (.ref b155), (.int (1 : Int32)), (.ref b102)])) rfl (by rw [hml]; rfl) (Steps.refl _) (a := b155) (argsL := [(.ref b168)]) (rest := [(.ref b155), (.int (1 : Int32)), (.ref b102)]) (lenOf pd_0 rfl) rfl (by show 2 * 0 + _ ≤ _; exact Nat.le_of_eq rfl) (hb hby at_169) (fun _ _ => ⟨rfl, e182, (by decide : 19 + 1 ≤ _), (by decide : 41 + 1 ≤ _)⟩)
      dsimp only [Pt.U, Pt.locs, Pt.cells, Pt.slots] at X183 l183 y183 z183 st183 hQ183
      subst y183 z183
      obtain ⟨rfl, N183q, K183, P183_0, P183_1, t183, kb183, gt183, sz183, nt183, P183_2, P183_3⟩ := hQ183
      have N183 := Fr.eqv l183 (Fr.app N182 N183q)
      refine Goal.tr (B := T183.setTop (mkF m 172 #[.val (.int u0), .val (.int u1), .val (.int u2), .val (.int u3), .val (.int (own_t3 tn)), .val (.int (own_l5 ln)), .val (.int cc), .val (.int cd), .val (.ref b1), .val (.ref b102), .unset, .unset] [(.ref b155), (.int (1 : Int32)), (.ref b102)])) st183 ?_
      have f201 : Ary Z T183.heap b102 (.object "java/lang/Object") [(.ref b112), .null] := (f198.keep K183 (ninS ne_b102_b155 nin0))
      obtain ⟨cl202, Ar202, Sl202⟩ := id f201
      have hin202 := inA (cl := cl202) Sl202 (j := (1 : Int32)) (by decide) (Nat.le_of_ble_eq_true rfl)
      have f203 : OvrO Z T183.heap b102 "java/lang/Object" := (((((f154.wr W153).ext E155).ext E168).wr W182).keep K183)
      obtain ⟨T202, h202, X202, e202, W202, st202⟩ := stR X183 hx hZ rfl Ar202 (j := (1 : Int32)) hin202 rfl (stoO Ar202 f203 (Ins.of_exa P183_0 (hw _ (mw 33 rfl)))) (g := (mkF m 172 #[.val (.int u0), .val (.int u1), .val (.int u2), .val (.int u3), .val (.int (own_t3 tn)), .val (.int (own_l5 ln)), .val (.int cc), .val (.int cd), .val (.ref b1), .val (.ref b102), .unset, .unset] [(.ref b155), (.int (1 : Int32)), (.ref b102)])) rfl rfl (hb hby at_172)
      have V202 : Ary Z h202 b102 (.object "java/lang/Object") [(.ref b112), (.ref b155)] := Ary.put Ar202 Sl202 W202 rfl
      have N202 := Fr.snoc X202 N183 g_b102
      refine Goal.to (B := T202.setTop (mkF m 173 #[.val (.int u0), .val (.int u1), .val (.int u2), .val (.int u3), .val (.int (own_t3 tn)), .val (.int (own_l5 ln)), .val (.int cc), .val (.int cd), .val (.ref b1), .val (.ref b102), .unset, .unset] [])) st202 ?_
      have f205 : Ary Z h202 b1 (.object "java/lang/Object") [(.ref b2), (.ref b18), (.ref b40), (.ref b68)] := ((f189.keep K183 (ninS ne_b1_b155 nin0)).other W202 ne_b1_b102)
      have f206 : Exa Z h202 b2 "java/lang/String" := ((f190.keep K183).wr W202)
      have f207 : Ary Z h202 b4 .char [(.int (nar .char cc))] := ((f191.keep K183 (ninS ne_b4_b155 nin0)).other W202 ne_b4_b102)
      have f208 : Exa Z h202 b18 "java/lang/String" := ((f192.keep K183).wr W202)
      have f209 : Ary Z h202 b22 .char [(.int (nar .char cc))] := ((f193.keep K183 (ninS ne_b22_b155 nin0)).other W202 ne_b22_b102)
      have f210 : Exa Z h202 b40 "java/lang/String" := ((f194.keep K183).wr W202)
      have f211 : Ary Z h202 b46 .char [(.int (nar .char cc))] := ((f195.keep K183 (ninS ne_b46_b155 nin0)).other W202 ne_b46_b102)
      have f212 : Exa Z h202 b68 "java/lang/String" := ((f196.keep K183).wr W202)
      have f213 : Ary Z h202 b76 .char [(.int (nar .char cc))] := ((f197.keep K183 (ninS ne_b76_b155 nin0)).other W202 ne_b76_b102)
      have f214 : Exa Z h202 b112 "java/lang/String" := ((f199.keep K183).wr W202)
      have f215 : Ary Z h202 b123 .char [(.int (nar .char cd))] := ((f200.keep K183 (ninS ne_b123_b155 nin0)).other W202 (Ne.symm ne_b102_b123))
      have f216 : Exa Z h202 b155 "java/lang/String" := (P183_0.wr W202)
      have f217 : Ary Z h202 b168 .char [(.int (nar .char cd))] := ((V182.keep K183 (ninS (Ne.symm ne_b155_b168) nin0)).other W202 (Ne.symm ne_b102_b168))
      have f218 : n0 ≤ h202.size := (Nat.le_trans (Nat.le_trans f184 K183.1) (Keep.of_wr W202).1)
      obtain ⟨T204, h204, X204, e204, E204, A204, D204, -, st204⟩ := newO X202 hx hZ hown (hw _ (mw 34 rfl)) (hw _ (mw 35 rfl)) (hw _ (mw 36 rfl)) e202 (g := (mkF m 173 #[.val (.int u0), .val (.int u1), .val (.int u2), .val (.int u3), .val (.int (own_t3 tn)), .val (.int (own_l5 ln)), .val (.int cc), .val (.int cd), .val (.ref b1), .val (.ref b102), .unset, .unset] [])) rfl (hb hby at_173) (by decide) (by decide)
      obtain ⟨b204, g204⟩ : ∃ z, z = h202.size := ⟨_, rfl⟩
      rw [← g204] at A204 D204 st204
      have ne_b1_b204 : b1 ≠ b204 := Nat.ne_of_lt (Nat.lt_of_lt_of_le f205.lt (Nat.le_of_eq g204.symm))
      have ne_b2_b204 : b2 ≠ b204 := Nat.ne_of_lt (Nat.lt_of_lt_of_le f206.lt (Nat.le_of_eq g204.symm))
      have ne_b4_b204 : b4 ≠ b204 := Nat.ne_of_lt (Nat.lt_of_lt_of_le f207.lt (Nat.le_of_eq g204.symm))
      have ne_b18_b204 : b18 ≠ b204 := Nat.ne_of_lt (Nat.lt_of_lt_of_le f208.lt (Nat.le_of_eq g204.symm))
      have ne_b22_b204 : b22 ≠ b204 := Nat.ne_of_lt (Nat.lt_of_lt_of_le f209.lt (Nat.le_of_eq g204.symm))
      have ne_b40_b204 : b40 ≠ b204 := Nat.ne_of_lt (Nat.lt_of_lt_of_le f210.lt (Nat.le_of_eq g204.symm))
      have ne_b46_b204 : b46 ≠ b204 := Nat.ne_of_lt (Nat.lt_of_lt_of_le f211.lt (Nat.le_of_eq g204.symm))
      have ne_b68_b204 : b68 ≠ b204 := Nat.ne_of_lt (Nat.lt_of_lt_of_le f212.lt (Nat.le_of_eq g204.symm))
      have ne_b76_b204 : b76 ≠ b204 := Nat.ne_of_lt (Nat.lt_of_lt_of_le f213.lt (Nat.le_of_eq g204.symm))
      have ne_b102_b204 : b102 ≠ b204 := Nat.ne_of_lt (Nat.lt_of_lt_of_le V202.lt (Nat.le_of_eq g204.symm))
      have ne_b112_b204 : b112 ≠ b204 := Nat.ne_of_lt (Nat.lt_of_lt_of_le f214.lt (Nat.le_of_eq g204.symm))
      have ne_b123_b204 : b123 ≠ b204 := Nat.ne_of_lt (Nat.lt_of_lt_of_le f215.lt (Nat.le_of_eq g204.symm))
      have ne_b155_b204 : b155 ≠ b204 := Nat.ne_of_lt (Nat.lt_of_lt_of_le f216.lt (Nat.le_of_eq g204.symm))
      have ne_b168_b204 : b168 ≠ b204 := Nat.ne_of_lt (Nat.lt_of_lt_of_le f217.lt (Nat.le_of_eq g204.symm))
      have g_b204 : n0 ≤ b204 := Nat.le_trans f218 (Nat.le_of_eq g204.symm)
      have F_markInterval_b204 : Fld Z h204 b204 "com/example/tributary/tributary/runtime/Revisits" "markInterval" "J" (.long (0 : Int64)) := D204 (Or.inl (hw _ (mw 42 rfl))) (ty := .long) (by decide)
      have F_markedLeft_b204 : Fld Z h204 b204 "com/example/tributary/tributary/runtime/Revisits" "markedLeft" "Ljava/lang/Object;" .null := D204 (Or.inl (hw _ (mw 53 rfl))) (ty := (.object "java/lang/Object")) (by decide)
      have F_sinceMark_b204 : Fld Z h204 b204 "com/example/tributary/tributary/runtime/Revisits" "sinceMark" "J" (.long (0 : Int64)) := D204 (Or.inl (hw _ (mw 55 rfl))) (ty := .long) (by decide)
      have F_markedRight_b204 : Fld Z h204 b204 "com/example/tributary/tributary/runtime/Revisits" "markedRight" "Ljava/lang/Object;" .null := D204 (Or.inl (hw _ (mw 57 rfl))) (ty := (.object "java/lang/Object")) (by decide)
      refine Goal.to (B := T204.setTop (mkF m 176 #[.val (.int u0), .val (.int u1), .val (.int u2), .val (.int u3), .val (.int (own_t3 tn)), .val (.int (own_l5 ln)), .val (.int cc), .val (.int cd), .val (.ref b1), .val (.ref b102), .unset, .unset] [(.ref b204)])) st204 ?_
      refine Goal.to (B := T204.setTop (mkF m 177 #[.val (.int u0), .val (.int u1), .val (.int u2), .val (.int u3), .val (.int (own_t3 tn)), .val (.int (own_l5 ln)), .val (.int cc), .val (.int cd), .val (.ref b1), .val (.ref b102), .unset, .unset] [(.ref b204), (.ref b204)])) (fun tt kk => ?_) ?_
      · show Steps p.tables e below (T204.setTop (mkF m 176 #[.val (.int u0), .val (.int u1), .val (.int u2), .val (.int u3), .val (.int (own_t3 tn)), .val (.int (own_l5 ln)), .val (.int cc), .val (.int cd), .val (.ref b1), .val (.ref b102), .unset, .unset] [(.ref b204)])) tt
        refine XS.dup X204.here hx rfl (hb hby at_176) rfl rfl ?_
        exact kk
      have f219 : n0 ≤ h204.size := (Nat.le_trans f218 E204.1)
      obtain ⟨_, _, ⟨T220, L220, k220, n220⟩, -, X220, ⟨Lc220, hQ220, l220, y220, z220⟩, st220⟩ := X204.specialBack hx (y := (⟨"com/example/tributary/tributary/runtime/Revisits", "<init>", "()V"⟩ : MethodName)) rfl hown (mvT hZ (hw _ (mw 37 rfl))) (mvT hZ (hw _ (mw 38 rfl))) (mvT hZ (hw _ (mw 39 rfl))) (by decide) (backOf (W := 1) (rmN l Z a0 hw [] b204 h204 n0 f219 A204 F_markedLeft_b204 F_markedRight_b204 F_sinceMark_b204 F_markInterval_b204 g_b204) hZ (hw _ (mw 39 rfl)) (hw _ (mw 36 rfl)) (by decide) (by decide)) (g := (mkF m 177 #[.val (.int u0), .val (.int u1), .val (.int u2), .val (.int u3), .val (.int (own_t3 tn)), .val (.int (own_l5 ln)), .val (.int cc), .val (.int cd), .val (.ref b1), .val (.ref b102), .unset, .unset] [(.ref b204), (.ref b204)])) rfl (by rw [hml]; rfl) (Steps.refl _) (a := b204) (argsL := []) (rest := [(.ref b204)]) (lenOf pd_2 rfl) rfl (by show 2 * 0 + _ ≤ _; exact Nat.le_of_eq rfl) (hb hby at_177) (fun _ _ => ⟨rfl, e204, (by decide : 21 + 0 ≤ _), (by decide : 46 + 0 ≤ _)⟩)
      dsimp only [Pt.U, Pt.locs, Pt.cells, Pt.slots] at X220 l220 y220 z220 st220 hQ220
      subst y220 z220
      obtain ⟨rfl, N220q, K220, P220_0, P220_1, P220_2, P220_3⟩ := hQ220
      have N220 := Fr.eqv l220 (Fr.app N202 N220q)
      refine Goal.tr (B := T220.setTop (mkF m 180 #[.val (.int u0), .val (.int u1), .val (.int u2), .val (.int u3), .val (.int (own_t3 tn)), .val (.int (own_l5 ln)), .val (.int cc), .val (.int cd), .val (.ref b1), .val (.ref b102), .unset, .unset] [(.ref b204)])) st220 ?_
      refine Goal.to (B := T220.setTop (mkF m 185 #[.val (.int u0), .val (.int u1), .val (.int u2), .val (.int u3), .val (.int (own_t3 tn)), .val (.int (own_l5 ln)), .val (.int cc), .val (.int cd), .val (.ref b1), .val (.ref b102), .val (.ref b204), .val (.int (0 : Int32))] [])) (fun tt kk => ?_) ?_
      · show Steps p.tables e below (T220.setTop (mkF m 180 #[.val (.int u0), .val (.int u1), .val (.int u2), .val (.int u3), .val (.int (own_t3 tn)), .val (.int (own_l5 ln)), .val (.int cc), .val (.int cd), .val (.ref b1), .val (.ref b102), .unset, .unset] [(.ref b204)])) tt
        refine XS.astore X220.here hx rfl (hb hby at_180) rfl rfl (l' := #[.val (.int u0), .val (.int u1), .val (.int u2), .val (.int u3), .val (.int (own_t3 tn)), .val (.int (own_l5 ln)), .val (.int cc), .val (.int cd), .val (.ref b1), .val (.ref b102), .val (.ref b204), .unset]) rfl ?_
        show Steps p.tables e below (T220.setTop (mkF m 182 #[.val (.int u0), .val (.int u1), .val (.int u2), .val (.int u3), .val (.int (own_t3 tn)), .val (.int (own_l5 ln)), .val (.int cc), .val (.int cd), .val (.ref b1), .val (.ref b102), .val (.ref b204), .unset] [])) tt
        refine XS.iconst X220.here hx rfl (hb hby at_182) ?_
        show Steps p.tables e below (T220.setTop (mkF m 183 #[.val (.int u0), .val (.int u1), .val (.int u2), .val (.int u3), .val (.int (own_t3 tn)), .val (.int (own_l5 ln)), .val (.int cc), .val (.int cd), .val (.ref b1), .val (.ref b102), .val (.ref b204), .unset] [(.int (0 : Int32))])) tt
        refine XS.istore X220.here hx rfl (hb hby at_183) rfl (l' := #[.val (.int u0), .val (.int u1), .val (.int u2), .val (.int u3), .val (.int (own_t3 tn)), .val (.int (own_l5 ln)), .val (.int cc), .val (.int cd), .val (.ref b1), .val (.ref b102), .val (.ref b204), .val (.int (0 : Int32))]) rfl ?_
        exact kk
      have R221 : Fld Z T220.heap b204 "com/example/tributary/tributary/runtime/Revisits" "markedLeft" "Ljava/lang/Object;" (own_ML b2 b18 b40 b68 (own_Z tn ln 0).1) := by rw [own_Zm0 tn ln]; exact P220_0
      have R222 : Fld Z T220.heap b204 "com/example/tributary/tributary/runtime/Revisits" "markedRight" "Ljava/lang/Object;" (own_MR (.ref b112) b155 (own_Z tn ln 0).1) := by rw [own_Zm0 tn ln]; exact P220_1
      have R223 : Fld Z T220.heap b204 "com/example/tributary/tributary/runtime/Revisits" "sinceMark" "J" (.long (own_Z tn ln 0).2.1) := by rw [own_Zs0 tn ln]; exact P220_2
      have R224 : Fld Z T220.heap b204 "com/example/tributary/tributary/runtime/Revisits" "markInterval" "J" (.long (own_Z tn ln 0).2.2) := by rw [own_Zi0 tn ln]; exact P220_3
      have hD : own_D b2 b18 b40 b68 b155 (.ref b112) := ⟨ne_b2_b18, ne_b2_b40, ne_b2_b68, ne_b18_b40, ne_b18_b68, ne_b40_b68, (fun q => ne_b112_b155 (Value.ref.inj q))⟩
      refine Goal.to (B := T220.setTop (mkF m 198 #[.val (.int u0), .val (.int u1), .val (.int u2), .val (.int u3), .val (.int (own_t3 tn)), .val (.int (own_l5 ln)), .val (.int cc), .val (.int cd), .val (.ref b1), .val (.ref b102), .val (.ref b204), .val (.int (0 : Int32))] [(.int (own_l5 ln)), (.int (own_t3 tn)), (.int (0 : Int32)), (.ref b102), (.ref b1), (.ref b204), (.int (0 : Int32))])) (fun tt kk => ?_) ?_
      · show Steps p.tables e below (T220.setTop (mkF m 185 #[.val (.int u0), .val (.int u1), .val (.int u2), .val (.int u3), .val (.int (own_t3 tn)), .val (.int (own_l5 ln)), .val (.int cc), .val (.int cd), .val (.ref b1), .val (.ref b102), .val (.ref b204), .val (.int (0 : Int32))] [])) tt
        refine XS.iload X220.here hx rfl (hb hby at_185) rfl ?_
        show Steps p.tables e below (T220.setTop (mkF m 187 #[.val (.int u0), .val (.int u1), .val (.int u2), .val (.int u3), .val (.int (own_t3 tn)), .val (.int (own_l5 ln)), .val (.int cc), .val (.int cd), .val (.ref b1), .val (.ref b102), .val (.ref b204), .val (.int (0 : Int32))] [(.int (0 : Int32))])) tt
        refine XS.aload X220.here hx rfl (hb hby at_187) rfl rfl ?_
        show Steps p.tables e below (T220.setTop (mkF m 189 #[.val (.int u0), .val (.int u1), .val (.int u2), .val (.int u3), .val (.int (own_t3 tn)), .val (.int (own_l5 ln)), .val (.int cc), .val (.int cd), .val (.ref b1), .val (.ref b102), .val (.ref b204), .val (.int (0 : Int32))] [(.ref b204), (.int (0 : Int32))])) tt
        refine XS.aload X220.here hx rfl (hb hby at_189) rfl rfl ?_
        show Steps p.tables e below (T220.setTop (mkF m 191 #[.val (.int u0), .val (.int u1), .val (.int u2), .val (.int u3), .val (.int (own_t3 tn)), .val (.int (own_l5 ln)), .val (.int cc), .val (.int cd), .val (.ref b1), .val (.ref b102), .val (.ref b204), .val (.int (0 : Int32))] [(.ref b1), (.ref b204), (.int (0 : Int32))])) tt
        refine XS.aload X220.here hx rfl (hb hby at_191) rfl rfl ?_
        show Steps p.tables e below (T220.setTop (mkF m 193 #[.val (.int u0), .val (.int u1), .val (.int u2), .val (.int u3), .val (.int (own_t3 tn)), .val (.int (own_l5 ln)), .val (.int cc), .val (.int cd), .val (.ref b1), .val (.ref b102), .val (.ref b204), .val (.int (0 : Int32))] [(.ref b102), (.ref b1), (.ref b204), (.int (0 : Int32))])) tt
        refine XS.iconst X220.here hx rfl (hb hby at_193) ?_
        show Steps p.tables e below (T220.setTop (mkF m 194 #[.val (.int u0), .val (.int u1), .val (.int u2), .val (.int u3), .val (.int (own_t3 tn)), .val (.int (own_l5 ln)), .val (.int cc), .val (.int cd), .val (.ref b1), .val (.ref b102), .val (.ref b204), .val (.int (0 : Int32))] [(.int (0 : Int32)), (.ref b102), (.ref b1), (.ref b204), (.int (0 : Int32))])) tt
        refine XS.iload X220.here hx rfl (hb hby at_194) rfl ?_
        show Steps p.tables e below (T220.setTop (mkF m 196 #[.val (.int u0), .val (.int u1), .val (.int u2), .val (.int u3), .val (.int (own_t3 tn)), .val (.int (own_l5 ln)), .val (.int cc), .val (.int cd), .val (.ref b1), .val (.ref b102), .val (.ref b204), .val (.int (0 : Int32))] [(.int (own_t3 tn)), (.int (0 : Int32)), (.ref b102), (.ref b1), (.ref b204), (.int (0 : Int32))])) tt
        refine XS.iload X220.here hx rfl (hb hby at_196) rfl ?_
        exact kk
      have f225 : Exa Z T220.heap b204 "com/example/tributary/tributary/runtime/Revisits" := (A204.keep K220)
      have f226 : Ary Z T220.heap b1 (.object "java/lang/Object") [(.ref b2), (.ref b18), (.ref b40), (.ref b68)] := ((f205.ext E204).keep K220 (ninS ne_b1_b204 nin0))
      have f227 : Ary Z T220.heap b102 (.object "java/lang/Object") [(.ref b112), (.ref b155)] := ((V202.ext E204).keep K220 (ninS ne_b102_b204 nin0))
      have f228 : n0 ≤ T220.heap.size := (Nat.le_trans f219 K220.1)
      obtain ⟨_, _, ⟨T229, L229, k229, n229⟩, -, X229, ⟨Lc229, hQ229, l229, y229, z229⟩, st229⟩ := Jvm.LawKit.callS X220 hx (y := (⟨"com/example/tributary/tributary/runtime/RevisitsSeenBeforePinLaw", "step", "(Lcom/example/tributary/tributary/runtime/Revisits;[Ljava/lang/Object;[Ljava/lang/Object;III)Z"⟩ : MethodName)) hown (mvT hZ (hw _ (mw 43 rfl))) (mvT hZ (hw _ (mw 44 rfl))) (mvT hZ (hw _ (mw 45 rfl))) (mvT hZ (hw _ (mw 46 rfl))) (by decide) (backOf (W := 1) (rmst l Z a0 hw [] b204 b1 b102 b2 b18 b40 b68 b155 (.ref b112) (own_kf tn ln 0) (own_Z tn ln 0).1 (own_Z tn ln 0).2.1 (own_Z tn ln 0).2.2 (0 : Int32) (own_t3 tn) (own_l5 ln) T220.heap n0 f228 f225 R221 R222 R223 R224 f226 f227 g_b204 rfl (own_kk0 tn ln) (own_l0 ln) hD) hZ (hw _ (mw 46 rfl)) (hw _ (mw 45 rfl)) (by decide) (by decide)) (g := (mkF m 198 #[.val (.int u0), .val (.int u1), .val (.int u2), .val (.int u3), .val (.int (own_t3 tn)), .val (.int (own_l5 ln)), .val (.int cc), .val (.int cd), .val (.ref b1), .val (.ref b102), .val (.ref b204), .val (.int (0 : Int32))] [(.int (own_l5 ln)), (.int (own_t3 tn)), (.int (0 : Int32)), (.ref b102), (.ref b1), (.ref b204), (.int (0 : Int32))])) rfl (by rw [hml]; rfl) (argsL := [(.ref b204), (.ref b1), (.ref b102), (.int (0 : Int32)), (.int (own_t3 tn)), (.int (own_l5 ln))]) (rest := [(.int (0 : Int32))]) (lenOf pd_6 rfl) rfl (by show 2 * 0 + _ ≤ _; exact Nat.le_of_eq rfl) (hb hby at_198) (fun _ _ => ⟨rfl, rfl, (by decide : 21 + 0 ≤ _), (by decide : 46 + 0 ≤ _)⟩)
      dsimp only [Pt.U, Pt.locs, Pt.cells, Pt.slots] at X229 l229 y229 z229 st229 hQ229
      subst y229 z229
      obtain ⟨rfl, N229q, K229, P229_0, P229_1, P229_2, P229_3⟩ := hQ229
      have N229 := Fr.eqv l229 (Fr.app N220 N229q)
      refine Goal.to (B := T229.setTop (mkF m 201 #[.val (.int u0), .val (.int u1), .val (.int u2), .val (.int u3), .val (.int (own_t3 tn)), .val (.int (own_l5 ln)), .val (.int cc), .val (.int cd), .val (.ref b1), .val (.ref b102), .val (.ref b204), .val (.int (0 : Int32))] [(.int (own_seen (own_Z tn ln 0).1 (own_kf tn ln 0))), (.int (0 : Int32))])) st229 ?_
      have R230 : Fld Z T229.heap b204 "com/example/tributary/tributary/runtime/Revisits" "markedLeft" "Ljava/lang/Object;" (own_ML b2 b18 b40 b68 (own_Z tn ln 1).1) := by rw [own_Zm1 tn ln]; exact P229_0
      have R231 : Fld Z T229.heap b204 "com/example/tributary/tributary/runtime/Revisits" "markedRight" "Ljava/lang/Object;" (own_MR (.ref b112) b155 (own_Z tn ln 1).1) := by rw [own_Zm1 tn ln]; exact P229_1
      have R232 : Fld Z T229.heap b204 "com/example/tributary/tributary/runtime/Revisits" "sinceMark" "J" (.long (own_Z tn ln 1).2.1) := by rw [own_Zs1 tn ln]; exact P229_2
      have R233 : Fld Z T229.heap b204 "com/example/tributary/tributary/runtime/Revisits" "markInterval" "J" (.long (own_Z tn ln 1).2.2) := by rw [own_Zi1 tn ln]; exact P229_3
      obtain ⟨w235, hw235⟩ : ∃ z : Int32, z = if (own_seen (own_Z tn ln 0).1 (own_kf tn ln 0)) = (0 : Int32) then (0 : Int32) else (1 : Int32) := ⟨_, rfl⟩
      refine Goal.to (B := T229.setTop (mkF m 209 #[.val (.int u0), .val (.int u1), .val (.int u2), .val (.int u3), .val (.int (own_t3 tn)), .val (.int (own_l5 ln)), .val (.int cc), .val (.int cd), .val (.ref b1), .val (.ref b102), .val (.ref b204), .val (.int (0 : Int32))] [(.int w235), (.int (0 : Int32))])) (fun tt kk => ?_) ?_
      · by_cases hc234 : (own_seen (own_Z tn ln 0).1 (own_kf tn ln 0)) = (0 : Int32)
        · have qw235 : w235 = (0 : Int32) := by rw [hw235, if_pos hc234]
          rw [qw235] at kk
          show Steps p.tables e below (T229.setTop (mkF m 201 #[.val (.int u0), .val (.int u1), .val (.int u2), .val (.int u3), .val (.int (own_t3 tn)), .val (.int (own_l5 ln)), .val (.int cc), .val (.int cd), .val (.ref b1), .val (.ref b102), .val (.ref b204), .val (.int (0 : Int32))] [(.int (own_seen (own_Z tn ln 0).1 (own_kf tn ln 0))), (.int (0 : Int32))])) tt
          refine XS.ifYes X229.here hx rfl (pc0 := 201) (pc' := 208) rfl (hb hby at_201) rfl ((if0 _ _).trans (teq hc234).1) (by decide) (by decide) ?_
          show Steps p.tables e below (T229.setTop (mkF m 208 #[.val (.int u0), .val (.int u1), .val (.int u2), .val (.int u3), .val (.int (own_t3 tn)), .val (.int (own_l5 ln)), .val (.int cc), .val (.int cd), .val (.ref b1), .val (.ref b102), .val (.ref b204), .val (.int (0 : Int32))] [(.int (0 : Int32))])) tt
          refine XS.iconst X229.here hx rfl (hb hby at_208) ?_
          exact kk
        · have qw235 : w235 = (1 : Int32) := by rw [hw235, if_neg hc234]
          rw [qw235] at kk
          show Steps p.tables e below (T229.setTop (mkF m 201 #[.val (.int u0), .val (.int u1), .val (.int u2), .val (.int u3), .val (.int (own_t3 tn)), .val (.int (own_l5 ln)), .val (.int cc), .val (.int cd), .val (.ref b1), .val (.ref b102), .val (.ref b204), .val (.int (0 : Int32))] [(.int (own_seen (own_Z tn ln 0).1 (own_kf tn ln 0))), (.int (0 : Int32))])) tt
          refine XS.ifNo X229.here hx rfl (hb hby at_201) rfl ((if0 _ _).trans (feq hc234).1) ?_
          show Steps p.tables e below (T229.setTop (mkF m 204 #[.val (.int u0), .val (.int u1), .val (.int u2), .val (.int u3), .val (.int (own_t3 tn)), .val (.int (own_l5 ln)), .val (.int cc), .val (.int cd), .val (.ref b1), .val (.ref b102), .val (.ref b204), .val (.int (0 : Int32))] [(.int (0 : Int32))])) tt
          refine XS.iconst X229.here hx rfl (hb hby at_204) ?_
          show Steps p.tables e below (T229.setTop (mkF m 205 #[.val (.int u0), .val (.int u1), .val (.int u2), .val (.int u3), .val (.int (own_t3 tn)), .val (.int (own_l5 ln)), .val (.int cc), .val (.int cd), .val (.ref b1), .val (.ref b102), .val (.ref b204), .val (.int (0 : Int32))] [(.int (1 : Int32)), (.int (0 : Int32))])) tt
          refine XS.goto X229.here hx rfl (pc0 := 205) (pc' := 209) rfl (hb hby at_205) (by decide) (by decide) ?_
          exact kk
      obtain ⟨gg1, hgg1⟩ : ∃ z : Int32, z = ((0 : Int32) ||| w235) := ⟨_, rfl⟩
      refine Goal.to (B := T229.setTop (mkF m 212 #[.val (.int u0), .val (.int u1), .val (.int u2), .val (.int u3), .val (.int (own_t3 tn)), .val (.int (own_l5 ln)), .val (.int cc), .val (.int cd), .val (.ref b1), .val (.ref b102), .val (.ref b204), .val (.int gg1)] [])) (fun tt kk => ?_) ?_
      · subst hgg1
        show Steps p.tables e below (T229.setTop (mkF m 209 #[.val (.int u0), .val (.int u1), .val (.int u2), .val (.int u3), .val (.int (own_t3 tn)), .val (.int (own_l5 ln)), .val (.int cc), .val (.int cd), .val (.ref b1), .val (.ref b102), .val (.ref b204), .val (.int (0 : Int32))] [(.int w235), (.int (0 : Int32))])) tt
        refine XS.ior X229.here hx rfl (hb hby at_209) rfl ?_
        show Steps p.tables e below (T229.setTop (mkF m 210 #[.val (.int u0), .val (.int u1), .val (.int u2), .val (.int u3), .val (.int (own_t3 tn)), .val (.int (own_l5 ln)), .val (.int cc), .val (.int cd), .val (.ref b1), .val (.ref b102), .val (.ref b204), .val (.int (0 : Int32))] [(.int ((0 : Int32) ||| w235))])) tt
        refine XS.istore X229.here hx rfl (hb hby at_210) rfl (l' := #[.val (.int u0), .val (.int u1), .val (.int u2), .val (.int u3), .val (.int (own_t3 tn)), .val (.int (own_l5 ln)), .val (.int cc), .val (.int cd), .val (.ref b1), .val (.ref b102), .val (.ref b204), .val (.int ((0 : Int32) ||| w235))]) rfl ?_
        exact kk
      have hG1 : gg1 = own_G tn ln 1 := by rw [hgg1, hw235, own_G1 tn ln, own_G0]
      refine Goal.to (B := T229.setTop (mkF m 225 #[.val (.int u0), .val (.int u1), .val (.int u2), .val (.int u3), .val (.int (own_t3 tn)), .val (.int (own_l5 ln)), .val (.int cc), .val (.int cd), .val (.ref b1), .val (.ref b102), .val (.ref b204), .val (.int gg1)] [(.int (own_l5 ln)), (.int (own_t3 tn)), (.int (1 : Int32)), (.ref b102), (.ref b1), (.ref b204), (.int gg1)])) (fun tt kk => ?_) ?_
      · show Steps p.tables e below (T229.setTop (mkF m 212 #[.val (.int u0), .val (.int u1), .val (.int u2), .val (.int u3), .val (.int (own_t3 tn)), .val (.int (own_l5 ln)), .val (.int cc), .val (.int cd), .val (.ref b1), .val (.ref b102), .val (.ref b204), .val (.int gg1)] [])) tt
        refine XS.iload X229.here hx rfl (hb hby at_212) rfl ?_
        show Steps p.tables e below (T229.setTop (mkF m 214 #[.val (.int u0), .val (.int u1), .val (.int u2), .val (.int u3), .val (.int (own_t3 tn)), .val (.int (own_l5 ln)), .val (.int cc), .val (.int cd), .val (.ref b1), .val (.ref b102), .val (.ref b204), .val (.int gg1)] [(.int gg1)])) tt
        refine XS.aload X229.here hx rfl (hb hby at_214) rfl rfl ?_
        show Steps p.tables e below (T229.setTop (mkF m 216 #[.val (.int u0), .val (.int u1), .val (.int u2), .val (.int u3), .val (.int (own_t3 tn)), .val (.int (own_l5 ln)), .val (.int cc), .val (.int cd), .val (.ref b1), .val (.ref b102), .val (.ref b204), .val (.int gg1)] [(.ref b204), (.int gg1)])) tt
        refine XS.aload X229.here hx rfl (hb hby at_216) rfl rfl ?_
        show Steps p.tables e below (T229.setTop (mkF m 218 #[.val (.int u0), .val (.int u1), .val (.int u2), .val (.int u3), .val (.int (own_t3 tn)), .val (.int (own_l5 ln)), .val (.int cc), .val (.int cd), .val (.ref b1), .val (.ref b102), .val (.ref b204), .val (.int gg1)] [(.ref b1), (.ref b204), (.int gg1)])) tt
        refine XS.aload X229.here hx rfl (hb hby at_218) rfl rfl ?_
        show Steps p.tables e below (T229.setTop (mkF m 220 #[.val (.int u0), .val (.int u1), .val (.int u2), .val (.int u3), .val (.int (own_t3 tn)), .val (.int (own_l5 ln)), .val (.int cc), .val (.int cd), .val (.ref b1), .val (.ref b102), .val (.ref b204), .val (.int gg1)] [(.ref b102), (.ref b1), (.ref b204), (.int gg1)])) tt
        refine XS.iconst X229.here hx rfl (hb hby at_220) ?_
        show Steps p.tables e below (T229.setTop (mkF m 221 #[.val (.int u0), .val (.int u1), .val (.int u2), .val (.int u3), .val (.int (own_t3 tn)), .val (.int (own_l5 ln)), .val (.int cc), .val (.int cd), .val (.ref b1), .val (.ref b102), .val (.ref b204), .val (.int gg1)] [(.int (1 : Int32)), (.ref b102), (.ref b1), (.ref b204), (.int gg1)])) tt
        refine XS.iload X229.here hx rfl (hb hby at_221) rfl ?_
        show Steps p.tables e below (T229.setTop (mkF m 223 #[.val (.int u0), .val (.int u1), .val (.int u2), .val (.int u3), .val (.int (own_t3 tn)), .val (.int (own_l5 ln)), .val (.int cc), .val (.int cd), .val (.ref b1), .val (.ref b102), .val (.ref b204), .val (.int gg1)] [(.int (own_t3 tn)), (.int (1 : Int32)), (.ref b102), (.ref b1), (.ref b204), (.int gg1)])) tt
        refine XS.iload X229.here hx rfl (hb hby at_223) rfl ?_
        exact kk
      have f236 : Exa Z T229.heap b204 "com/example/tributary/tributary/runtime/Revisits" := (f225.keep K229)
      have f237 : Ary Z T229.heap b1 (.object "java/lang/Object") [(.ref b2), (.ref b18), (.ref b40), (.ref b68)] := (f226.keep K229 (ninS ne_b1_b204 nin0))
      have f238 : Ary Z T229.heap b102 (.object "java/lang/Object") [(.ref b112), (.ref b155)] := (f227.keep K229 (ninS ne_b102_b204 nin0))
      have f239 : n0 ≤ T229.heap.size := (Nat.le_trans f228 K229.1)
      obtain ⟨_, _, ⟨T240, L240, k240, n240⟩, -, X240, ⟨Lc240, hQ240, l240, y240, z240⟩, st240⟩ := Jvm.LawKit.callS X229 hx (y := (⟨"com/example/tributary/tributary/runtime/RevisitsSeenBeforePinLaw", "step", "(Lcom/example/tributary/tributary/runtime/Revisits;[Ljava/lang/Object;[Ljava/lang/Object;III)Z"⟩ : MethodName)) hown (mvT hZ (hw _ (mw 43 rfl))) (mvT hZ (hw _ (mw 44 rfl))) (mvT hZ (hw _ (mw 45 rfl))) (mvT hZ (hw _ (mw 46 rfl))) (by decide) (backOf (W := 1) (rmst l Z a0 hw [] b204 b1 b102 b2 b18 b40 b68 b155 (.ref b112) (own_kf tn ln 1) (own_Z tn ln 1).1 (own_Z tn ln 1).2.1 (own_Z tn ln 1).2.2 (1 : Int32) (own_t3 tn) (own_l5 ln) T229.heap n0 f239 f236 R230 R231 R232 R233 f237 f238 g_b204 rfl (own_kk1 tn ln) (own_l0 ln) hD) hZ (hw _ (mw 46 rfl)) (hw _ (mw 45 rfl)) (by decide) (by decide)) (g := (mkF m 225 #[.val (.int u0), .val (.int u1), .val (.int u2), .val (.int u3), .val (.int (own_t3 tn)), .val (.int (own_l5 ln)), .val (.int cc), .val (.int cd), .val (.ref b1), .val (.ref b102), .val (.ref b204), .val (.int gg1)] [(.int (own_l5 ln)), (.int (own_t3 tn)), (.int (1 : Int32)), (.ref b102), (.ref b1), (.ref b204), (.int gg1)])) rfl (by rw [hml]; rfl) (argsL := [(.ref b204), (.ref b1), (.ref b102), (.int (1 : Int32)), (.int (own_t3 tn)), (.int (own_l5 ln))]) (rest := [(.int gg1)]) (lenOf pd_6 rfl) rfl (by show 2 * 0 + _ ≤ _; exact Nat.le_of_eq rfl) (hb hby at_225) (fun _ _ => ⟨rfl, rfl, (by decide : 21 + 0 ≤ _), (by decide : 46 + 0 ≤ _)⟩)
      dsimp only [Pt.U, Pt.locs, Pt.cells, Pt.slots] at X240 l240 y240 z240 st240 hQ240
      subst y240 z240
      obtain ⟨rfl, N240q, K240, P240_0, P240_1, P240_2, P240_3⟩ := hQ240
      have N240 := Fr.eqv l240 (Fr.app N229 N240q)
      refine Goal.to (B := T240.setTop (mkF m 228 #[.val (.int u0), .val (.int u1), .val (.int u2), .val (.int u3), .val (.int (own_t3 tn)), .val (.int (own_l5 ln)), .val (.int cc), .val (.int cd), .val (.ref b1), .val (.ref b102), .val (.ref b204), .val (.int gg1)] [(.int (own_seen (own_Z tn ln 1).1 (own_kf tn ln 1))), (.int gg1)])) st240 ?_
      have R241 : Fld Z T240.heap b204 "com/example/tributary/tributary/runtime/Revisits" "markedLeft" "Ljava/lang/Object;" (own_ML b2 b18 b40 b68 (own_Z tn ln 2).1) := by rw [own_Zm2 tn ln]; exact P240_0
      have R242 : Fld Z T240.heap b204 "com/example/tributary/tributary/runtime/Revisits" "markedRight" "Ljava/lang/Object;" (own_MR (.ref b112) b155 (own_Z tn ln 2).1) := by rw [own_Zm2 tn ln]; exact P240_1
      have R243 : Fld Z T240.heap b204 "com/example/tributary/tributary/runtime/Revisits" "sinceMark" "J" (.long (own_Z tn ln 2).2.1) := by rw [own_Zs2 tn ln]; exact P240_2
      have R244 : Fld Z T240.heap b204 "com/example/tributary/tributary/runtime/Revisits" "markInterval" "J" (.long (own_Z tn ln 2).2.2) := by rw [own_Zi2 tn ln]; exact P240_3
      obtain ⟨w246, hw246⟩ : ∃ z : Int32, z = if (own_seen (own_Z tn ln 1).1 (own_kf tn ln 1)) = (0 : Int32) then (0 : Int32) else (2 : Int32) := ⟨_, rfl⟩
      refine Goal.to (B := T240.setTop (mkF m 236 #[.val (.int u0), .val (.int u1), .val (.int u2), .val (.int u3), .val (.int (own_t3 tn)), .val (.int (own_l5 ln)), .val (.int cc), .val (.int cd), .val (.ref b1), .val (.ref b102), .val (.ref b204), .val (.int gg1)] [(.int w246), (.int gg1)])) (fun tt kk => ?_) ?_
      · by_cases hc245 : (own_seen (own_Z tn ln 1).1 (own_kf tn ln 1)) = (0 : Int32)
        · have qw246 : w246 = (0 : Int32) := by rw [hw246, if_pos hc245]
          rw [qw246] at kk
          show Steps p.tables e below (T240.setTop (mkF m 228 #[.val (.int u0), .val (.int u1), .val (.int u2), .val (.int u3), .val (.int (own_t3 tn)), .val (.int (own_l5 ln)), .val (.int cc), .val (.int cd), .val (.ref b1), .val (.ref b102), .val (.ref b204), .val (.int gg1)] [(.int (own_seen (own_Z tn ln 1).1 (own_kf tn ln 1))), (.int gg1)])) tt
          refine XS.ifYes X240.here hx rfl (pc0 := 228) (pc' := 235) rfl (hb hby at_228) rfl ((if0 _ _).trans (teq hc245).1) (by decide) (by decide) ?_
          show Steps p.tables e below (T240.setTop (mkF m 235 #[.val (.int u0), .val (.int u1), .val (.int u2), .val (.int u3), .val (.int (own_t3 tn)), .val (.int (own_l5 ln)), .val (.int cc), .val (.int cd), .val (.ref b1), .val (.ref b102), .val (.ref b204), .val (.int gg1)] [(.int gg1)])) tt
          refine XS.iconst X240.here hx rfl (hb hby at_235) ?_
          exact kk
        · have qw246 : w246 = (2 : Int32) := by rw [hw246, if_neg hc245]
          rw [qw246] at kk
          show Steps p.tables e below (T240.setTop (mkF m 228 #[.val (.int u0), .val (.int u1), .val (.int u2), .val (.int u3), .val (.int (own_t3 tn)), .val (.int (own_l5 ln)), .val (.int cc), .val (.int cd), .val (.ref b1), .val (.ref b102), .val (.ref b204), .val (.int gg1)] [(.int (own_seen (own_Z tn ln 1).1 (own_kf tn ln 1))), (.int gg1)])) tt
          refine XS.ifNo X240.here hx rfl (hb hby at_228) rfl ((if0 _ _).trans (feq hc245).1) ?_
          show Steps p.tables e below (T240.setTop (mkF m 231 #[.val (.int u0), .val (.int u1), .val (.int u2), .val (.int u3), .val (.int (own_t3 tn)), .val (.int (own_l5 ln)), .val (.int cc), .val (.int cd), .val (.ref b1), .val (.ref b102), .val (.ref b204), .val (.int gg1)] [(.int gg1)])) tt
          refine XS.iconst X240.here hx rfl (hb hby at_231) ?_
          show Steps p.tables e below (T240.setTop (mkF m 232 #[.val (.int u0), .val (.int u1), .val (.int u2), .val (.int u3), .val (.int (own_t3 tn)), .val (.int (own_l5 ln)), .val (.int cc), .val (.int cd), .val (.ref b1), .val (.ref b102), .val (.ref b204), .val (.int gg1)] [(.int (2 : Int32)), (.int gg1)])) tt
          refine XS.goto X240.here hx rfl (pc0 := 232) (pc' := 236) rfl (hb hby at_232) (by decide) (by decide) ?_
          exact kk
      obtain ⟨gg2, hgg2⟩ : ∃ z : Int32, z = (gg1 ||| w246) := ⟨_, rfl⟩
      refine Goal.to (B := T240.setTop (mkF m 239 #[.val (.int u0), .val (.int u1), .val (.int u2), .val (.int u3), .val (.int (own_t3 tn)), .val (.int (own_l5 ln)), .val (.int cc), .val (.int cd), .val (.ref b1), .val (.ref b102), .val (.ref b204), .val (.int gg2)] [])) (fun tt kk => ?_) ?_
      · subst hgg2
        show Steps p.tables e below (T240.setTop (mkF m 236 #[.val (.int u0), .val (.int u1), .val (.int u2), .val (.int u3), .val (.int (own_t3 tn)), .val (.int (own_l5 ln)), .val (.int cc), .val (.int cd), .val (.ref b1), .val (.ref b102), .val (.ref b204), .val (.int gg1)] [(.int w246), (.int gg1)])) tt
        refine XS.ior X240.here hx rfl (hb hby at_236) rfl ?_
        show Steps p.tables e below (T240.setTop (mkF m 237 #[.val (.int u0), .val (.int u1), .val (.int u2), .val (.int u3), .val (.int (own_t3 tn)), .val (.int (own_l5 ln)), .val (.int cc), .val (.int cd), .val (.ref b1), .val (.ref b102), .val (.ref b204), .val (.int gg1)] [(.int (gg1 ||| w246))])) tt
        refine XS.istore X240.here hx rfl (hb hby at_237) rfl (l' := #[.val (.int u0), .val (.int u1), .val (.int u2), .val (.int u3), .val (.int (own_t3 tn)), .val (.int (own_l5 ln)), .val (.int cc), .val (.int cd), .val (.ref b1), .val (.ref b102), .val (.ref b204), .val (.int (gg1 ||| w246))]) rfl ?_
        exact kk
      have hG2 : gg2 = own_G tn ln 2 := by rw [hgg2, hw246, own_G2 tn ln, hG1]
      refine Goal.to (B := T240.setTop (mkF m 252 #[.val (.int u0), .val (.int u1), .val (.int u2), .val (.int u3), .val (.int (own_t3 tn)), .val (.int (own_l5 ln)), .val (.int cc), .val (.int cd), .val (.ref b1), .val (.ref b102), .val (.ref b204), .val (.int gg2)] [(.int (own_l5 ln)), (.int (own_t3 tn)), (.int (2 : Int32)), (.ref b102), (.ref b1), (.ref b204), (.int gg2)])) (fun tt kk => ?_) ?_
      · show Steps p.tables e below (T240.setTop (mkF m 239 #[.val (.int u0), .val (.int u1), .val (.int u2), .val (.int u3), .val (.int (own_t3 tn)), .val (.int (own_l5 ln)), .val (.int cc), .val (.int cd), .val (.ref b1), .val (.ref b102), .val (.ref b204), .val (.int gg2)] [])) tt
        refine XS.iload X240.here hx rfl (hb hby at_239) rfl ?_
        show Steps p.tables e below (T240.setTop (mkF m 241 #[.val (.int u0), .val (.int u1), .val (.int u2), .val (.int u3), .val (.int (own_t3 tn)), .val (.int (own_l5 ln)), .val (.int cc), .val (.int cd), .val (.ref b1), .val (.ref b102), .val (.ref b204), .val (.int gg2)] [(.int gg2)])) tt
        refine XS.aload X240.here hx rfl (hb hby at_241) rfl rfl ?_
        show Steps p.tables e below (T240.setTop (mkF m 243 #[.val (.int u0), .val (.int u1), .val (.int u2), .val (.int u3), .val (.int (own_t3 tn)), .val (.int (own_l5 ln)), .val (.int cc), .val (.int cd), .val (.ref b1), .val (.ref b102), .val (.ref b204), .val (.int gg2)] [(.ref b204), (.int gg2)])) tt
        refine XS.aload X240.here hx rfl (hb hby at_243) rfl rfl ?_
        show Steps p.tables e below (T240.setTop (mkF m 245 #[.val (.int u0), .val (.int u1), .val (.int u2), .val (.int u3), .val (.int (own_t3 tn)), .val (.int (own_l5 ln)), .val (.int cc), .val (.int cd), .val (.ref b1), .val (.ref b102), .val (.ref b204), .val (.int gg2)] [(.ref b1), (.ref b204), (.int gg2)])) tt
        refine XS.aload X240.here hx rfl (hb hby at_245) rfl rfl ?_
        show Steps p.tables e below (T240.setTop (mkF m 247 #[.val (.int u0), .val (.int u1), .val (.int u2), .val (.int u3), .val (.int (own_t3 tn)), .val (.int (own_l5 ln)), .val (.int cc), .val (.int cd), .val (.ref b1), .val (.ref b102), .val (.ref b204), .val (.int gg2)] [(.ref b102), (.ref b1), (.ref b204), (.int gg2)])) tt
        refine XS.iconst X240.here hx rfl (hb hby at_247) ?_
        show Steps p.tables e below (T240.setTop (mkF m 248 #[.val (.int u0), .val (.int u1), .val (.int u2), .val (.int u3), .val (.int (own_t3 tn)), .val (.int (own_l5 ln)), .val (.int cc), .val (.int cd), .val (.ref b1), .val (.ref b102), .val (.ref b204), .val (.int gg2)] [(.int (2 : Int32)), (.ref b102), (.ref b1), (.ref b204), (.int gg2)])) tt
        refine XS.iload X240.here hx rfl (hb hby at_248) rfl ?_
        show Steps p.tables e below (T240.setTop (mkF m 250 #[.val (.int u0), .val (.int u1), .val (.int u2), .val (.int u3), .val (.int (own_t3 tn)), .val (.int (own_l5 ln)), .val (.int cc), .val (.int cd), .val (.ref b1), .val (.ref b102), .val (.ref b204), .val (.int gg2)] [(.int (own_t3 tn)), (.int (2 : Int32)), (.ref b102), (.ref b1), (.ref b204), (.int gg2)])) tt
        refine XS.iload X240.here hx rfl (hb hby at_250) rfl ?_
        exact kk
      have f247 : Exa Z T240.heap b204 "com/example/tributary/tributary/runtime/Revisits" := (f236.keep K240)
      have f248 : Ary Z T240.heap b1 (.object "java/lang/Object") [(.ref b2), (.ref b18), (.ref b40), (.ref b68)] := (f237.keep K240 (ninS ne_b1_b204 nin0))
      have f249 : Ary Z T240.heap b102 (.object "java/lang/Object") [(.ref b112), (.ref b155)] := (f238.keep K240 (ninS ne_b102_b204 nin0))
      have f250 : n0 ≤ T240.heap.size := (Nat.le_trans f239 K240.1)
      obtain ⟨_, _, ⟨T251, L251, k251, n251⟩, -, X251, ⟨Lc251, hQ251, l251, y251, z251⟩, st251⟩ := Jvm.LawKit.callS X240 hx (y := (⟨"com/example/tributary/tributary/runtime/RevisitsSeenBeforePinLaw", "step", "(Lcom/example/tributary/tributary/runtime/Revisits;[Ljava/lang/Object;[Ljava/lang/Object;III)Z"⟩ : MethodName)) hown (mvT hZ (hw _ (mw 43 rfl))) (mvT hZ (hw _ (mw 44 rfl))) (mvT hZ (hw _ (mw 45 rfl))) (mvT hZ (hw _ (mw 46 rfl))) (by decide) (backOf (W := 1) (rmst l Z a0 hw [] b204 b1 b102 b2 b18 b40 b68 b155 (.ref b112) (own_kf tn ln 2) (own_Z tn ln 2).1 (own_Z tn ln 2).2.1 (own_Z tn ln 2).2.2 (2 : Int32) (own_t3 tn) (own_l5 ln) T240.heap n0 f250 f247 R241 R242 R243 R244 f248 f249 g_b204 rfl (own_kk2 tn ln) (own_l0 ln) hD) hZ (hw _ (mw 46 rfl)) (hw _ (mw 45 rfl)) (by decide) (by decide)) (g := (mkF m 252 #[.val (.int u0), .val (.int u1), .val (.int u2), .val (.int u3), .val (.int (own_t3 tn)), .val (.int (own_l5 ln)), .val (.int cc), .val (.int cd), .val (.ref b1), .val (.ref b102), .val (.ref b204), .val (.int gg2)] [(.int (own_l5 ln)), (.int (own_t3 tn)), (.int (2 : Int32)), (.ref b102), (.ref b1), (.ref b204), (.int gg2)])) rfl (by rw [hml]; rfl) (argsL := [(.ref b204), (.ref b1), (.ref b102), (.int (2 : Int32)), (.int (own_t3 tn)), (.int (own_l5 ln))]) (rest := [(.int gg2)]) (lenOf pd_6 rfl) rfl (by show 2 * 0 + _ ≤ _; exact Nat.le_of_eq rfl) (hb hby at_252) (fun _ _ => ⟨rfl, rfl, (by decide : 21 + 0 ≤ _), (by decide : 46 + 0 ≤ _)⟩)
      dsimp only [Pt.U, Pt.locs, Pt.cells, Pt.slots] at X251 l251 y251 z251 st251 hQ251
      subst y251 z251
      obtain ⟨rfl, N251q, K251, P251_0, P251_1, P251_2, P251_3⟩ := hQ251
      have N251 := Fr.eqv l251 (Fr.app N240 N251q)
      refine Goal.to (B := T251.setTop (mkF m 255 #[.val (.int u0), .val (.int u1), .val (.int u2), .val (.int u3), .val (.int (own_t3 tn)), .val (.int (own_l5 ln)), .val (.int cc), .val (.int cd), .val (.ref b1), .val (.ref b102), .val (.ref b204), .val (.int gg2)] [(.int (own_seen (own_Z tn ln 2).1 (own_kf tn ln 2))), (.int gg2)])) st251 ?_
      have R252 : Fld Z T251.heap b204 "com/example/tributary/tributary/runtime/Revisits" "markedLeft" "Ljava/lang/Object;" (own_ML b2 b18 b40 b68 (own_Z tn ln 3).1) := by rw [own_Zm3 tn ln]; exact P251_0
      have R253 : Fld Z T251.heap b204 "com/example/tributary/tributary/runtime/Revisits" "markedRight" "Ljava/lang/Object;" (own_MR (.ref b112) b155 (own_Z tn ln 3).1) := by rw [own_Zm3 tn ln]; exact P251_1
      have R254 : Fld Z T251.heap b204 "com/example/tributary/tributary/runtime/Revisits" "sinceMark" "J" (.long (own_Z tn ln 3).2.1) := by rw [own_Zs3 tn ln]; exact P251_2
      have R255 : Fld Z T251.heap b204 "com/example/tributary/tributary/runtime/Revisits" "markInterval" "J" (.long (own_Z tn ln 3).2.2) := by rw [own_Zi3 tn ln]; exact P251_3
      obtain ⟨w257, hw257⟩ : ∃ z : Int32, z = if (own_seen (own_Z tn ln 2).1 (own_kf tn ln 2)) = (0 : Int32) then (0 : Int32) else (4 : Int32) := ⟨_, rfl⟩
      refine Goal.to (B := T251.setTop (mkF m 263 #[.val (.int u0), .val (.int u1), .val (.int u2), .val (.int u3), .val (.int (own_t3 tn)), .val (.int (own_l5 ln)), .val (.int cc), .val (.int cd), .val (.ref b1), .val (.ref b102), .val (.ref b204), .val (.int gg2)] [(.int w257), (.int gg2)])) (fun tt kk => ?_) ?_
      · by_cases hc256 : (own_seen (own_Z tn ln 2).1 (own_kf tn ln 2)) = (0 : Int32)
        · have qw257 : w257 = (0 : Int32) := by rw [hw257, if_pos hc256]
          rw [qw257] at kk
          show Steps p.tables e below (T251.setTop (mkF m 255 #[.val (.int u0), .val (.int u1), .val (.int u2), .val (.int u3), .val (.int (own_t3 tn)), .val (.int (own_l5 ln)), .val (.int cc), .val (.int cd), .val (.ref b1), .val (.ref b102), .val (.ref b204), .val (.int gg2)] [(.int (own_seen (own_Z tn ln 2).1 (own_kf tn ln 2))), (.int gg2)])) tt
          refine XS.ifYes X251.here hx rfl (pc0 := 255) (pc' := 262) rfl (hb hby at_255) rfl ((if0 _ _).trans (teq hc256).1) (by decide) (by decide) ?_
          show Steps p.tables e below (T251.setTop (mkF m 262 #[.val (.int u0), .val (.int u1), .val (.int u2), .val (.int u3), .val (.int (own_t3 tn)), .val (.int (own_l5 ln)), .val (.int cc), .val (.int cd), .val (.ref b1), .val (.ref b102), .val (.ref b204), .val (.int gg2)] [(.int gg2)])) tt
          refine XS.iconst X251.here hx rfl (hb hby at_262) ?_
          exact kk
        · have qw257 : w257 = (4 : Int32) := by rw [hw257, if_neg hc256]
          rw [qw257] at kk
          show Steps p.tables e below (T251.setTop (mkF m 255 #[.val (.int u0), .val (.int u1), .val (.int u2), .val (.int u3), .val (.int (own_t3 tn)), .val (.int (own_l5 ln)), .val (.int cc), .val (.int cd), .val (.ref b1), .val (.ref b102), .val (.ref b204), .val (.int gg2)] [(.int (own_seen (own_Z tn ln 2).1 (own_kf tn ln 2))), (.int gg2)])) tt
          refine XS.ifNo X251.here hx rfl (hb hby at_255) rfl ((if0 _ _).trans (feq hc256).1) ?_
          show Steps p.tables e below (T251.setTop (mkF m 258 #[.val (.int u0), .val (.int u1), .val (.int u2), .val (.int u3), .val (.int (own_t3 tn)), .val (.int (own_l5 ln)), .val (.int cc), .val (.int cd), .val (.ref b1), .val (.ref b102), .val (.ref b204), .val (.int gg2)] [(.int gg2)])) tt
          refine XS.iconst X251.here hx rfl (hb hby at_258) ?_
          show Steps p.tables e below (T251.setTop (mkF m 259 #[.val (.int u0), .val (.int u1), .val (.int u2), .val (.int u3), .val (.int (own_t3 tn)), .val (.int (own_l5 ln)), .val (.int cc), .val (.int cd), .val (.ref b1), .val (.ref b102), .val (.ref b204), .val (.int gg2)] [(.int (4 : Int32)), (.int gg2)])) tt
          refine XS.goto X251.here hx rfl (pc0 := 259) (pc' := 263) rfl (hb hby at_259) (by decide) (by decide) ?_
          exact kk
      obtain ⟨gg3, hgg3⟩ : ∃ z : Int32, z = (gg2 ||| w257) := ⟨_, rfl⟩
      refine Goal.to (B := T251.setTop (mkF m 266 #[.val (.int u0), .val (.int u1), .val (.int u2), .val (.int u3), .val (.int (own_t3 tn)), .val (.int (own_l5 ln)), .val (.int cc), .val (.int cd), .val (.ref b1), .val (.ref b102), .val (.ref b204), .val (.int gg3)] [])) (fun tt kk => ?_) ?_
      · subst hgg3
        show Steps p.tables e below (T251.setTop (mkF m 263 #[.val (.int u0), .val (.int u1), .val (.int u2), .val (.int u3), .val (.int (own_t3 tn)), .val (.int (own_l5 ln)), .val (.int cc), .val (.int cd), .val (.ref b1), .val (.ref b102), .val (.ref b204), .val (.int gg2)] [(.int w257), (.int gg2)])) tt
        refine XS.ior X251.here hx rfl (hb hby at_263) rfl ?_
        show Steps p.tables e below (T251.setTop (mkF m 264 #[.val (.int u0), .val (.int u1), .val (.int u2), .val (.int u3), .val (.int (own_t3 tn)), .val (.int (own_l5 ln)), .val (.int cc), .val (.int cd), .val (.ref b1), .val (.ref b102), .val (.ref b204), .val (.int gg2)] [(.int (gg2 ||| w257))])) tt
        refine XS.istore X251.here hx rfl (hb hby at_264) rfl (l' := #[.val (.int u0), .val (.int u1), .val (.int u2), .val (.int u3), .val (.int (own_t3 tn)), .val (.int (own_l5 ln)), .val (.int cc), .val (.int cd), .val (.ref b1), .val (.ref b102), .val (.ref b204), .val (.int (gg2 ||| w257))]) rfl ?_
        exact kk
      have hG3 : gg3 = own_G tn ln 3 := by rw [hgg3, hw257, own_G3 tn ln, hG2]
      refine Goal.to (B := T251.setTop (mkF m 279 #[.val (.int u0), .val (.int u1), .val (.int u2), .val (.int u3), .val (.int (own_t3 tn)), .val (.int (own_l5 ln)), .val (.int cc), .val (.int cd), .val (.ref b1), .val (.ref b102), .val (.ref b204), .val (.int gg3)] [(.int (own_l5 ln)), (.int (own_t3 tn)), (.int (3 : Int32)), (.ref b102), (.ref b1), (.ref b204), (.int gg3)])) (fun tt kk => ?_) ?_
      · show Steps p.tables e below (T251.setTop (mkF m 266 #[.val (.int u0), .val (.int u1), .val (.int u2), .val (.int u3), .val (.int (own_t3 tn)), .val (.int (own_l5 ln)), .val (.int cc), .val (.int cd), .val (.ref b1), .val (.ref b102), .val (.ref b204), .val (.int gg3)] [])) tt
        refine XS.iload X251.here hx rfl (hb hby at_266) rfl ?_
        show Steps p.tables e below (T251.setTop (mkF m 268 #[.val (.int u0), .val (.int u1), .val (.int u2), .val (.int u3), .val (.int (own_t3 tn)), .val (.int (own_l5 ln)), .val (.int cc), .val (.int cd), .val (.ref b1), .val (.ref b102), .val (.ref b204), .val (.int gg3)] [(.int gg3)])) tt
        refine XS.aload X251.here hx rfl (hb hby at_268) rfl rfl ?_
        show Steps p.tables e below (T251.setTop (mkF m 270 #[.val (.int u0), .val (.int u1), .val (.int u2), .val (.int u3), .val (.int (own_t3 tn)), .val (.int (own_l5 ln)), .val (.int cc), .val (.int cd), .val (.ref b1), .val (.ref b102), .val (.ref b204), .val (.int gg3)] [(.ref b204), (.int gg3)])) tt
        refine XS.aload X251.here hx rfl (hb hby at_270) rfl rfl ?_
        show Steps p.tables e below (T251.setTop (mkF m 272 #[.val (.int u0), .val (.int u1), .val (.int u2), .val (.int u3), .val (.int (own_t3 tn)), .val (.int (own_l5 ln)), .val (.int cc), .val (.int cd), .val (.ref b1), .val (.ref b102), .val (.ref b204), .val (.int gg3)] [(.ref b1), (.ref b204), (.int gg3)])) tt
        refine XS.aload X251.here hx rfl (hb hby at_272) rfl rfl ?_
        show Steps p.tables e below (T251.setTop (mkF m 274 #[.val (.int u0), .val (.int u1), .val (.int u2), .val (.int u3), .val (.int (own_t3 tn)), .val (.int (own_l5 ln)), .val (.int cc), .val (.int cd), .val (.ref b1), .val (.ref b102), .val (.ref b204), .val (.int gg3)] [(.ref b102), (.ref b1), (.ref b204), (.int gg3)])) tt
        refine XS.iconst X251.here hx rfl (hb hby at_274) ?_
        show Steps p.tables e below (T251.setTop (mkF m 275 #[.val (.int u0), .val (.int u1), .val (.int u2), .val (.int u3), .val (.int (own_t3 tn)), .val (.int (own_l5 ln)), .val (.int cc), .val (.int cd), .val (.ref b1), .val (.ref b102), .val (.ref b204), .val (.int gg3)] [(.int (3 : Int32)), (.ref b102), (.ref b1), (.ref b204), (.int gg3)])) tt
        refine XS.iload X251.here hx rfl (hb hby at_275) rfl ?_
        show Steps p.tables e below (T251.setTop (mkF m 277 #[.val (.int u0), .val (.int u1), .val (.int u2), .val (.int u3), .val (.int (own_t3 tn)), .val (.int (own_l5 ln)), .val (.int cc), .val (.int cd), .val (.ref b1), .val (.ref b102), .val (.ref b204), .val (.int gg3)] [(.int (own_t3 tn)), (.int (3 : Int32)), (.ref b102), (.ref b1), (.ref b204), (.int gg3)])) tt
        refine XS.iload X251.here hx rfl (hb hby at_277) rfl ?_
        exact kk
      have f258 : Exa Z T251.heap b204 "com/example/tributary/tributary/runtime/Revisits" := (f247.keep K251)
      have f259 : Ary Z T251.heap b1 (.object "java/lang/Object") [(.ref b2), (.ref b18), (.ref b40), (.ref b68)] := (f248.keep K251 (ninS ne_b1_b204 nin0))
      have f260 : Ary Z T251.heap b102 (.object "java/lang/Object") [(.ref b112), (.ref b155)] := (f249.keep K251 (ninS ne_b102_b204 nin0))
      have f261 : n0 ≤ T251.heap.size := (Nat.le_trans f250 K251.1)
      obtain ⟨_, _, ⟨T262, L262, k262, n262⟩, -, X262, ⟨Lc262, hQ262, l262, y262, z262⟩, st262⟩ := Jvm.LawKit.callS X251 hx (y := (⟨"com/example/tributary/tributary/runtime/RevisitsSeenBeforePinLaw", "step", "(Lcom/example/tributary/tributary/runtime/Revisits;[Ljava/lang/Object;[Ljava/lang/Object;III)Z"⟩ : MethodName)) hown (mvT hZ (hw _ (mw 43 rfl))) (mvT hZ (hw _ (mw 44 rfl))) (mvT hZ (hw _ (mw 45 rfl))) (mvT hZ (hw _ (mw 46 rfl))) (by decide) (backOf (W := 1) (rmst l Z a0 hw [] b204 b1 b102 b2 b18 b40 b68 b155 (.ref b112) (own_kf tn ln 3) (own_Z tn ln 3).1 (own_Z tn ln 3).2.1 (own_Z tn ln 3).2.2 (3 : Int32) (own_t3 tn) (own_l5 ln) T251.heap n0 f261 f258 R252 R253 R254 R255 f259 f260 g_b204 rfl (own_kk3 tn ln) (own_l0 ln) hD) hZ (hw _ (mw 46 rfl)) (hw _ (mw 45 rfl)) (by decide) (by decide)) (g := (mkF m 279 #[.val (.int u0), .val (.int u1), .val (.int u2), .val (.int u3), .val (.int (own_t3 tn)), .val (.int (own_l5 ln)), .val (.int cc), .val (.int cd), .val (.ref b1), .val (.ref b102), .val (.ref b204), .val (.int gg3)] [(.int (own_l5 ln)), (.int (own_t3 tn)), (.int (3 : Int32)), (.ref b102), (.ref b1), (.ref b204), (.int gg3)])) rfl (by rw [hml]; rfl) (argsL := [(.ref b204), (.ref b1), (.ref b102), (.int (3 : Int32)), (.int (own_t3 tn)), (.int (own_l5 ln))]) (rest := [(.int gg3)]) (lenOf pd_6 rfl) rfl (by show 2 * 0 + _ ≤ _; exact Nat.le_of_eq rfl) (hb hby at_279) (fun _ _ => ⟨rfl, rfl, (by decide : 21 + 0 ≤ _), (by decide : 46 + 0 ≤ _)⟩)
      dsimp only [Pt.U, Pt.locs, Pt.cells, Pt.slots] at X262 l262 y262 z262 st262 hQ262
      subst y262 z262
      obtain ⟨rfl, N262q, K262, P262_0, P262_1, P262_2, P262_3⟩ := hQ262
      have N262 := Fr.eqv l262 (Fr.app N251 N262q)
      refine Goal.to (B := T262.setTop (mkF m 282 #[.val (.int u0), .val (.int u1), .val (.int u2), .val (.int u3), .val (.int (own_t3 tn)), .val (.int (own_l5 ln)), .val (.int cc), .val (.int cd), .val (.ref b1), .val (.ref b102), .val (.ref b204), .val (.int gg3)] [(.int (own_seen (own_Z tn ln 3).1 (own_kf tn ln 3))), (.int gg3)])) st262 ?_
      have R263 : Fld Z T262.heap b204 "com/example/tributary/tributary/runtime/Revisits" "markedLeft" "Ljava/lang/Object;" (own_ML b2 b18 b40 b68 (own_Z tn ln 4).1) := by rw [own_Zm4 tn ln]; exact P262_0
      have R264 : Fld Z T262.heap b204 "com/example/tributary/tributary/runtime/Revisits" "markedRight" "Ljava/lang/Object;" (own_MR (.ref b112) b155 (own_Z tn ln 4).1) := by rw [own_Zm4 tn ln]; exact P262_1
      have R265 : Fld Z T262.heap b204 "com/example/tributary/tributary/runtime/Revisits" "sinceMark" "J" (.long (own_Z tn ln 4).2.1) := by rw [own_Zs4 tn ln]; exact P262_2
      have R266 : Fld Z T262.heap b204 "com/example/tributary/tributary/runtime/Revisits" "markInterval" "J" (.long (own_Z tn ln 4).2.2) := by rw [own_Zi4 tn ln]; exact P262_3
      obtain ⟨w268, hw268⟩ : ∃ z : Int32, z = if (own_seen (own_Z tn ln 3).1 (own_kf tn ln 3)) = (0 : Int32) then (0 : Int32) else (8 : Int32) := ⟨_, rfl⟩
      refine Goal.to (B := T262.setTop (mkF m 291 #[.val (.int u0), .val (.int u1), .val (.int u2), .val (.int u3), .val (.int (own_t3 tn)), .val (.int (own_l5 ln)), .val (.int cc), .val (.int cd), .val (.ref b1), .val (.ref b102), .val (.ref b204), .val (.int gg3)] [(.int w268), (.int gg3)])) (fun tt kk => ?_) ?_
      · by_cases hc267 : (own_seen (own_Z tn ln 3).1 (own_kf tn ln 3)) = (0 : Int32)
        · have qw268 : w268 = (0 : Int32) := by rw [hw268, if_pos hc267]
          rw [qw268] at kk
          show Steps p.tables e below (T262.setTop (mkF m 282 #[.val (.int u0), .val (.int u1), .val (.int u2), .val (.int u3), .val (.int (own_t3 tn)), .val (.int (own_l5 ln)), .val (.int cc), .val (.int cd), .val (.ref b1), .val (.ref b102), .val (.ref b204), .val (.int gg3)] [(.int (own_seen (own_Z tn ln 3).1 (own_kf tn ln 3))), (.int gg3)])) tt
          refine XS.ifYes X262.here hx rfl (pc0 := 282) (pc' := 290) rfl (hb hby at_282) rfl ((if0 _ _).trans (teq hc267).1) (by decide) (by decide) ?_
          show Steps p.tables e below (T262.setTop (mkF m 290 #[.val (.int u0), .val (.int u1), .val (.int u2), .val (.int u3), .val (.int (own_t3 tn)), .val (.int (own_l5 ln)), .val (.int cc), .val (.int cd), .val (.ref b1), .val (.ref b102), .val (.ref b204), .val (.int gg3)] [(.int gg3)])) tt
          refine XS.iconst X262.here hx rfl (hb hby at_290) ?_
          exact kk
        · have qw268 : w268 = (8 : Int32) := by rw [hw268, if_neg hc267]
          rw [qw268] at kk
          show Steps p.tables e below (T262.setTop (mkF m 282 #[.val (.int u0), .val (.int u1), .val (.int u2), .val (.int u3), .val (.int (own_t3 tn)), .val (.int (own_l5 ln)), .val (.int cc), .val (.int cd), .val (.ref b1), .val (.ref b102), .val (.ref b204), .val (.int gg3)] [(.int (own_seen (own_Z tn ln 3).1 (own_kf tn ln 3))), (.int gg3)])) tt
          refine XS.ifNo X262.here hx rfl (hb hby at_282) rfl ((if0 _ _).trans (feq hc267).1) ?_
          show Steps p.tables e below (T262.setTop (mkF m 285 #[.val (.int u0), .val (.int u1), .val (.int u2), .val (.int u3), .val (.int (own_t3 tn)), .val (.int (own_l5 ln)), .val (.int cc), .val (.int cd), .val (.ref b1), .val (.ref b102), .val (.ref b204), .val (.int gg3)] [(.int gg3)])) tt
          refine XS.bipush X262.here hx rfl (hb hby at_285) ?_
          show Steps p.tables e below (T262.setTop (mkF m 287 #[.val (.int u0), .val (.int u1), .val (.int u2), .val (.int u3), .val (.int (own_t3 tn)), .val (.int (own_l5 ln)), .val (.int cc), .val (.int cd), .val (.ref b1), .val (.ref b102), .val (.ref b204), .val (.int gg3)] [(.int (8 : Int32)), (.int gg3)])) tt
          refine XS.goto X262.here hx rfl (pc0 := 287) (pc' := 291) rfl (hb hby at_287) (by decide) (by decide) ?_
          exact kk
      obtain ⟨gg4, hgg4⟩ : ∃ z : Int32, z = (gg3 ||| w268) := ⟨_, rfl⟩
      refine Goal.to (B := T262.setTop (mkF m 294 #[.val (.int u0), .val (.int u1), .val (.int u2), .val (.int u3), .val (.int (own_t3 tn)), .val (.int (own_l5 ln)), .val (.int cc), .val (.int cd), .val (.ref b1), .val (.ref b102), .val (.ref b204), .val (.int gg4)] [])) (fun tt kk => ?_) ?_
      · subst hgg4
        show Steps p.tables e below (T262.setTop (mkF m 291 #[.val (.int u0), .val (.int u1), .val (.int u2), .val (.int u3), .val (.int (own_t3 tn)), .val (.int (own_l5 ln)), .val (.int cc), .val (.int cd), .val (.ref b1), .val (.ref b102), .val (.ref b204), .val (.int gg3)] [(.int w268), (.int gg3)])) tt
        refine XS.ior X262.here hx rfl (hb hby at_291) rfl ?_
        show Steps p.tables e below (T262.setTop (mkF m 292 #[.val (.int u0), .val (.int u1), .val (.int u2), .val (.int u3), .val (.int (own_t3 tn)), .val (.int (own_l5 ln)), .val (.int cc), .val (.int cd), .val (.ref b1), .val (.ref b102), .val (.ref b204), .val (.int gg3)] [(.int (gg3 ||| w268))])) tt
        refine XS.istore X262.here hx rfl (hb hby at_292) rfl (l' := #[.val (.int u0), .val (.int u1), .val (.int u2), .val (.int u3), .val (.int (own_t3 tn)), .val (.int (own_l5 ln)), .val (.int cc), .val (.int cd), .val (.ref b1), .val (.ref b102), .val (.ref b204), .val (.int (gg3 ||| w268))]) rfl ?_
        exact kk
      have hG4 : gg4 = own_G tn ln 4 := by rw [hgg4, hw268, own_G4 tn ln, hG3]
      refine Goal.to (B := T262.setTop (mkF m 307 #[.val (.int u0), .val (.int u1), .val (.int u2), .val (.int u3), .val (.int (own_t3 tn)), .val (.int (own_l5 ln)), .val (.int cc), .val (.int cd), .val (.ref b1), .val (.ref b102), .val (.ref b204), .val (.int gg4)] [(.int (own_l5 ln)), (.int (own_t3 tn)), (.int (4 : Int32)), (.ref b102), (.ref b1), (.ref b204), (.int gg4)])) (fun tt kk => ?_) ?_
      · show Steps p.tables e below (T262.setTop (mkF m 294 #[.val (.int u0), .val (.int u1), .val (.int u2), .val (.int u3), .val (.int (own_t3 tn)), .val (.int (own_l5 ln)), .val (.int cc), .val (.int cd), .val (.ref b1), .val (.ref b102), .val (.ref b204), .val (.int gg4)] [])) tt
        refine XS.iload X262.here hx rfl (hb hby at_294) rfl ?_
        show Steps p.tables e below (T262.setTop (mkF m 296 #[.val (.int u0), .val (.int u1), .val (.int u2), .val (.int u3), .val (.int (own_t3 tn)), .val (.int (own_l5 ln)), .val (.int cc), .val (.int cd), .val (.ref b1), .val (.ref b102), .val (.ref b204), .val (.int gg4)] [(.int gg4)])) tt
        refine XS.aload X262.here hx rfl (hb hby at_296) rfl rfl ?_
        show Steps p.tables e below (T262.setTop (mkF m 298 #[.val (.int u0), .val (.int u1), .val (.int u2), .val (.int u3), .val (.int (own_t3 tn)), .val (.int (own_l5 ln)), .val (.int cc), .val (.int cd), .val (.ref b1), .val (.ref b102), .val (.ref b204), .val (.int gg4)] [(.ref b204), (.int gg4)])) tt
        refine XS.aload X262.here hx rfl (hb hby at_298) rfl rfl ?_
        show Steps p.tables e below (T262.setTop (mkF m 300 #[.val (.int u0), .val (.int u1), .val (.int u2), .val (.int u3), .val (.int (own_t3 tn)), .val (.int (own_l5 ln)), .val (.int cc), .val (.int cd), .val (.ref b1), .val (.ref b102), .val (.ref b204), .val (.int gg4)] [(.ref b1), (.ref b204), (.int gg4)])) tt
        refine XS.aload X262.here hx rfl (hb hby at_300) rfl rfl ?_
        show Steps p.tables e below (T262.setTop (mkF m 302 #[.val (.int u0), .val (.int u1), .val (.int u2), .val (.int u3), .val (.int (own_t3 tn)), .val (.int (own_l5 ln)), .val (.int cc), .val (.int cd), .val (.ref b1), .val (.ref b102), .val (.ref b204), .val (.int gg4)] [(.ref b102), (.ref b1), (.ref b204), (.int gg4)])) tt
        refine XS.iconst X262.here hx rfl (hb hby at_302) ?_
        show Steps p.tables e below (T262.setTop (mkF m 303 #[.val (.int u0), .val (.int u1), .val (.int u2), .val (.int u3), .val (.int (own_t3 tn)), .val (.int (own_l5 ln)), .val (.int cc), .val (.int cd), .val (.ref b1), .val (.ref b102), .val (.ref b204), .val (.int gg4)] [(.int (4 : Int32)), (.ref b102), (.ref b1), (.ref b204), (.int gg4)])) tt
        refine XS.iload X262.here hx rfl (hb hby at_303) rfl ?_
        show Steps p.tables e below (T262.setTop (mkF m 305 #[.val (.int u0), .val (.int u1), .val (.int u2), .val (.int u3), .val (.int (own_t3 tn)), .val (.int (own_l5 ln)), .val (.int cc), .val (.int cd), .val (.ref b1), .val (.ref b102), .val (.ref b204), .val (.int gg4)] [(.int (own_t3 tn)), (.int (4 : Int32)), (.ref b102), (.ref b1), (.ref b204), (.int gg4)])) tt
        refine XS.iload X262.here hx rfl (hb hby at_305) rfl ?_
        exact kk
      have f269 : Exa Z T262.heap b204 "com/example/tributary/tributary/runtime/Revisits" := (f258.keep K262)
      have f270 : Ary Z T262.heap b1 (.object "java/lang/Object") [(.ref b2), (.ref b18), (.ref b40), (.ref b68)] := (f259.keep K262 (ninS ne_b1_b204 nin0))
      have f271 : Ary Z T262.heap b102 (.object "java/lang/Object") [(.ref b112), (.ref b155)] := (f260.keep K262 (ninS ne_b102_b204 nin0))
      have f272 : n0 ≤ T262.heap.size := (Nat.le_trans f261 K262.1)
      obtain ⟨_, _, ⟨T273, L273, k273, n273⟩, -, X273, ⟨Lc273, hQ273, l273, y273, z273⟩, st273⟩ := Jvm.LawKit.callS X262 hx (y := (⟨"com/example/tributary/tributary/runtime/RevisitsSeenBeforePinLaw", "step", "(Lcom/example/tributary/tributary/runtime/Revisits;[Ljava/lang/Object;[Ljava/lang/Object;III)Z"⟩ : MethodName)) hown (mvT hZ (hw _ (mw 43 rfl))) (mvT hZ (hw _ (mw 44 rfl))) (mvT hZ (hw _ (mw 45 rfl))) (mvT hZ (hw _ (mw 46 rfl))) (by decide) (backOf (W := 1) (rmst l Z a0 hw [] b204 b1 b102 b2 b18 b40 b68 b155 (.ref b112) (own_kf tn ln 4) (own_Z tn ln 4).1 (own_Z tn ln 4).2.1 (own_Z tn ln 4).2.2 (4 : Int32) (own_t3 tn) (own_l5 ln) T262.heap n0 f272 f269 R263 R264 R265 R266 f270 f271 g_b204 rfl (own_kk4 tn ln) (own_l0 ln) hD) hZ (hw _ (mw 46 rfl)) (hw _ (mw 45 rfl)) (by decide) (by decide)) (g := (mkF m 307 #[.val (.int u0), .val (.int u1), .val (.int u2), .val (.int u3), .val (.int (own_t3 tn)), .val (.int (own_l5 ln)), .val (.int cc), .val (.int cd), .val (.ref b1), .val (.ref b102), .val (.ref b204), .val (.int gg4)] [(.int (own_l5 ln)), (.int (own_t3 tn)), (.int (4 : Int32)), (.ref b102), (.ref b1), (.ref b204), (.int gg4)])) rfl (by rw [hml]; rfl) (argsL := [(.ref b204), (.ref b1), (.ref b102), (.int (4 : Int32)), (.int (own_t3 tn)), (.int (own_l5 ln))]) (rest := [(.int gg4)]) (lenOf pd_6 rfl) rfl (by show 2 * 0 + _ ≤ _; exact Nat.le_of_eq rfl) (hb hby at_307) (fun _ _ => ⟨rfl, rfl, (by decide : 21 + 0 ≤ _), (by decide : 46 + 0 ≤ _)⟩)
      dsimp only [Pt.U, Pt.locs, Pt.cells, Pt.slots] at X273 l273 y273 z273 st273 hQ273
      subst y273 z273
      obtain ⟨rfl, N273q, K273, P273_0, P273_1, P273_2, P273_3⟩ := hQ273
      have N273 := Fr.eqv l273 (Fr.app N262 N273q)
      refine Goal.to (B := T273.setTop (mkF m 310 #[.val (.int u0), .val (.int u1), .val (.int u2), .val (.int u3), .val (.int (own_t3 tn)), .val (.int (own_l5 ln)), .val (.int cc), .val (.int cd), .val (.ref b1), .val (.ref b102), .val (.ref b204), .val (.int gg4)] [(.int (own_seen (own_Z tn ln 4).1 (own_kf tn ln 4))), (.int gg4)])) st273 ?_
      have R274 : Fld Z T273.heap b204 "com/example/tributary/tributary/runtime/Revisits" "markedLeft" "Ljava/lang/Object;" (own_ML b2 b18 b40 b68 (own_Z tn ln 5).1) := by rw [own_Zm5 tn ln]; exact P273_0
      have R275 : Fld Z T273.heap b204 "com/example/tributary/tributary/runtime/Revisits" "markedRight" "Ljava/lang/Object;" (own_MR (.ref b112) b155 (own_Z tn ln 5).1) := by rw [own_Zm5 tn ln]; exact P273_1
      have R276 : Fld Z T273.heap b204 "com/example/tributary/tributary/runtime/Revisits" "sinceMark" "J" (.long (own_Z tn ln 5).2.1) := by rw [own_Zs5 tn ln]; exact P273_2
      have R277 : Fld Z T273.heap b204 "com/example/tributary/tributary/runtime/Revisits" "markInterval" "J" (.long (own_Z tn ln 5).2.2) := by rw [own_Zi5 tn ln]; exact P273_3
      obtain ⟨w279, hw279⟩ : ∃ z : Int32, z = if (own_seen (own_Z tn ln 4).1 (own_kf tn ln 4)) = (0 : Int32) then (0 : Int32) else (16 : Int32) := ⟨_, rfl⟩
      refine Goal.to (B := T273.setTop (mkF m 319 #[.val (.int u0), .val (.int u1), .val (.int u2), .val (.int u3), .val (.int (own_t3 tn)), .val (.int (own_l5 ln)), .val (.int cc), .val (.int cd), .val (.ref b1), .val (.ref b102), .val (.ref b204), .val (.int gg4)] [(.int w279), (.int gg4)])) (fun tt kk => ?_) ?_
      · by_cases hc278 : (own_seen (own_Z tn ln 4).1 (own_kf tn ln 4)) = (0 : Int32)
        · have qw279 : w279 = (0 : Int32) := by rw [hw279, if_pos hc278]
          rw [qw279] at kk
          show Steps p.tables e below (T273.setTop (mkF m 310 #[.val (.int u0), .val (.int u1), .val (.int u2), .val (.int u3), .val (.int (own_t3 tn)), .val (.int (own_l5 ln)), .val (.int cc), .val (.int cd), .val (.ref b1), .val (.ref b102), .val (.ref b204), .val (.int gg4)] [(.int (own_seen (own_Z tn ln 4).1 (own_kf tn ln 4))), (.int gg4)])) tt
          refine XS.ifYes X273.here hx rfl (pc0 := 310) (pc' := 318) rfl (hb hby at_310) rfl ((if0 _ _).trans (teq hc278).1) (by decide) (by decide) ?_
          show Steps p.tables e below (T273.setTop (mkF m 318 #[.val (.int u0), .val (.int u1), .val (.int u2), .val (.int u3), .val (.int (own_t3 tn)), .val (.int (own_l5 ln)), .val (.int cc), .val (.int cd), .val (.ref b1), .val (.ref b102), .val (.ref b204), .val (.int gg4)] [(.int gg4)])) tt
          refine XS.iconst X273.here hx rfl (hb hby at_318) ?_
          exact kk
        · have qw279 : w279 = (16 : Int32) := by rw [hw279, if_neg hc278]
          rw [qw279] at kk
          show Steps p.tables e below (T273.setTop (mkF m 310 #[.val (.int u0), .val (.int u1), .val (.int u2), .val (.int u3), .val (.int (own_t3 tn)), .val (.int (own_l5 ln)), .val (.int cc), .val (.int cd), .val (.ref b1), .val (.ref b102), .val (.ref b204), .val (.int gg4)] [(.int (own_seen (own_Z tn ln 4).1 (own_kf tn ln 4))), (.int gg4)])) tt
          refine XS.ifNo X273.here hx rfl (hb hby at_310) rfl ((if0 _ _).trans (feq hc278).1) ?_
          show Steps p.tables e below (T273.setTop (mkF m 313 #[.val (.int u0), .val (.int u1), .val (.int u2), .val (.int u3), .val (.int (own_t3 tn)), .val (.int (own_l5 ln)), .val (.int cc), .val (.int cd), .val (.ref b1), .val (.ref b102), .val (.ref b204), .val (.int gg4)] [(.int gg4)])) tt
          refine XS.bipush X273.here hx rfl (hb hby at_313) ?_
          show Steps p.tables e below (T273.setTop (mkF m 315 #[.val (.int u0), .val (.int u1), .val (.int u2), .val (.int u3), .val (.int (own_t3 tn)), .val (.int (own_l5 ln)), .val (.int cc), .val (.int cd), .val (.ref b1), .val (.ref b102), .val (.ref b204), .val (.int gg4)] [(.int (16 : Int32)), (.int gg4)])) tt
          refine XS.goto X273.here hx rfl (pc0 := 315) (pc' := 319) rfl (hb hby at_315) (by decide) (by decide) ?_
          exact kk
      obtain ⟨gg5, hgg5⟩ : ∃ z : Int32, z = (gg4 ||| w279) := ⟨_, rfl⟩
      refine Goal.to (B := T273.setTop (mkF m 322 #[.val (.int u0), .val (.int u1), .val (.int u2), .val (.int u3), .val (.int (own_t3 tn)), .val (.int (own_l5 ln)), .val (.int cc), .val (.int cd), .val (.ref b1), .val (.ref b102), .val (.ref b204), .val (.int gg5)] [])) (fun tt kk => ?_) ?_
      · subst hgg5
        show Steps p.tables e below (T273.setTop (mkF m 319 #[.val (.int u0), .val (.int u1), .val (.int u2), .val (.int u3), .val (.int (own_t3 tn)), .val (.int (own_l5 ln)), .val (.int cc), .val (.int cd), .val (.ref b1), .val (.ref b102), .val (.ref b204), .val (.int gg4)] [(.int w279), (.int gg4)])) tt
        refine XS.ior X273.here hx rfl (hb hby at_319) rfl ?_
        show Steps p.tables e below (T273.setTop (mkF m 320 #[.val (.int u0), .val (.int u1), .val (.int u2), .val (.int u3), .val (.int (own_t3 tn)), .val (.int (own_l5 ln)), .val (.int cc), .val (.int cd), .val (.ref b1), .val (.ref b102), .val (.ref b204), .val (.int gg4)] [(.int (gg4 ||| w279))])) tt
        refine XS.istore X273.here hx rfl (hb hby at_320) rfl (l' := #[.val (.int u0), .val (.int u1), .val (.int u2), .val (.int u3), .val (.int (own_t3 tn)), .val (.int (own_l5 ln)), .val (.int cc), .val (.int cd), .val (.ref b1), .val (.ref b102), .val (.ref b204), .val (.int (gg4 ||| w279))]) rfl ?_
        exact kk
      have hG5 : gg5 = own_G tn ln 5 := by rw [hgg5, hw279, own_G5 tn ln, hG4]
      refine Goal.to (B := T273.setTop (mkF m 335 #[.val (.int u0), .val (.int u1), .val (.int u2), .val (.int u3), .val (.int (own_t3 tn)), .val (.int (own_l5 ln)), .val (.int cc), .val (.int cd), .val (.ref b1), .val (.ref b102), .val (.ref b204), .val (.int gg5)] [(.int (own_l5 ln)), (.int (own_t3 tn)), (.int (5 : Int32)), (.ref b102), (.ref b1), (.ref b204), (.int gg5)])) (fun tt kk => ?_) ?_
      · show Steps p.tables e below (T273.setTop (mkF m 322 #[.val (.int u0), .val (.int u1), .val (.int u2), .val (.int u3), .val (.int (own_t3 tn)), .val (.int (own_l5 ln)), .val (.int cc), .val (.int cd), .val (.ref b1), .val (.ref b102), .val (.ref b204), .val (.int gg5)] [])) tt
        refine XS.iload X273.here hx rfl (hb hby at_322) rfl ?_
        show Steps p.tables e below (T273.setTop (mkF m 324 #[.val (.int u0), .val (.int u1), .val (.int u2), .val (.int u3), .val (.int (own_t3 tn)), .val (.int (own_l5 ln)), .val (.int cc), .val (.int cd), .val (.ref b1), .val (.ref b102), .val (.ref b204), .val (.int gg5)] [(.int gg5)])) tt
        refine XS.aload X273.here hx rfl (hb hby at_324) rfl rfl ?_
        show Steps p.tables e below (T273.setTop (mkF m 326 #[.val (.int u0), .val (.int u1), .val (.int u2), .val (.int u3), .val (.int (own_t3 tn)), .val (.int (own_l5 ln)), .val (.int cc), .val (.int cd), .val (.ref b1), .val (.ref b102), .val (.ref b204), .val (.int gg5)] [(.ref b204), (.int gg5)])) tt
        refine XS.aload X273.here hx rfl (hb hby at_326) rfl rfl ?_
        show Steps p.tables e below (T273.setTop (mkF m 328 #[.val (.int u0), .val (.int u1), .val (.int u2), .val (.int u3), .val (.int (own_t3 tn)), .val (.int (own_l5 ln)), .val (.int cc), .val (.int cd), .val (.ref b1), .val (.ref b102), .val (.ref b204), .val (.int gg5)] [(.ref b1), (.ref b204), (.int gg5)])) tt
        refine XS.aload X273.here hx rfl (hb hby at_328) rfl rfl ?_
        show Steps p.tables e below (T273.setTop (mkF m 330 #[.val (.int u0), .val (.int u1), .val (.int u2), .val (.int u3), .val (.int (own_t3 tn)), .val (.int (own_l5 ln)), .val (.int cc), .val (.int cd), .val (.ref b1), .val (.ref b102), .val (.ref b204), .val (.int gg5)] [(.ref b102), (.ref b1), (.ref b204), (.int gg5)])) tt
        refine XS.iconst X273.here hx rfl (hb hby at_330) ?_
        show Steps p.tables e below (T273.setTop (mkF m 331 #[.val (.int u0), .val (.int u1), .val (.int u2), .val (.int u3), .val (.int (own_t3 tn)), .val (.int (own_l5 ln)), .val (.int cc), .val (.int cd), .val (.ref b1), .val (.ref b102), .val (.ref b204), .val (.int gg5)] [(.int (5 : Int32)), (.ref b102), (.ref b1), (.ref b204), (.int gg5)])) tt
        refine XS.iload X273.here hx rfl (hb hby at_331) rfl ?_
        show Steps p.tables e below (T273.setTop (mkF m 333 #[.val (.int u0), .val (.int u1), .val (.int u2), .val (.int u3), .val (.int (own_t3 tn)), .val (.int (own_l5 ln)), .val (.int cc), .val (.int cd), .val (.ref b1), .val (.ref b102), .val (.ref b204), .val (.int gg5)] [(.int (own_t3 tn)), (.int (5 : Int32)), (.ref b102), (.ref b1), (.ref b204), (.int gg5)])) tt
        refine XS.iload X273.here hx rfl (hb hby at_333) rfl ?_
        exact kk
      have f280 : Exa Z T273.heap b204 "com/example/tributary/tributary/runtime/Revisits" := (f269.keep K273)
      have f281 : Ary Z T273.heap b1 (.object "java/lang/Object") [(.ref b2), (.ref b18), (.ref b40), (.ref b68)] := (f270.keep K273 (ninS ne_b1_b204 nin0))
      have f282 : Ary Z T273.heap b102 (.object "java/lang/Object") [(.ref b112), (.ref b155)] := (f271.keep K273 (ninS ne_b102_b204 nin0))
      have f283 : n0 ≤ T273.heap.size := (Nat.le_trans f272 K273.1)
      obtain ⟨_, _, ⟨T284, L284, k284, n284⟩, -, X284, ⟨Lc284, hQ284, l284, y284, z284⟩, st284⟩ := Jvm.LawKit.callS X273 hx (y := (⟨"com/example/tributary/tributary/runtime/RevisitsSeenBeforePinLaw", "step", "(Lcom/example/tributary/tributary/runtime/Revisits;[Ljava/lang/Object;[Ljava/lang/Object;III)Z"⟩ : MethodName)) hown (mvT hZ (hw _ (mw 43 rfl))) (mvT hZ (hw _ (mw 44 rfl))) (mvT hZ (hw _ (mw 45 rfl))) (mvT hZ (hw _ (mw 46 rfl))) (by decide) (backOf (W := 1) (rmst l Z a0 hw [] b204 b1 b102 b2 b18 b40 b68 b155 (.ref b112) (own_kf tn ln 5) (own_Z tn ln 5).1 (own_Z tn ln 5).2.1 (own_Z tn ln 5).2.2 (5 : Int32) (own_t3 tn) (own_l5 ln) T273.heap n0 f283 f280 R274 R275 R276 R277 f281 f282 g_b204 rfl (own_kk5 tn ln) (own_l0 ln) hD) hZ (hw _ (mw 46 rfl)) (hw _ (mw 45 rfl)) (by decide) (by decide)) (g := (mkF m 335 #[.val (.int u0), .val (.int u1), .val (.int u2), .val (.int u3), .val (.int (own_t3 tn)), .val (.int (own_l5 ln)), .val (.int cc), .val (.int cd), .val (.ref b1), .val (.ref b102), .val (.ref b204), .val (.int gg5)] [(.int (own_l5 ln)), (.int (own_t3 tn)), (.int (5 : Int32)), (.ref b102), (.ref b1), (.ref b204), (.int gg5)])) rfl (by rw [hml]; rfl) (argsL := [(.ref b204), (.ref b1), (.ref b102), (.int (5 : Int32)), (.int (own_t3 tn)), (.int (own_l5 ln))]) (rest := [(.int gg5)]) (lenOf pd_6 rfl) rfl (by show 2 * 0 + _ ≤ _; exact Nat.le_of_eq rfl) (hb hby at_335) (fun _ _ => ⟨rfl, rfl, (by decide : 21 + 0 ≤ _), (by decide : 46 + 0 ≤ _)⟩)
      dsimp only [Pt.U, Pt.locs, Pt.cells, Pt.slots] at X284 l284 y284 z284 st284 hQ284
      subst y284 z284
      obtain ⟨rfl, N284q, K284, P284_0, P284_1, P284_2, P284_3⟩ := hQ284
      have N284 := Fr.eqv l284 (Fr.app N273 N284q)
      refine Goal.to (B := T284.setTop (mkF m 338 #[.val (.int u0), .val (.int u1), .val (.int u2), .val (.int u3), .val (.int (own_t3 tn)), .val (.int (own_l5 ln)), .val (.int cc), .val (.int cd), .val (.ref b1), .val (.ref b102), .val (.ref b204), .val (.int gg5)] [(.int (own_seen (own_Z tn ln 5).1 (own_kf tn ln 5))), (.int gg5)])) st284 ?_
      have R285 : Fld Z T284.heap b204 "com/example/tributary/tributary/runtime/Revisits" "markedLeft" "Ljava/lang/Object;" (own_ML b2 b18 b40 b68 (own_Z tn ln 6).1) := by rw [own_Zm6 tn ln]; exact P284_0
      have R286 : Fld Z T284.heap b204 "com/example/tributary/tributary/runtime/Revisits" "markedRight" "Ljava/lang/Object;" (own_MR (.ref b112) b155 (own_Z tn ln 6).1) := by rw [own_Zm6 tn ln]; exact P284_1
      have R287 : Fld Z T284.heap b204 "com/example/tributary/tributary/runtime/Revisits" "sinceMark" "J" (.long (own_Z tn ln 6).2.1) := by rw [own_Zs6 tn ln]; exact P284_2
      have R288 : Fld Z T284.heap b204 "com/example/tributary/tributary/runtime/Revisits" "markInterval" "J" (.long (own_Z tn ln 6).2.2) := by rw [own_Zi6 tn ln]; exact P284_3
      obtain ⟨w290, hw290⟩ : ∃ z : Int32, z = if (own_seen (own_Z tn ln 5).1 (own_kf tn ln 5)) = (0 : Int32) then (0 : Int32) else (32 : Int32) := ⟨_, rfl⟩
      refine Goal.to (B := T284.setTop (mkF m 347 #[.val (.int u0), .val (.int u1), .val (.int u2), .val (.int u3), .val (.int (own_t3 tn)), .val (.int (own_l5 ln)), .val (.int cc), .val (.int cd), .val (.ref b1), .val (.ref b102), .val (.ref b204), .val (.int gg5)] [(.int w290), (.int gg5)])) (fun tt kk => ?_) ?_
      · by_cases hc289 : (own_seen (own_Z tn ln 5).1 (own_kf tn ln 5)) = (0 : Int32)
        · have qw290 : w290 = (0 : Int32) := by rw [hw290, if_pos hc289]
          rw [qw290] at kk
          show Steps p.tables e below (T284.setTop (mkF m 338 #[.val (.int u0), .val (.int u1), .val (.int u2), .val (.int u3), .val (.int (own_t3 tn)), .val (.int (own_l5 ln)), .val (.int cc), .val (.int cd), .val (.ref b1), .val (.ref b102), .val (.ref b204), .val (.int gg5)] [(.int (own_seen (own_Z tn ln 5).1 (own_kf tn ln 5))), (.int gg5)])) tt
          refine XS.ifYes X284.here hx rfl (pc0 := 338) (pc' := 346) rfl (hb hby at_338) rfl ((if0 _ _).trans (teq hc289).1) (by decide) (by decide) ?_
          show Steps p.tables e below (T284.setTop (mkF m 346 #[.val (.int u0), .val (.int u1), .val (.int u2), .val (.int u3), .val (.int (own_t3 tn)), .val (.int (own_l5 ln)), .val (.int cc), .val (.int cd), .val (.ref b1), .val (.ref b102), .val (.ref b204), .val (.int gg5)] [(.int gg5)])) tt
          refine XS.iconst X284.here hx rfl (hb hby at_346) ?_
          exact kk
        · have qw290 : w290 = (32 : Int32) := by rw [hw290, if_neg hc289]
          rw [qw290] at kk
          show Steps p.tables e below (T284.setTop (mkF m 338 #[.val (.int u0), .val (.int u1), .val (.int u2), .val (.int u3), .val (.int (own_t3 tn)), .val (.int (own_l5 ln)), .val (.int cc), .val (.int cd), .val (.ref b1), .val (.ref b102), .val (.ref b204), .val (.int gg5)] [(.int (own_seen (own_Z tn ln 5).1 (own_kf tn ln 5))), (.int gg5)])) tt
          refine XS.ifNo X284.here hx rfl (hb hby at_338) rfl ((if0 _ _).trans (feq hc289).1) ?_
          show Steps p.tables e below (T284.setTop (mkF m 341 #[.val (.int u0), .val (.int u1), .val (.int u2), .val (.int u3), .val (.int (own_t3 tn)), .val (.int (own_l5 ln)), .val (.int cc), .val (.int cd), .val (.ref b1), .val (.ref b102), .val (.ref b204), .val (.int gg5)] [(.int gg5)])) tt
          refine XS.bipush X284.here hx rfl (hb hby at_341) ?_
          show Steps p.tables e below (T284.setTop (mkF m 343 #[.val (.int u0), .val (.int u1), .val (.int u2), .val (.int u3), .val (.int (own_t3 tn)), .val (.int (own_l5 ln)), .val (.int cc), .val (.int cd), .val (.ref b1), .val (.ref b102), .val (.ref b204), .val (.int gg5)] [(.int (32 : Int32)), (.int gg5)])) tt
          refine XS.goto X284.here hx rfl (pc0 := 343) (pc' := 347) rfl (hb hby at_343) (by decide) (by decide) ?_
          exact kk
      obtain ⟨gg6, hgg6⟩ : ∃ z : Int32, z = (gg5 ||| w290) := ⟨_, rfl⟩
      refine Goal.to (B := T284.setTop (mkF m 350 #[.val (.int u0), .val (.int u1), .val (.int u2), .val (.int u3), .val (.int (own_t3 tn)), .val (.int (own_l5 ln)), .val (.int cc), .val (.int cd), .val (.ref b1), .val (.ref b102), .val (.ref b204), .val (.int gg6)] [])) (fun tt kk => ?_) ?_
      · subst hgg6
        show Steps p.tables e below (T284.setTop (mkF m 347 #[.val (.int u0), .val (.int u1), .val (.int u2), .val (.int u3), .val (.int (own_t3 tn)), .val (.int (own_l5 ln)), .val (.int cc), .val (.int cd), .val (.ref b1), .val (.ref b102), .val (.ref b204), .val (.int gg5)] [(.int w290), (.int gg5)])) tt
        refine XS.ior X284.here hx rfl (hb hby at_347) rfl ?_
        show Steps p.tables e below (T284.setTop (mkF m 348 #[.val (.int u0), .val (.int u1), .val (.int u2), .val (.int u3), .val (.int (own_t3 tn)), .val (.int (own_l5 ln)), .val (.int cc), .val (.int cd), .val (.ref b1), .val (.ref b102), .val (.ref b204), .val (.int gg5)] [(.int (gg5 ||| w290))])) tt
        refine XS.istore X284.here hx rfl (hb hby at_348) rfl (l' := #[.val (.int u0), .val (.int u1), .val (.int u2), .val (.int u3), .val (.int (own_t3 tn)), .val (.int (own_l5 ln)), .val (.int cc), .val (.int cd), .val (.ref b1), .val (.ref b102), .val (.ref b204), .val (.int (gg5 ||| w290))]) rfl ?_
        exact kk
      have hG6 : gg6 = own_G tn ln 6 := by rw [hgg6, hw290, own_G6 tn ln, hG5]
      refine Goal.to (B := T284.setTop (mkF m 364 #[.val (.int u0), .val (.int u1), .val (.int u2), .val (.int u3), .val (.int (own_t3 tn)), .val (.int (own_l5 ln)), .val (.int cc), .val (.int cd), .val (.ref b1), .val (.ref b102), .val (.ref b204), .val (.int gg6)] [(.int (own_l5 ln)), (.int (own_t3 tn)), (.int (6 : Int32)), (.ref b102), (.ref b1), (.ref b204), (.int gg6)])) (fun tt kk => ?_) ?_
      · show Steps p.tables e below (T284.setTop (mkF m 350 #[.val (.int u0), .val (.int u1), .val (.int u2), .val (.int u3), .val (.int (own_t3 tn)), .val (.int (own_l5 ln)), .val (.int cc), .val (.int cd), .val (.ref b1), .val (.ref b102), .val (.ref b204), .val (.int gg6)] [])) tt
        refine XS.iload X284.here hx rfl (hb hby at_350) rfl ?_
        show Steps p.tables e below (T284.setTop (mkF m 352 #[.val (.int u0), .val (.int u1), .val (.int u2), .val (.int u3), .val (.int (own_t3 tn)), .val (.int (own_l5 ln)), .val (.int cc), .val (.int cd), .val (.ref b1), .val (.ref b102), .val (.ref b204), .val (.int gg6)] [(.int gg6)])) tt
        refine XS.aload X284.here hx rfl (hb hby at_352) rfl rfl ?_
        show Steps p.tables e below (T284.setTop (mkF m 354 #[.val (.int u0), .val (.int u1), .val (.int u2), .val (.int u3), .val (.int (own_t3 tn)), .val (.int (own_l5 ln)), .val (.int cc), .val (.int cd), .val (.ref b1), .val (.ref b102), .val (.ref b204), .val (.int gg6)] [(.ref b204), (.int gg6)])) tt
        refine XS.aload X284.here hx rfl (hb hby at_354) rfl rfl ?_
        show Steps p.tables e below (T284.setTop (mkF m 356 #[.val (.int u0), .val (.int u1), .val (.int u2), .val (.int u3), .val (.int (own_t3 tn)), .val (.int (own_l5 ln)), .val (.int cc), .val (.int cd), .val (.ref b1), .val (.ref b102), .val (.ref b204), .val (.int gg6)] [(.ref b1), (.ref b204), (.int gg6)])) tt
        refine XS.aload X284.here hx rfl (hb hby at_356) rfl rfl ?_
        show Steps p.tables e below (T284.setTop (mkF m 358 #[.val (.int u0), .val (.int u1), .val (.int u2), .val (.int u3), .val (.int (own_t3 tn)), .val (.int (own_l5 ln)), .val (.int cc), .val (.int cd), .val (.ref b1), .val (.ref b102), .val (.ref b204), .val (.int gg6)] [(.ref b102), (.ref b1), (.ref b204), (.int gg6)])) tt
        refine XS.bipush X284.here hx rfl (hb hby at_358) ?_
        show Steps p.tables e below (T284.setTop (mkF m 360 #[.val (.int u0), .val (.int u1), .val (.int u2), .val (.int u3), .val (.int (own_t3 tn)), .val (.int (own_l5 ln)), .val (.int cc), .val (.int cd), .val (.ref b1), .val (.ref b102), .val (.ref b204), .val (.int gg6)] [(.int (6 : Int32)), (.ref b102), (.ref b1), (.ref b204), (.int gg6)])) tt
        refine XS.iload X284.here hx rfl (hb hby at_360) rfl ?_
        show Steps p.tables e below (T284.setTop (mkF m 362 #[.val (.int u0), .val (.int u1), .val (.int u2), .val (.int u3), .val (.int (own_t3 tn)), .val (.int (own_l5 ln)), .val (.int cc), .val (.int cd), .val (.ref b1), .val (.ref b102), .val (.ref b204), .val (.int gg6)] [(.int (own_t3 tn)), (.int (6 : Int32)), (.ref b102), (.ref b1), (.ref b204), (.int gg6)])) tt
        refine XS.iload X284.here hx rfl (hb hby at_362) rfl ?_
        exact kk
      have f291 : Exa Z T284.heap b204 "com/example/tributary/tributary/runtime/Revisits" := (f280.keep K284)
      have f292 : Ary Z T284.heap b1 (.object "java/lang/Object") [(.ref b2), (.ref b18), (.ref b40), (.ref b68)] := (f281.keep K284 (ninS ne_b1_b204 nin0))
      have f293 : Ary Z T284.heap b102 (.object "java/lang/Object") [(.ref b112), (.ref b155)] := (f282.keep K284 (ninS ne_b102_b204 nin0))
      have f294 : n0 ≤ T284.heap.size := (Nat.le_trans f283 K284.1)
      obtain ⟨_, _, ⟨T295, L295, k295, n295⟩, -, X295, ⟨Lc295, hQ295, l295, y295, z295⟩, st295⟩ := Jvm.LawKit.callS X284 hx (y := (⟨"com/example/tributary/tributary/runtime/RevisitsSeenBeforePinLaw", "step", "(Lcom/example/tributary/tributary/runtime/Revisits;[Ljava/lang/Object;[Ljava/lang/Object;III)Z"⟩ : MethodName)) hown (mvT hZ (hw _ (mw 43 rfl))) (mvT hZ (hw _ (mw 44 rfl))) (mvT hZ (hw _ (mw 45 rfl))) (mvT hZ (hw _ (mw 46 rfl))) (by decide) (backOf (W := 1) (rmst l Z a0 hw [] b204 b1 b102 b2 b18 b40 b68 b155 (.ref b112) (own_kf tn ln 6) (own_Z tn ln 6).1 (own_Z tn ln 6).2.1 (own_Z tn ln 6).2.2 (6 : Int32) (own_t3 tn) (own_l5 ln) T284.heap n0 f294 f291 R285 R286 R287 R288 f292 f293 g_b204 rfl (own_kk6 tn ln) (own_l0 ln) hD) hZ (hw _ (mw 46 rfl)) (hw _ (mw 45 rfl)) (by decide) (by decide)) (g := (mkF m 364 #[.val (.int u0), .val (.int u1), .val (.int u2), .val (.int u3), .val (.int (own_t3 tn)), .val (.int (own_l5 ln)), .val (.int cc), .val (.int cd), .val (.ref b1), .val (.ref b102), .val (.ref b204), .val (.int gg6)] [(.int (own_l5 ln)), (.int (own_t3 tn)), (.int (6 : Int32)), (.ref b102), (.ref b1), (.ref b204), (.int gg6)])) rfl (by rw [hml]; rfl) (argsL := [(.ref b204), (.ref b1), (.ref b102), (.int (6 : Int32)), (.int (own_t3 tn)), (.int (own_l5 ln))]) (rest := [(.int gg6)]) (lenOf pd_6 rfl) rfl (by show 2 * 0 + _ ≤ _; exact Nat.le_of_eq rfl) (hb hby at_364) (fun _ _ => ⟨rfl, rfl, (by decide : 21 + 0 ≤ _), (by decide : 46 + 0 ≤ _)⟩)
      dsimp only [Pt.U, Pt.locs, Pt.cells, Pt.slots] at X295 l295 y295 z295 st295 hQ295
      subst y295 z295
      obtain ⟨rfl, N295q, K295, P295_0, P295_1, P295_2, P295_3⟩ := hQ295
      have N295 := Fr.eqv l295 (Fr.app N284 N295q)
      refine Goal.to (B := T295.setTop (mkF m 367 #[.val (.int u0), .val (.int u1), .val (.int u2), .val (.int u3), .val (.int (own_t3 tn)), .val (.int (own_l5 ln)), .val (.int cc), .val (.int cd), .val (.ref b1), .val (.ref b102), .val (.ref b204), .val (.int gg6)] [(.int (own_seen (own_Z tn ln 6).1 (own_kf tn ln 6))), (.int gg6)])) st295 ?_
      have R296 : Fld Z T295.heap b204 "com/example/tributary/tributary/runtime/Revisits" "markedLeft" "Ljava/lang/Object;" (own_ML b2 b18 b40 b68 (own_Z tn ln 7).1) := by rw [own_Zm7 tn ln]; exact P295_0
      have R297 : Fld Z T295.heap b204 "com/example/tributary/tributary/runtime/Revisits" "markedRight" "Ljava/lang/Object;" (own_MR (.ref b112) b155 (own_Z tn ln 7).1) := by rw [own_Zm7 tn ln]; exact P295_1
      have R298 : Fld Z T295.heap b204 "com/example/tributary/tributary/runtime/Revisits" "sinceMark" "J" (.long (own_Z tn ln 7).2.1) := by rw [own_Zs7 tn ln]; exact P295_2
      have R299 : Fld Z T295.heap b204 "com/example/tributary/tributary/runtime/Revisits" "markInterval" "J" (.long (own_Z tn ln 7).2.2) := by rw [own_Zi7 tn ln]; exact P295_3
      obtain ⟨w301, hw301⟩ : ∃ z : Int32, z = if (own_seen (own_Z tn ln 6).1 (own_kf tn ln 6)) = (0 : Int32) then (0 : Int32) else (64 : Int32) := ⟨_, rfl⟩
      refine Goal.to (B := T295.setTop (mkF m 376 #[.val (.int u0), .val (.int u1), .val (.int u2), .val (.int u3), .val (.int (own_t3 tn)), .val (.int (own_l5 ln)), .val (.int cc), .val (.int cd), .val (.ref b1), .val (.ref b102), .val (.ref b204), .val (.int gg6)] [(.int w301), (.int gg6)])) (fun tt kk => ?_) ?_
      · by_cases hc300 : (own_seen (own_Z tn ln 6).1 (own_kf tn ln 6)) = (0 : Int32)
        · have qw301 : w301 = (0 : Int32) := by rw [hw301, if_pos hc300]
          rw [qw301] at kk
          show Steps p.tables e below (T295.setTop (mkF m 367 #[.val (.int u0), .val (.int u1), .val (.int u2), .val (.int u3), .val (.int (own_t3 tn)), .val (.int (own_l5 ln)), .val (.int cc), .val (.int cd), .val (.ref b1), .val (.ref b102), .val (.ref b204), .val (.int gg6)] [(.int (own_seen (own_Z tn ln 6).1 (own_kf tn ln 6))), (.int gg6)])) tt
          refine XS.ifYes X295.here hx rfl (pc0 := 367) (pc' := 375) rfl (hb hby at_367) rfl ((if0 _ _).trans (teq hc300).1) (by decide) (by decide) ?_
          show Steps p.tables e below (T295.setTop (mkF m 375 #[.val (.int u0), .val (.int u1), .val (.int u2), .val (.int u3), .val (.int (own_t3 tn)), .val (.int (own_l5 ln)), .val (.int cc), .val (.int cd), .val (.ref b1), .val (.ref b102), .val (.ref b204), .val (.int gg6)] [(.int gg6)])) tt
          refine XS.iconst X295.here hx rfl (hb hby at_375) ?_
          exact kk
        · have qw301 : w301 = (64 : Int32) := by rw [hw301, if_neg hc300]
          rw [qw301] at kk
          show Steps p.tables e below (T295.setTop (mkF m 367 #[.val (.int u0), .val (.int u1), .val (.int u2), .val (.int u3), .val (.int (own_t3 tn)), .val (.int (own_l5 ln)), .val (.int cc), .val (.int cd), .val (.ref b1), .val (.ref b102), .val (.ref b204), .val (.int gg6)] [(.int (own_seen (own_Z tn ln 6).1 (own_kf tn ln 6))), (.int gg6)])) tt
          refine XS.ifNo X295.here hx rfl (hb hby at_367) rfl ((if0 _ _).trans (feq hc300).1) ?_
          show Steps p.tables e below (T295.setTop (mkF m 370 #[.val (.int u0), .val (.int u1), .val (.int u2), .val (.int u3), .val (.int (own_t3 tn)), .val (.int (own_l5 ln)), .val (.int cc), .val (.int cd), .val (.ref b1), .val (.ref b102), .val (.ref b204), .val (.int gg6)] [(.int gg6)])) tt
          refine XS.bipush X295.here hx rfl (hb hby at_370) ?_
          show Steps p.tables e below (T295.setTop (mkF m 372 #[.val (.int u0), .val (.int u1), .val (.int u2), .val (.int u3), .val (.int (own_t3 tn)), .val (.int (own_l5 ln)), .val (.int cc), .val (.int cd), .val (.ref b1), .val (.ref b102), .val (.ref b204), .val (.int gg6)] [(.int (64 : Int32)), (.int gg6)])) tt
          refine XS.goto X295.here hx rfl (pc0 := 372) (pc' := 376) rfl (hb hby at_372) (by decide) (by decide) ?_
          exact kk
      obtain ⟨gg7, hgg7⟩ : ∃ z : Int32, z = (gg6 ||| w301) := ⟨_, rfl⟩
      refine Goal.to (B := T295.setTop (mkF m 379 #[.val (.int u0), .val (.int u1), .val (.int u2), .val (.int u3), .val (.int (own_t3 tn)), .val (.int (own_l5 ln)), .val (.int cc), .val (.int cd), .val (.ref b1), .val (.ref b102), .val (.ref b204), .val (.int gg7)] [])) (fun tt kk => ?_) ?_
      · subst hgg7
        show Steps p.tables e below (T295.setTop (mkF m 376 #[.val (.int u0), .val (.int u1), .val (.int u2), .val (.int u3), .val (.int (own_t3 tn)), .val (.int (own_l5 ln)), .val (.int cc), .val (.int cd), .val (.ref b1), .val (.ref b102), .val (.ref b204), .val (.int gg6)] [(.int w301), (.int gg6)])) tt
        refine XS.ior X295.here hx rfl (hb hby at_376) rfl ?_
        show Steps p.tables e below (T295.setTop (mkF m 377 #[.val (.int u0), .val (.int u1), .val (.int u2), .val (.int u3), .val (.int (own_t3 tn)), .val (.int (own_l5 ln)), .val (.int cc), .val (.int cd), .val (.ref b1), .val (.ref b102), .val (.ref b204), .val (.int gg6)] [(.int (gg6 ||| w301))])) tt
        refine XS.istore X295.here hx rfl (hb hby at_377) rfl (l' := #[.val (.int u0), .val (.int u1), .val (.int u2), .val (.int u3), .val (.int (own_t3 tn)), .val (.int (own_l5 ln)), .val (.int cc), .val (.int cd), .val (.ref b1), .val (.ref b102), .val (.ref b204), .val (.int (gg6 ||| w301))]) rfl ?_
        exact kk
      have hG7 : gg7 = own_G tn ln 7 := by rw [hgg7, hw301, own_G7 tn ln, hG6]
      refine Goal.to (B := T295.setTop (mkF m 393 #[.val (.int u0), .val (.int u1), .val (.int u2), .val (.int u3), .val (.int (own_t3 tn)), .val (.int (own_l5 ln)), .val (.int cc), .val (.int cd), .val (.ref b1), .val (.ref b102), .val (.ref b204), .val (.int gg7)] [(.int (own_l5 ln)), (.int (own_t3 tn)), (.int (7 : Int32)), (.ref b102), (.ref b1), (.ref b204), (.int gg7)])) (fun tt kk => ?_) ?_
      · show Steps p.tables e below (T295.setTop (mkF m 379 #[.val (.int u0), .val (.int u1), .val (.int u2), .val (.int u3), .val (.int (own_t3 tn)), .val (.int (own_l5 ln)), .val (.int cc), .val (.int cd), .val (.ref b1), .val (.ref b102), .val (.ref b204), .val (.int gg7)] [])) tt
        refine XS.iload X295.here hx rfl (hb hby at_379) rfl ?_
        show Steps p.tables e below (T295.setTop (mkF m 381 #[.val (.int u0), .val (.int u1), .val (.int u2), .val (.int u3), .val (.int (own_t3 tn)), .val (.int (own_l5 ln)), .val (.int cc), .val (.int cd), .val (.ref b1), .val (.ref b102), .val (.ref b204), .val (.int gg7)] [(.int gg7)])) tt
        refine XS.aload X295.here hx rfl (hb hby at_381) rfl rfl ?_
        show Steps p.tables e below (T295.setTop (mkF m 383 #[.val (.int u0), .val (.int u1), .val (.int u2), .val (.int u3), .val (.int (own_t3 tn)), .val (.int (own_l5 ln)), .val (.int cc), .val (.int cd), .val (.ref b1), .val (.ref b102), .val (.ref b204), .val (.int gg7)] [(.ref b204), (.int gg7)])) tt
        refine XS.aload X295.here hx rfl (hb hby at_383) rfl rfl ?_
        show Steps p.tables e below (T295.setTop (mkF m 385 #[.val (.int u0), .val (.int u1), .val (.int u2), .val (.int u3), .val (.int (own_t3 tn)), .val (.int (own_l5 ln)), .val (.int cc), .val (.int cd), .val (.ref b1), .val (.ref b102), .val (.ref b204), .val (.int gg7)] [(.ref b1), (.ref b204), (.int gg7)])) tt
        refine XS.aload X295.here hx rfl (hb hby at_385) rfl rfl ?_
        show Steps p.tables e below (T295.setTop (mkF m 387 #[.val (.int u0), .val (.int u1), .val (.int u2), .val (.int u3), .val (.int (own_t3 tn)), .val (.int (own_l5 ln)), .val (.int cc), .val (.int cd), .val (.ref b1), .val (.ref b102), .val (.ref b204), .val (.int gg7)] [(.ref b102), (.ref b1), (.ref b204), (.int gg7)])) tt
        refine XS.bipush X295.here hx rfl (hb hby at_387) ?_
        show Steps p.tables e below (T295.setTop (mkF m 389 #[.val (.int u0), .val (.int u1), .val (.int u2), .val (.int u3), .val (.int (own_t3 tn)), .val (.int (own_l5 ln)), .val (.int cc), .val (.int cd), .val (.ref b1), .val (.ref b102), .val (.ref b204), .val (.int gg7)] [(.int (7 : Int32)), (.ref b102), (.ref b1), (.ref b204), (.int gg7)])) tt
        refine XS.iload X295.here hx rfl (hb hby at_389) rfl ?_
        show Steps p.tables e below (T295.setTop (mkF m 391 #[.val (.int u0), .val (.int u1), .val (.int u2), .val (.int u3), .val (.int (own_t3 tn)), .val (.int (own_l5 ln)), .val (.int cc), .val (.int cd), .val (.ref b1), .val (.ref b102), .val (.ref b204), .val (.int gg7)] [(.int (own_t3 tn)), (.int (7 : Int32)), (.ref b102), (.ref b1), (.ref b204), (.int gg7)])) tt
        refine XS.iload X295.here hx rfl (hb hby at_391) rfl ?_
        exact kk
      have f302 : Exa Z T295.heap b204 "com/example/tributary/tributary/runtime/Revisits" := (f291.keep K295)
      have f303 : Ary Z T295.heap b1 (.object "java/lang/Object") [(.ref b2), (.ref b18), (.ref b40), (.ref b68)] := (f292.keep K295 (ninS ne_b1_b204 nin0))
      have f304 : Ary Z T295.heap b102 (.object "java/lang/Object") [(.ref b112), (.ref b155)] := (f293.keep K295 (ninS ne_b102_b204 nin0))
      have f305 : n0 ≤ T295.heap.size := (Nat.le_trans f294 K295.1)
      obtain ⟨_, _, ⟨T306, L306, k306, n306⟩, -, X306, ⟨Lc306, hQ306, l306, y306, z306⟩, st306⟩ := Jvm.LawKit.callS X295 hx (y := (⟨"com/example/tributary/tributary/runtime/RevisitsSeenBeforePinLaw", "step", "(Lcom/example/tributary/tributary/runtime/Revisits;[Ljava/lang/Object;[Ljava/lang/Object;III)Z"⟩ : MethodName)) hown (mvT hZ (hw _ (mw 43 rfl))) (mvT hZ (hw _ (mw 44 rfl))) (mvT hZ (hw _ (mw 45 rfl))) (mvT hZ (hw _ (mw 46 rfl))) (by decide) (backOf (W := 1) (rmst l Z a0 hw [] b204 b1 b102 b2 b18 b40 b68 b155 (.ref b112) (own_kf tn ln 7) (own_Z tn ln 7).1 (own_Z tn ln 7).2.1 (own_Z tn ln 7).2.2 (7 : Int32) (own_t3 tn) (own_l5 ln) T295.heap n0 f305 f302 R296 R297 R298 R299 f303 f304 g_b204 rfl (own_kk7 tn ln) (own_l0 ln) hD) hZ (hw _ (mw 46 rfl)) (hw _ (mw 45 rfl)) (by decide) (by decide)) (g := (mkF m 393 #[.val (.int u0), .val (.int u1), .val (.int u2), .val (.int u3), .val (.int (own_t3 tn)), .val (.int (own_l5 ln)), .val (.int cc), .val (.int cd), .val (.ref b1), .val (.ref b102), .val (.ref b204), .val (.int gg7)] [(.int (own_l5 ln)), (.int (own_t3 tn)), (.int (7 : Int32)), (.ref b102), (.ref b1), (.ref b204), (.int gg7)])) rfl (by rw [hml]; rfl) (argsL := [(.ref b204), (.ref b1), (.ref b102), (.int (7 : Int32)), (.int (own_t3 tn)), (.int (own_l5 ln))]) (rest := [(.int gg7)]) (lenOf pd_6 rfl) rfl (by show 2 * 0 + _ ≤ _; exact Nat.le_of_eq rfl) (hb hby at_393) (fun _ _ => ⟨rfl, rfl, (by decide : 21 + 0 ≤ _), (by decide : 46 + 0 ≤ _)⟩)
      dsimp only [Pt.U, Pt.locs, Pt.cells, Pt.slots] at X306 l306 y306 z306 st306 hQ306
      subst y306 z306
      obtain ⟨rfl, N306q, K306, P306_0, P306_1, P306_2, P306_3⟩ := hQ306
      have N306 := Fr.eqv l306 (Fr.app N295 N306q)
      refine Goal.to (B := T306.setTop (mkF m 396 #[.val (.int u0), .val (.int u1), .val (.int u2), .val (.int u3), .val (.int (own_t3 tn)), .val (.int (own_l5 ln)), .val (.int cc), .val (.int cd), .val (.ref b1), .val (.ref b102), .val (.ref b204), .val (.int gg7)] [(.int (own_seen (own_Z tn ln 7).1 (own_kf tn ln 7))), (.int gg7)])) st306 ?_
      have R307 : Fld Z T306.heap b204 "com/example/tributary/tributary/runtime/Revisits" "markedLeft" "Ljava/lang/Object;" (own_ML b2 b18 b40 b68 (own_Z tn ln 8).1) := by rw [own_Zm8 tn ln]; exact P306_0
      have R308 : Fld Z T306.heap b204 "com/example/tributary/tributary/runtime/Revisits" "markedRight" "Ljava/lang/Object;" (own_MR (.ref b112) b155 (own_Z tn ln 8).1) := by rw [own_Zm8 tn ln]; exact P306_1
      have R309 : Fld Z T306.heap b204 "com/example/tributary/tributary/runtime/Revisits" "sinceMark" "J" (.long (own_Z tn ln 8).2.1) := by rw [own_Zs8 tn ln]; exact P306_2
      have R310 : Fld Z T306.heap b204 "com/example/tributary/tributary/runtime/Revisits" "markInterval" "J" (.long (own_Z tn ln 8).2.2) := by rw [own_Zi8 tn ln]; exact P306_3
      obtain ⟨w312, hw312⟩ : ∃ z : Int32, z = if (own_seen (own_Z tn ln 7).1 (own_kf tn ln 7)) = (0 : Int32) then (0 : Int32) else (128 : Int32) := ⟨_, rfl⟩
      refine Goal.to (B := T306.setTop (mkF m 406 #[.val (.int u0), .val (.int u1), .val (.int u2), .val (.int u3), .val (.int (own_t3 tn)), .val (.int (own_l5 ln)), .val (.int cc), .val (.int cd), .val (.ref b1), .val (.ref b102), .val (.ref b204), .val (.int gg7)] [(.int w312), (.int gg7)])) (fun tt kk => ?_) ?_
      · by_cases hc311 : (own_seen (own_Z tn ln 7).1 (own_kf tn ln 7)) = (0 : Int32)
        · have qw312 : w312 = (0 : Int32) := by rw [hw312, if_pos hc311]
          rw [qw312] at kk
          show Steps p.tables e below (T306.setTop (mkF m 396 #[.val (.int u0), .val (.int u1), .val (.int u2), .val (.int u3), .val (.int (own_t3 tn)), .val (.int (own_l5 ln)), .val (.int cc), .val (.int cd), .val (.ref b1), .val (.ref b102), .val (.ref b204), .val (.int gg7)] [(.int (own_seen (own_Z tn ln 7).1 (own_kf tn ln 7))), (.int gg7)])) tt
          refine XS.ifYes X306.here hx rfl (pc0 := 396) (pc' := 405) rfl (hb hby at_396) rfl ((if0 _ _).trans (teq hc311).1) (by decide) (by decide) ?_
          show Steps p.tables e below (T306.setTop (mkF m 405 #[.val (.int u0), .val (.int u1), .val (.int u2), .val (.int u3), .val (.int (own_t3 tn)), .val (.int (own_l5 ln)), .val (.int cc), .val (.int cd), .val (.ref b1), .val (.ref b102), .val (.ref b204), .val (.int gg7)] [(.int gg7)])) tt
          refine XS.iconst X306.here hx rfl (hb hby at_405) ?_
          exact kk
        · have qw312 : w312 = (128 : Int32) := by rw [hw312, if_neg hc311]
          rw [qw312] at kk
          show Steps p.tables e below (T306.setTop (mkF m 396 #[.val (.int u0), .val (.int u1), .val (.int u2), .val (.int u3), .val (.int (own_t3 tn)), .val (.int (own_l5 ln)), .val (.int cc), .val (.int cd), .val (.ref b1), .val (.ref b102), .val (.ref b204), .val (.int gg7)] [(.int (own_seen (own_Z tn ln 7).1 (own_kf tn ln 7))), (.int gg7)])) tt
          refine XS.ifNo X306.here hx rfl (hb hby at_396) rfl ((if0 _ _).trans (feq hc311).1) ?_
          show Steps p.tables e below (T306.setTop (mkF m 399 #[.val (.int u0), .val (.int u1), .val (.int u2), .val (.int u3), .val (.int (own_t3 tn)), .val (.int (own_l5 ln)), .val (.int cc), .val (.int cd), .val (.ref b1), .val (.ref b102), .val (.ref b204), .val (.int gg7)] [(.int gg7)])) tt
          refine XS.sipush X306.here hx rfl (hb hby at_399) ?_
          show Steps p.tables e below (T306.setTop (mkF m 402 #[.val (.int u0), .val (.int u1), .val (.int u2), .val (.int u3), .val (.int (own_t3 tn)), .val (.int (own_l5 ln)), .val (.int cc), .val (.int cd), .val (.ref b1), .val (.ref b102), .val (.ref b204), .val (.int gg7)] [(.int (128 : Int32)), (.int gg7)])) tt
          refine XS.goto X306.here hx rfl (pc0 := 402) (pc' := 406) rfl (hb hby at_402) (by decide) (by decide) ?_
          exact kk
      obtain ⟨gg8, hgg8⟩ : ∃ z : Int32, z = (gg7 ||| w312) := ⟨_, rfl⟩
      refine Goal.to (B := T306.setTop (mkF m 409 #[.val (.int u0), .val (.int u1), .val (.int u2), .val (.int u3), .val (.int (own_t3 tn)), .val (.int (own_l5 ln)), .val (.int cc), .val (.int cd), .val (.ref b1), .val (.ref b102), .val (.ref b204), .val (.int gg8)] [])) (fun tt kk => ?_) ?_
      · subst hgg8
        show Steps p.tables e below (T306.setTop (mkF m 406 #[.val (.int u0), .val (.int u1), .val (.int u2), .val (.int u3), .val (.int (own_t3 tn)), .val (.int (own_l5 ln)), .val (.int cc), .val (.int cd), .val (.ref b1), .val (.ref b102), .val (.ref b204), .val (.int gg7)] [(.int w312), (.int gg7)])) tt
        refine XS.ior X306.here hx rfl (hb hby at_406) rfl ?_
        show Steps p.tables e below (T306.setTop (mkF m 407 #[.val (.int u0), .val (.int u1), .val (.int u2), .val (.int u3), .val (.int (own_t3 tn)), .val (.int (own_l5 ln)), .val (.int cc), .val (.int cd), .val (.ref b1), .val (.ref b102), .val (.ref b204), .val (.int gg7)] [(.int (gg7 ||| w312))])) tt
        refine XS.istore X306.here hx rfl (hb hby at_407) rfl (l' := #[.val (.int u0), .val (.int u1), .val (.int u2), .val (.int u3), .val (.int (own_t3 tn)), .val (.int (own_l5 ln)), .val (.int cc), .val (.int cd), .val (.ref b1), .val (.ref b102), .val (.ref b204), .val (.int (gg7 ||| w312))]) rfl ?_
        exact kk
      have hG8 : gg8 = own_G tn ln 8 := by rw [hgg8, hw312, own_G8 tn ln, hG7]
      refine Goal.to (B := T306.setTop (mkF m 423 #[.val (.int u0), .val (.int u1), .val (.int u2), .val (.int u3), .val (.int (own_t3 tn)), .val (.int (own_l5 ln)), .val (.int cc), .val (.int cd), .val (.ref b1), .val (.ref b102), .val (.ref b204), .val (.int gg8)] [(.int (own_l5 ln)), (.int (own_t3 tn)), (.int (8 : Int32)), (.ref b102), (.ref b1), (.ref b204), (.int gg8)])) (fun tt kk => ?_) ?_
      · show Steps p.tables e below (T306.setTop (mkF m 409 #[.val (.int u0), .val (.int u1), .val (.int u2), .val (.int u3), .val (.int (own_t3 tn)), .val (.int (own_l5 ln)), .val (.int cc), .val (.int cd), .val (.ref b1), .val (.ref b102), .val (.ref b204), .val (.int gg8)] [])) tt
        refine XS.iload X306.here hx rfl (hb hby at_409) rfl ?_
        show Steps p.tables e below (T306.setTop (mkF m 411 #[.val (.int u0), .val (.int u1), .val (.int u2), .val (.int u3), .val (.int (own_t3 tn)), .val (.int (own_l5 ln)), .val (.int cc), .val (.int cd), .val (.ref b1), .val (.ref b102), .val (.ref b204), .val (.int gg8)] [(.int gg8)])) tt
        refine XS.aload X306.here hx rfl (hb hby at_411) rfl rfl ?_
        show Steps p.tables e below (T306.setTop (mkF m 413 #[.val (.int u0), .val (.int u1), .val (.int u2), .val (.int u3), .val (.int (own_t3 tn)), .val (.int (own_l5 ln)), .val (.int cc), .val (.int cd), .val (.ref b1), .val (.ref b102), .val (.ref b204), .val (.int gg8)] [(.ref b204), (.int gg8)])) tt
        refine XS.aload X306.here hx rfl (hb hby at_413) rfl rfl ?_
        show Steps p.tables e below (T306.setTop (mkF m 415 #[.val (.int u0), .val (.int u1), .val (.int u2), .val (.int u3), .val (.int (own_t3 tn)), .val (.int (own_l5 ln)), .val (.int cc), .val (.int cd), .val (.ref b1), .val (.ref b102), .val (.ref b204), .val (.int gg8)] [(.ref b1), (.ref b204), (.int gg8)])) tt
        refine XS.aload X306.here hx rfl (hb hby at_415) rfl rfl ?_
        show Steps p.tables e below (T306.setTop (mkF m 417 #[.val (.int u0), .val (.int u1), .val (.int u2), .val (.int u3), .val (.int (own_t3 tn)), .val (.int (own_l5 ln)), .val (.int cc), .val (.int cd), .val (.ref b1), .val (.ref b102), .val (.ref b204), .val (.int gg8)] [(.ref b102), (.ref b1), (.ref b204), (.int gg8)])) tt
        refine XS.bipush X306.here hx rfl (hb hby at_417) ?_
        show Steps p.tables e below (T306.setTop (mkF m 419 #[.val (.int u0), .val (.int u1), .val (.int u2), .val (.int u3), .val (.int (own_t3 tn)), .val (.int (own_l5 ln)), .val (.int cc), .val (.int cd), .val (.ref b1), .val (.ref b102), .val (.ref b204), .val (.int gg8)] [(.int (8 : Int32)), (.ref b102), (.ref b1), (.ref b204), (.int gg8)])) tt
        refine XS.iload X306.here hx rfl (hb hby at_419) rfl ?_
        show Steps p.tables e below (T306.setTop (mkF m 421 #[.val (.int u0), .val (.int u1), .val (.int u2), .val (.int u3), .val (.int (own_t3 tn)), .val (.int (own_l5 ln)), .val (.int cc), .val (.int cd), .val (.ref b1), .val (.ref b102), .val (.ref b204), .val (.int gg8)] [(.int (own_t3 tn)), (.int (8 : Int32)), (.ref b102), (.ref b1), (.ref b204), (.int gg8)])) tt
        refine XS.iload X306.here hx rfl (hb hby at_421) rfl ?_
        exact kk
      have f313 : Exa Z T306.heap b204 "com/example/tributary/tributary/runtime/Revisits" := (f302.keep K306)
      have f314 : Ary Z T306.heap b1 (.object "java/lang/Object") [(.ref b2), (.ref b18), (.ref b40), (.ref b68)] := (f303.keep K306 (ninS ne_b1_b204 nin0))
      have f315 : Ary Z T306.heap b102 (.object "java/lang/Object") [(.ref b112), (.ref b155)] := (f304.keep K306 (ninS ne_b102_b204 nin0))
      have f316 : n0 ≤ T306.heap.size := (Nat.le_trans f305 K306.1)
      obtain ⟨_, _, ⟨T317, L317, k317, n317⟩, -, X317, ⟨Lc317, hQ317, l317, y317, z317⟩, st317⟩ := Jvm.LawKit.callS X306 hx (y := (⟨"com/example/tributary/tributary/runtime/RevisitsSeenBeforePinLaw", "step", "(Lcom/example/tributary/tributary/runtime/Revisits;[Ljava/lang/Object;[Ljava/lang/Object;III)Z"⟩ : MethodName)) hown (mvT hZ (hw _ (mw 43 rfl))) (mvT hZ (hw _ (mw 44 rfl))) (mvT hZ (hw _ (mw 45 rfl))) (mvT hZ (hw _ (mw 46 rfl))) (by decide) (backOf (W := 1) (rmst l Z a0 hw [] b204 b1 b102 b2 b18 b40 b68 b155 (.ref b112) (own_kf tn ln 8) (own_Z tn ln 8).1 (own_Z tn ln 8).2.1 (own_Z tn ln 8).2.2 (8 : Int32) (own_t3 tn) (own_l5 ln) T306.heap n0 f316 f313 R307 R308 R309 R310 f314 f315 g_b204 rfl (own_kk8 tn ln) (own_l0 ln) hD) hZ (hw _ (mw 46 rfl)) (hw _ (mw 45 rfl)) (by decide) (by decide)) (g := (mkF m 423 #[.val (.int u0), .val (.int u1), .val (.int u2), .val (.int u3), .val (.int (own_t3 tn)), .val (.int (own_l5 ln)), .val (.int cc), .val (.int cd), .val (.ref b1), .val (.ref b102), .val (.ref b204), .val (.int gg8)] [(.int (own_l5 ln)), (.int (own_t3 tn)), (.int (8 : Int32)), (.ref b102), (.ref b1), (.ref b204), (.int gg8)])) rfl (by rw [hml]; rfl) (argsL := [(.ref b204), (.ref b1), (.ref b102), (.int (8 : Int32)), (.int (own_t3 tn)), (.int (own_l5 ln))]) (rest := [(.int gg8)]) (lenOf pd_6 rfl) rfl (by show 2 * 0 + _ ≤ _; exact Nat.le_of_eq rfl) (hb hby at_423) (fun _ _ => ⟨rfl, rfl, (by decide : 21 + 0 ≤ _), (by decide : 46 + 0 ≤ _)⟩)
      dsimp only [Pt.U, Pt.locs, Pt.cells, Pt.slots] at X317 l317 y317 z317 st317 hQ317
      subst y317 z317
      obtain ⟨rfl, N317q, K317, P317_0, P317_1, P317_2, P317_3⟩ := hQ317
      have N317 := Fr.eqv l317 (Fr.app N306 N317q)
      refine Goal.to (B := T317.setTop (mkF m 426 #[.val (.int u0), .val (.int u1), .val (.int u2), .val (.int u3), .val (.int (own_t3 tn)), .val (.int (own_l5 ln)), .val (.int cc), .val (.int cd), .val (.ref b1), .val (.ref b102), .val (.ref b204), .val (.int gg8)] [(.int (own_seen (own_Z tn ln 8).1 (own_kf tn ln 8))), (.int gg8)])) st317 ?_
      have R318 : Fld Z T317.heap b204 "com/example/tributary/tributary/runtime/Revisits" "markedLeft" "Ljava/lang/Object;" (own_ML b2 b18 b40 b68 (own_Z tn ln 9).1) := by rw [own_Zm9 tn ln]; exact P317_0
      have R319 : Fld Z T317.heap b204 "com/example/tributary/tributary/runtime/Revisits" "markedRight" "Ljava/lang/Object;" (own_MR (.ref b112) b155 (own_Z tn ln 9).1) := by rw [own_Zm9 tn ln]; exact P317_1
      have R320 : Fld Z T317.heap b204 "com/example/tributary/tributary/runtime/Revisits" "sinceMark" "J" (.long (own_Z tn ln 9).2.1) := by rw [own_Zs9 tn ln]; exact P317_2
      have R321 : Fld Z T317.heap b204 "com/example/tributary/tributary/runtime/Revisits" "markInterval" "J" (.long (own_Z tn ln 9).2.2) := by rw [own_Zi9 tn ln]; exact P317_3
      obtain ⟨w323, hw323⟩ : ∃ z : Int32, z = if (own_seen (own_Z tn ln 8).1 (own_kf tn ln 8)) = (0 : Int32) then (0 : Int32) else (256 : Int32) := ⟨_, rfl⟩
      refine Goal.to (B := T317.setTop (mkF m 436 #[.val (.int u0), .val (.int u1), .val (.int u2), .val (.int u3), .val (.int (own_t3 tn)), .val (.int (own_l5 ln)), .val (.int cc), .val (.int cd), .val (.ref b1), .val (.ref b102), .val (.ref b204), .val (.int gg8)] [(.int w323), (.int gg8)])) (fun tt kk => ?_) ?_
      · by_cases hc322 : (own_seen (own_Z tn ln 8).1 (own_kf tn ln 8)) = (0 : Int32)
        · have qw323 : w323 = (0 : Int32) := by rw [hw323, if_pos hc322]
          rw [qw323] at kk
          show Steps p.tables e below (T317.setTop (mkF m 426 #[.val (.int u0), .val (.int u1), .val (.int u2), .val (.int u3), .val (.int (own_t3 tn)), .val (.int (own_l5 ln)), .val (.int cc), .val (.int cd), .val (.ref b1), .val (.ref b102), .val (.ref b204), .val (.int gg8)] [(.int (own_seen (own_Z tn ln 8).1 (own_kf tn ln 8))), (.int gg8)])) tt
          refine XS.ifYes X317.here hx rfl (pc0 := 426) (pc' := 435) rfl (hb hby at_426) rfl ((if0 _ _).trans (teq hc322).1) (by decide) (by decide) ?_
          show Steps p.tables e below (T317.setTop (mkF m 435 #[.val (.int u0), .val (.int u1), .val (.int u2), .val (.int u3), .val (.int (own_t3 tn)), .val (.int (own_l5 ln)), .val (.int cc), .val (.int cd), .val (.ref b1), .val (.ref b102), .val (.ref b204), .val (.int gg8)] [(.int gg8)])) tt
          refine XS.iconst X317.here hx rfl (hb hby at_435) ?_
          exact kk
        · have qw323 : w323 = (256 : Int32) := by rw [hw323, if_neg hc322]
          rw [qw323] at kk
          show Steps p.tables e below (T317.setTop (mkF m 426 #[.val (.int u0), .val (.int u1), .val (.int u2), .val (.int u3), .val (.int (own_t3 tn)), .val (.int (own_l5 ln)), .val (.int cc), .val (.int cd), .val (.ref b1), .val (.ref b102), .val (.ref b204), .val (.int gg8)] [(.int (own_seen (own_Z tn ln 8).1 (own_kf tn ln 8))), (.int gg8)])) tt
          refine XS.ifNo X317.here hx rfl (hb hby at_426) rfl ((if0 _ _).trans (feq hc322).1) ?_
          show Steps p.tables e below (T317.setTop (mkF m 429 #[.val (.int u0), .val (.int u1), .val (.int u2), .val (.int u3), .val (.int (own_t3 tn)), .val (.int (own_l5 ln)), .val (.int cc), .val (.int cd), .val (.ref b1), .val (.ref b102), .val (.ref b204), .val (.int gg8)] [(.int gg8)])) tt
          refine XS.sipush X317.here hx rfl (hb hby at_429) ?_
          show Steps p.tables e below (T317.setTop (mkF m 432 #[.val (.int u0), .val (.int u1), .val (.int u2), .val (.int u3), .val (.int (own_t3 tn)), .val (.int (own_l5 ln)), .val (.int cc), .val (.int cd), .val (.ref b1), .val (.ref b102), .val (.ref b204), .val (.int gg8)] [(.int (256 : Int32)), (.int gg8)])) tt
          refine XS.goto X317.here hx rfl (pc0 := 432) (pc' := 436) rfl (hb hby at_432) (by decide) (by decide) ?_
          exact kk
      obtain ⟨gg9, hgg9⟩ : ∃ z : Int32, z = (gg8 ||| w323) := ⟨_, rfl⟩
      refine Goal.to (B := T317.setTop (mkF m 439 #[.val (.int u0), .val (.int u1), .val (.int u2), .val (.int u3), .val (.int (own_t3 tn)), .val (.int (own_l5 ln)), .val (.int cc), .val (.int cd), .val (.ref b1), .val (.ref b102), .val (.ref b204), .val (.int gg9)] [])) (fun tt kk => ?_) ?_
      · subst hgg9
        show Steps p.tables e below (T317.setTop (mkF m 436 #[.val (.int u0), .val (.int u1), .val (.int u2), .val (.int u3), .val (.int (own_t3 tn)), .val (.int (own_l5 ln)), .val (.int cc), .val (.int cd), .val (.ref b1), .val (.ref b102), .val (.ref b204), .val (.int gg8)] [(.int w323), (.int gg8)])) tt
        refine XS.ior X317.here hx rfl (hb hby at_436) rfl ?_
        show Steps p.tables e below (T317.setTop (mkF m 437 #[.val (.int u0), .val (.int u1), .val (.int u2), .val (.int u3), .val (.int (own_t3 tn)), .val (.int (own_l5 ln)), .val (.int cc), .val (.int cd), .val (.ref b1), .val (.ref b102), .val (.ref b204), .val (.int gg8)] [(.int (gg8 ||| w323))])) tt
        refine XS.istore X317.here hx rfl (hb hby at_437) rfl (l' := #[.val (.int u0), .val (.int u1), .val (.int u2), .val (.int u3), .val (.int (own_t3 tn)), .val (.int (own_l5 ln)), .val (.int cc), .val (.int cd), .val (.ref b1), .val (.ref b102), .val (.ref b204), .val (.int (gg8 ||| w323))]) rfl ?_
        exact kk
      have hG9 : gg9 = own_G tn ln 9 := by rw [hgg9, hw323, own_G9 tn ln, hG8]
      refine Goal.to (B := T317.setTop (mkF m 453 #[.val (.int u0), .val (.int u1), .val (.int u2), .val (.int u3), .val (.int (own_t3 tn)), .val (.int (own_l5 ln)), .val (.int cc), .val (.int cd), .val (.ref b1), .val (.ref b102), .val (.ref b204), .val (.int gg9)] [(.int (own_l5 ln)), (.int (own_t3 tn)), (.int (9 : Int32)), (.ref b102), (.ref b1), (.ref b204), (.int gg9)])) (fun tt kk => ?_) ?_
      · show Steps p.tables e below (T317.setTop (mkF m 439 #[.val (.int u0), .val (.int u1), .val (.int u2), .val (.int u3), .val (.int (own_t3 tn)), .val (.int (own_l5 ln)), .val (.int cc), .val (.int cd), .val (.ref b1), .val (.ref b102), .val (.ref b204), .val (.int gg9)] [])) tt
        refine XS.iload X317.here hx rfl (hb hby at_439) rfl ?_
        show Steps p.tables e below (T317.setTop (mkF m 441 #[.val (.int u0), .val (.int u1), .val (.int u2), .val (.int u3), .val (.int (own_t3 tn)), .val (.int (own_l5 ln)), .val (.int cc), .val (.int cd), .val (.ref b1), .val (.ref b102), .val (.ref b204), .val (.int gg9)] [(.int gg9)])) tt
        refine XS.aload X317.here hx rfl (hb hby at_441) rfl rfl ?_
        show Steps p.tables e below (T317.setTop (mkF m 443 #[.val (.int u0), .val (.int u1), .val (.int u2), .val (.int u3), .val (.int (own_t3 tn)), .val (.int (own_l5 ln)), .val (.int cc), .val (.int cd), .val (.ref b1), .val (.ref b102), .val (.ref b204), .val (.int gg9)] [(.ref b204), (.int gg9)])) tt
        refine XS.aload X317.here hx rfl (hb hby at_443) rfl rfl ?_
        show Steps p.tables e below (T317.setTop (mkF m 445 #[.val (.int u0), .val (.int u1), .val (.int u2), .val (.int u3), .val (.int (own_t3 tn)), .val (.int (own_l5 ln)), .val (.int cc), .val (.int cd), .val (.ref b1), .val (.ref b102), .val (.ref b204), .val (.int gg9)] [(.ref b1), (.ref b204), (.int gg9)])) tt
        refine XS.aload X317.here hx rfl (hb hby at_445) rfl rfl ?_
        show Steps p.tables e below (T317.setTop (mkF m 447 #[.val (.int u0), .val (.int u1), .val (.int u2), .val (.int u3), .val (.int (own_t3 tn)), .val (.int (own_l5 ln)), .val (.int cc), .val (.int cd), .val (.ref b1), .val (.ref b102), .val (.ref b204), .val (.int gg9)] [(.ref b102), (.ref b1), (.ref b204), (.int gg9)])) tt
        refine XS.bipush X317.here hx rfl (hb hby at_447) ?_
        show Steps p.tables e below (T317.setTop (mkF m 449 #[.val (.int u0), .val (.int u1), .val (.int u2), .val (.int u3), .val (.int (own_t3 tn)), .val (.int (own_l5 ln)), .val (.int cc), .val (.int cd), .val (.ref b1), .val (.ref b102), .val (.ref b204), .val (.int gg9)] [(.int (9 : Int32)), (.ref b102), (.ref b1), (.ref b204), (.int gg9)])) tt
        refine XS.iload X317.here hx rfl (hb hby at_449) rfl ?_
        show Steps p.tables e below (T317.setTop (mkF m 451 #[.val (.int u0), .val (.int u1), .val (.int u2), .val (.int u3), .val (.int (own_t3 tn)), .val (.int (own_l5 ln)), .val (.int cc), .val (.int cd), .val (.ref b1), .val (.ref b102), .val (.ref b204), .val (.int gg9)] [(.int (own_t3 tn)), (.int (9 : Int32)), (.ref b102), (.ref b1), (.ref b204), (.int gg9)])) tt
        refine XS.iload X317.here hx rfl (hb hby at_451) rfl ?_
        exact kk
      have f324 : Exa Z T317.heap b204 "com/example/tributary/tributary/runtime/Revisits" := (f313.keep K317)
      have f325 : Ary Z T317.heap b1 (.object "java/lang/Object") [(.ref b2), (.ref b18), (.ref b40), (.ref b68)] := (f314.keep K317 (ninS ne_b1_b204 nin0))
      have f326 : Ary Z T317.heap b102 (.object "java/lang/Object") [(.ref b112), (.ref b155)] := (f315.keep K317 (ninS ne_b102_b204 nin0))
      have f327 : n0 ≤ T317.heap.size := (Nat.le_trans f316 K317.1)
      obtain ⟨_, _, ⟨T328, L328, k328, n328⟩, -, X328, ⟨Lc328, hQ328, l328, y328, z328⟩, st328⟩ := Jvm.LawKit.callS X317 hx (y := (⟨"com/example/tributary/tributary/runtime/RevisitsSeenBeforePinLaw", "step", "(Lcom/example/tributary/tributary/runtime/Revisits;[Ljava/lang/Object;[Ljava/lang/Object;III)Z"⟩ : MethodName)) hown (mvT hZ (hw _ (mw 43 rfl))) (mvT hZ (hw _ (mw 44 rfl))) (mvT hZ (hw _ (mw 45 rfl))) (mvT hZ (hw _ (mw 46 rfl))) (by decide) (backOf (W := 1) (rmst l Z a0 hw [] b204 b1 b102 b2 b18 b40 b68 b155 (.ref b112) (own_kf tn ln 9) (own_Z tn ln 9).1 (own_Z tn ln 9).2.1 (own_Z tn ln 9).2.2 (9 : Int32) (own_t3 tn) (own_l5 ln) T317.heap n0 f327 f324 R318 R319 R320 R321 f325 f326 g_b204 rfl (own_kk9 tn ln) (own_l0 ln) hD) hZ (hw _ (mw 46 rfl)) (hw _ (mw 45 rfl)) (by decide) (by decide)) (g := (mkF m 453 #[.val (.int u0), .val (.int u1), .val (.int u2), .val (.int u3), .val (.int (own_t3 tn)), .val (.int (own_l5 ln)), .val (.int cc), .val (.int cd), .val (.ref b1), .val (.ref b102), .val (.ref b204), .val (.int gg9)] [(.int (own_l5 ln)), (.int (own_t3 tn)), (.int (9 : Int32)), (.ref b102), (.ref b1), (.ref b204), (.int gg9)])) rfl (by rw [hml]; rfl) (argsL := [(.ref b204), (.ref b1), (.ref b102), (.int (9 : Int32)), (.int (own_t3 tn)), (.int (own_l5 ln))]) (rest := [(.int gg9)]) (lenOf pd_6 rfl) rfl (by show 2 * 0 + _ ≤ _; exact Nat.le_of_eq rfl) (hb hby at_453) (fun _ _ => ⟨rfl, rfl, (by decide : 21 + 0 ≤ _), (by decide : 46 + 0 ≤ _)⟩)
      dsimp only [Pt.U, Pt.locs, Pt.cells, Pt.slots] at X328 l328 y328 z328 st328 hQ328
      subst y328 z328
      obtain ⟨rfl, N328q, K328, P328_0, P328_1, P328_2, P328_3⟩ := hQ328
      have N328 := Fr.eqv l328 (Fr.app N317 N328q)
      refine Goal.to (B := T328.setTop (mkF m 456 #[.val (.int u0), .val (.int u1), .val (.int u2), .val (.int u3), .val (.int (own_t3 tn)), .val (.int (own_l5 ln)), .val (.int cc), .val (.int cd), .val (.ref b1), .val (.ref b102), .val (.ref b204), .val (.int gg9)] [(.int (own_seen (own_Z tn ln 9).1 (own_kf tn ln 9))), (.int gg9)])) st328 ?_
      have R329 : Fld Z T328.heap b204 "com/example/tributary/tributary/runtime/Revisits" "markedLeft" "Ljava/lang/Object;" (own_ML b2 b18 b40 b68 (own_Z tn ln 10).1) := by rw [own_Zm10 tn ln]; exact P328_0
      have R330 : Fld Z T328.heap b204 "com/example/tributary/tributary/runtime/Revisits" "markedRight" "Ljava/lang/Object;" (own_MR (.ref b112) b155 (own_Z tn ln 10).1) := by rw [own_Zm10 tn ln]; exact P328_1
      have R331 : Fld Z T328.heap b204 "com/example/tributary/tributary/runtime/Revisits" "sinceMark" "J" (.long (own_Z tn ln 10).2.1) := by rw [own_Zs10 tn ln]; exact P328_2
      have R332 : Fld Z T328.heap b204 "com/example/tributary/tributary/runtime/Revisits" "markInterval" "J" (.long (own_Z tn ln 10).2.2) := by rw [own_Zi10 tn ln]; exact P328_3
      obtain ⟨w334, hw334⟩ : ∃ z : Int32, z = if (own_seen (own_Z tn ln 9).1 (own_kf tn ln 9)) = (0 : Int32) then (0 : Int32) else (512 : Int32) := ⟨_, rfl⟩
      refine Goal.to (B := T328.setTop (mkF m 466 #[.val (.int u0), .val (.int u1), .val (.int u2), .val (.int u3), .val (.int (own_t3 tn)), .val (.int (own_l5 ln)), .val (.int cc), .val (.int cd), .val (.ref b1), .val (.ref b102), .val (.ref b204), .val (.int gg9)] [(.int w334), (.int gg9)])) (fun tt kk => ?_) ?_
      · by_cases hc333 : (own_seen (own_Z tn ln 9).1 (own_kf tn ln 9)) = (0 : Int32)
        · have qw334 : w334 = (0 : Int32) := by rw [hw334, if_pos hc333]
          rw [qw334] at kk
          show Steps p.tables e below (T328.setTop (mkF m 456 #[.val (.int u0), .val (.int u1), .val (.int u2), .val (.int u3), .val (.int (own_t3 tn)), .val (.int (own_l5 ln)), .val (.int cc), .val (.int cd), .val (.ref b1), .val (.ref b102), .val (.ref b204), .val (.int gg9)] [(.int (own_seen (own_Z tn ln 9).1 (own_kf tn ln 9))), (.int gg9)])) tt
          refine XS.ifYes X328.here hx rfl (pc0 := 456) (pc' := 465) rfl (hb hby at_456) rfl ((if0 _ _).trans (teq hc333).1) (by decide) (by decide) ?_
          show Steps p.tables e below (T328.setTop (mkF m 465 #[.val (.int u0), .val (.int u1), .val (.int u2), .val (.int u3), .val (.int (own_t3 tn)), .val (.int (own_l5 ln)), .val (.int cc), .val (.int cd), .val (.ref b1), .val (.ref b102), .val (.ref b204), .val (.int gg9)] [(.int gg9)])) tt
          refine XS.iconst X328.here hx rfl (hb hby at_465) ?_
          exact kk
        · have qw334 : w334 = (512 : Int32) := by rw [hw334, if_neg hc333]
          rw [qw334] at kk
          show Steps p.tables e below (T328.setTop (mkF m 456 #[.val (.int u0), .val (.int u1), .val (.int u2), .val (.int u3), .val (.int (own_t3 tn)), .val (.int (own_l5 ln)), .val (.int cc), .val (.int cd), .val (.ref b1), .val (.ref b102), .val (.ref b204), .val (.int gg9)] [(.int (own_seen (own_Z tn ln 9).1 (own_kf tn ln 9))), (.int gg9)])) tt
          refine XS.ifNo X328.here hx rfl (hb hby at_456) rfl ((if0 _ _).trans (feq hc333).1) ?_
          show Steps p.tables e below (T328.setTop (mkF m 459 #[.val (.int u0), .val (.int u1), .val (.int u2), .val (.int u3), .val (.int (own_t3 tn)), .val (.int (own_l5 ln)), .val (.int cc), .val (.int cd), .val (.ref b1), .val (.ref b102), .val (.ref b204), .val (.int gg9)] [(.int gg9)])) tt
          refine XS.sipush X328.here hx rfl (hb hby at_459) ?_
          show Steps p.tables e below (T328.setTop (mkF m 462 #[.val (.int u0), .val (.int u1), .val (.int u2), .val (.int u3), .val (.int (own_t3 tn)), .val (.int (own_l5 ln)), .val (.int cc), .val (.int cd), .val (.ref b1), .val (.ref b102), .val (.ref b204), .val (.int gg9)] [(.int (512 : Int32)), (.int gg9)])) tt
          refine XS.goto X328.here hx rfl (pc0 := 462) (pc' := 466) rfl (hb hby at_462) (by decide) (by decide) ?_
          exact kk
      obtain ⟨gg10, hgg10⟩ : ∃ z : Int32, z = (gg9 ||| w334) := ⟨_, rfl⟩
      refine Goal.to (B := T328.setTop (mkF m 469 #[.val (.int u0), .val (.int u1), .val (.int u2), .val (.int u3), .val (.int (own_t3 tn)), .val (.int (own_l5 ln)), .val (.int cc), .val (.int cd), .val (.ref b1), .val (.ref b102), .val (.ref b204), .val (.int gg10)] [])) (fun tt kk => ?_) ?_
      · subst hgg10
        show Steps p.tables e below (T328.setTop (mkF m 466 #[.val (.int u0), .val (.int u1), .val (.int u2), .val (.int u3), .val (.int (own_t3 tn)), .val (.int (own_l5 ln)), .val (.int cc), .val (.int cd), .val (.ref b1), .val (.ref b102), .val (.ref b204), .val (.int gg9)] [(.int w334), (.int gg9)])) tt
        refine XS.ior X328.here hx rfl (hb hby at_466) rfl ?_
        show Steps p.tables e below (T328.setTop (mkF m 467 #[.val (.int u0), .val (.int u1), .val (.int u2), .val (.int u3), .val (.int (own_t3 tn)), .val (.int (own_l5 ln)), .val (.int cc), .val (.int cd), .val (.ref b1), .val (.ref b102), .val (.ref b204), .val (.int gg9)] [(.int (gg9 ||| w334))])) tt
        refine XS.istore X328.here hx rfl (hb hby at_467) rfl (l' := #[.val (.int u0), .val (.int u1), .val (.int u2), .val (.int u3), .val (.int (own_t3 tn)), .val (.int (own_l5 ln)), .val (.int cc), .val (.int cd), .val (.ref b1), .val (.ref b102), .val (.ref b204), .val (.int (gg9 ||| w334))]) rfl ?_
        exact kk
      have hG10 : gg10 = own_G tn ln 10 := by rw [hgg10, hw334, own_G10 tn ln, hG9]
      refine Goal.to (B := T328.setTop (mkF m 483 #[.val (.int u0), .val (.int u1), .val (.int u2), .val (.int u3), .val (.int (own_t3 tn)), .val (.int (own_l5 ln)), .val (.int cc), .val (.int cd), .val (.ref b1), .val (.ref b102), .val (.ref b204), .val (.int gg10)] [(.int (own_l5 ln)), (.int (own_t3 tn)), (.int (10 : Int32)), (.ref b102), (.ref b1), (.ref b204), (.int gg10)])) (fun tt kk => ?_) ?_
      · show Steps p.tables e below (T328.setTop (mkF m 469 #[.val (.int u0), .val (.int u1), .val (.int u2), .val (.int u3), .val (.int (own_t3 tn)), .val (.int (own_l5 ln)), .val (.int cc), .val (.int cd), .val (.ref b1), .val (.ref b102), .val (.ref b204), .val (.int gg10)] [])) tt
        refine XS.iload X328.here hx rfl (hb hby at_469) rfl ?_
        show Steps p.tables e below (T328.setTop (mkF m 471 #[.val (.int u0), .val (.int u1), .val (.int u2), .val (.int u3), .val (.int (own_t3 tn)), .val (.int (own_l5 ln)), .val (.int cc), .val (.int cd), .val (.ref b1), .val (.ref b102), .val (.ref b204), .val (.int gg10)] [(.int gg10)])) tt
        refine XS.aload X328.here hx rfl (hb hby at_471) rfl rfl ?_
        show Steps p.tables e below (T328.setTop (mkF m 473 #[.val (.int u0), .val (.int u1), .val (.int u2), .val (.int u3), .val (.int (own_t3 tn)), .val (.int (own_l5 ln)), .val (.int cc), .val (.int cd), .val (.ref b1), .val (.ref b102), .val (.ref b204), .val (.int gg10)] [(.ref b204), (.int gg10)])) tt
        refine XS.aload X328.here hx rfl (hb hby at_473) rfl rfl ?_
        show Steps p.tables e below (T328.setTop (mkF m 475 #[.val (.int u0), .val (.int u1), .val (.int u2), .val (.int u3), .val (.int (own_t3 tn)), .val (.int (own_l5 ln)), .val (.int cc), .val (.int cd), .val (.ref b1), .val (.ref b102), .val (.ref b204), .val (.int gg10)] [(.ref b1), (.ref b204), (.int gg10)])) tt
        refine XS.aload X328.here hx rfl (hb hby at_475) rfl rfl ?_
        show Steps p.tables e below (T328.setTop (mkF m 477 #[.val (.int u0), .val (.int u1), .val (.int u2), .val (.int u3), .val (.int (own_t3 tn)), .val (.int (own_l5 ln)), .val (.int cc), .val (.int cd), .val (.ref b1), .val (.ref b102), .val (.ref b204), .val (.int gg10)] [(.ref b102), (.ref b1), (.ref b204), (.int gg10)])) tt
        refine XS.bipush X328.here hx rfl (hb hby at_477) ?_
        show Steps p.tables e below (T328.setTop (mkF m 479 #[.val (.int u0), .val (.int u1), .val (.int u2), .val (.int u3), .val (.int (own_t3 tn)), .val (.int (own_l5 ln)), .val (.int cc), .val (.int cd), .val (.ref b1), .val (.ref b102), .val (.ref b204), .val (.int gg10)] [(.int (10 : Int32)), (.ref b102), (.ref b1), (.ref b204), (.int gg10)])) tt
        refine XS.iload X328.here hx rfl (hb hby at_479) rfl ?_
        show Steps p.tables e below (T328.setTop (mkF m 481 #[.val (.int u0), .val (.int u1), .val (.int u2), .val (.int u3), .val (.int (own_t3 tn)), .val (.int (own_l5 ln)), .val (.int cc), .val (.int cd), .val (.ref b1), .val (.ref b102), .val (.ref b204), .val (.int gg10)] [(.int (own_t3 tn)), (.int (10 : Int32)), (.ref b102), (.ref b1), (.ref b204), (.int gg10)])) tt
        refine XS.iload X328.here hx rfl (hb hby at_481) rfl ?_
        exact kk
      have f335 : Exa Z T328.heap b204 "com/example/tributary/tributary/runtime/Revisits" := (f324.keep K328)
      have f336 : Ary Z T328.heap b1 (.object "java/lang/Object") [(.ref b2), (.ref b18), (.ref b40), (.ref b68)] := (f325.keep K328 (ninS ne_b1_b204 nin0))
      have f337 : Ary Z T328.heap b102 (.object "java/lang/Object") [(.ref b112), (.ref b155)] := (f326.keep K328 (ninS ne_b102_b204 nin0))
      have f338 : n0 ≤ T328.heap.size := (Nat.le_trans f327 K328.1)
      obtain ⟨_, _, ⟨T339, L339, k339, n339⟩, -, X339, ⟨Lc339, hQ339, l339, y339, z339⟩, st339⟩ := Jvm.LawKit.callS X328 hx (y := (⟨"com/example/tributary/tributary/runtime/RevisitsSeenBeforePinLaw", "step", "(Lcom/example/tributary/tributary/runtime/Revisits;[Ljava/lang/Object;[Ljava/lang/Object;III)Z"⟩ : MethodName)) hown (mvT hZ (hw _ (mw 43 rfl))) (mvT hZ (hw _ (mw 44 rfl))) (mvT hZ (hw _ (mw 45 rfl))) (mvT hZ (hw _ (mw 46 rfl))) (by decide) (backOf (W := 1) (rmst l Z a0 hw [] b204 b1 b102 b2 b18 b40 b68 b155 (.ref b112) (own_kf tn ln 10) (own_Z tn ln 10).1 (own_Z tn ln 10).2.1 (own_Z tn ln 10).2.2 (10 : Int32) (own_t3 tn) (own_l5 ln) T328.heap n0 f338 f335 R329 R330 R331 R332 f336 f337 g_b204 rfl (own_kk10 tn ln) (own_l0 ln) hD) hZ (hw _ (mw 46 rfl)) (hw _ (mw 45 rfl)) (by decide) (by decide)) (g := (mkF m 483 #[.val (.int u0), .val (.int u1), .val (.int u2), .val (.int u3), .val (.int (own_t3 tn)), .val (.int (own_l5 ln)), .val (.int cc), .val (.int cd), .val (.ref b1), .val (.ref b102), .val (.ref b204), .val (.int gg10)] [(.int (own_l5 ln)), (.int (own_t3 tn)), (.int (10 : Int32)), (.ref b102), (.ref b1), (.ref b204), (.int gg10)])) rfl (by rw [hml]; rfl) (argsL := [(.ref b204), (.ref b1), (.ref b102), (.int (10 : Int32)), (.int (own_t3 tn)), (.int (own_l5 ln))]) (rest := [(.int gg10)]) (lenOf pd_6 rfl) rfl (by show 2 * 0 + _ ≤ _; exact Nat.le_of_eq rfl) (hb hby at_483) (fun _ _ => ⟨rfl, rfl, (by decide : 21 + 0 ≤ _), (by decide : 46 + 0 ≤ _)⟩)
      dsimp only [Pt.U, Pt.locs, Pt.cells, Pt.slots] at X339 l339 y339 z339 st339 hQ339
      subst y339 z339
      obtain ⟨rfl, N339q, K339, P339_0, P339_1, P339_2, P339_3⟩ := hQ339
      have N339 := Fr.eqv l339 (Fr.app N328 N339q)
      refine Goal.to (B := T339.setTop (mkF m 486 #[.val (.int u0), .val (.int u1), .val (.int u2), .val (.int u3), .val (.int (own_t3 tn)), .val (.int (own_l5 ln)), .val (.int cc), .val (.int cd), .val (.ref b1), .val (.ref b102), .val (.ref b204), .val (.int gg10)] [(.int (own_seen (own_Z tn ln 10).1 (own_kf tn ln 10))), (.int gg10)])) st339 ?_
      have R340 : Fld Z T339.heap b204 "com/example/tributary/tributary/runtime/Revisits" "markedLeft" "Ljava/lang/Object;" (own_ML b2 b18 b40 b68 (own_Z tn ln 11).1) := by rw [own_Zm11 tn ln]; exact P339_0
      have R341 : Fld Z T339.heap b204 "com/example/tributary/tributary/runtime/Revisits" "markedRight" "Ljava/lang/Object;" (own_MR (.ref b112) b155 (own_Z tn ln 11).1) := by rw [own_Zm11 tn ln]; exact P339_1
      have R342 : Fld Z T339.heap b204 "com/example/tributary/tributary/runtime/Revisits" "sinceMark" "J" (.long (own_Z tn ln 11).2.1) := by rw [own_Zs11 tn ln]; exact P339_2
      have R343 : Fld Z T339.heap b204 "com/example/tributary/tributary/runtime/Revisits" "markInterval" "J" (.long (own_Z tn ln 11).2.2) := by rw [own_Zi11 tn ln]; exact P339_3
      obtain ⟨w345, hw345⟩ : ∃ z : Int32, z = if (own_seen (own_Z tn ln 10).1 (own_kf tn ln 10)) = (0 : Int32) then (0 : Int32) else (1024 : Int32) := ⟨_, rfl⟩
      refine Goal.to (B := T339.setTop (mkF m 496 #[.val (.int u0), .val (.int u1), .val (.int u2), .val (.int u3), .val (.int (own_t3 tn)), .val (.int (own_l5 ln)), .val (.int cc), .val (.int cd), .val (.ref b1), .val (.ref b102), .val (.ref b204), .val (.int gg10)] [(.int w345), (.int gg10)])) (fun tt kk => ?_) ?_
      · by_cases hc344 : (own_seen (own_Z tn ln 10).1 (own_kf tn ln 10)) = (0 : Int32)
        · have qw345 : w345 = (0 : Int32) := by rw [hw345, if_pos hc344]
          rw [qw345] at kk
          show Steps p.tables e below (T339.setTop (mkF m 486 #[.val (.int u0), .val (.int u1), .val (.int u2), .val (.int u3), .val (.int (own_t3 tn)), .val (.int (own_l5 ln)), .val (.int cc), .val (.int cd), .val (.ref b1), .val (.ref b102), .val (.ref b204), .val (.int gg10)] [(.int (own_seen (own_Z tn ln 10).1 (own_kf tn ln 10))), (.int gg10)])) tt
          refine XS.ifYes X339.here hx rfl (pc0 := 486) (pc' := 495) rfl (hb hby at_486) rfl ((if0 _ _).trans (teq hc344).1) (by decide) (by decide) ?_
          show Steps p.tables e below (T339.setTop (mkF m 495 #[.val (.int u0), .val (.int u1), .val (.int u2), .val (.int u3), .val (.int (own_t3 tn)), .val (.int (own_l5 ln)), .val (.int cc), .val (.int cd), .val (.ref b1), .val (.ref b102), .val (.ref b204), .val (.int gg10)] [(.int gg10)])) tt
          refine XS.iconst X339.here hx rfl (hb hby at_495) ?_
          exact kk
        · have qw345 : w345 = (1024 : Int32) := by rw [hw345, if_neg hc344]
          rw [qw345] at kk
          show Steps p.tables e below (T339.setTop (mkF m 486 #[.val (.int u0), .val (.int u1), .val (.int u2), .val (.int u3), .val (.int (own_t3 tn)), .val (.int (own_l5 ln)), .val (.int cc), .val (.int cd), .val (.ref b1), .val (.ref b102), .val (.ref b204), .val (.int gg10)] [(.int (own_seen (own_Z tn ln 10).1 (own_kf tn ln 10))), (.int gg10)])) tt
          refine XS.ifNo X339.here hx rfl (hb hby at_486) rfl ((if0 _ _).trans (feq hc344).1) ?_
          show Steps p.tables e below (T339.setTop (mkF m 489 #[.val (.int u0), .val (.int u1), .val (.int u2), .val (.int u3), .val (.int (own_t3 tn)), .val (.int (own_l5 ln)), .val (.int cc), .val (.int cd), .val (.ref b1), .val (.ref b102), .val (.ref b204), .val (.int gg10)] [(.int gg10)])) tt
          refine XS.sipush X339.here hx rfl (hb hby at_489) ?_
          show Steps p.tables e below (T339.setTop (mkF m 492 #[.val (.int u0), .val (.int u1), .val (.int u2), .val (.int u3), .val (.int (own_t3 tn)), .val (.int (own_l5 ln)), .val (.int cc), .val (.int cd), .val (.ref b1), .val (.ref b102), .val (.ref b204), .val (.int gg10)] [(.int (1024 : Int32)), (.int gg10)])) tt
          refine XS.goto X339.here hx rfl (pc0 := 492) (pc' := 496) rfl (hb hby at_492) (by decide) (by decide) ?_
          exact kk
      obtain ⟨gg11, hgg11⟩ : ∃ z : Int32, z = (gg10 ||| w345) := ⟨_, rfl⟩
      refine Goal.to (B := T339.setTop (mkF m 499 #[.val (.int u0), .val (.int u1), .val (.int u2), .val (.int u3), .val (.int (own_t3 tn)), .val (.int (own_l5 ln)), .val (.int cc), .val (.int cd), .val (.ref b1), .val (.ref b102), .val (.ref b204), .val (.int gg11)] [])) (fun tt kk => ?_) ?_
      · subst hgg11
        show Steps p.tables e below (T339.setTop (mkF m 496 #[.val (.int u0), .val (.int u1), .val (.int u2), .val (.int u3), .val (.int (own_t3 tn)), .val (.int (own_l5 ln)), .val (.int cc), .val (.int cd), .val (.ref b1), .val (.ref b102), .val (.ref b204), .val (.int gg10)] [(.int w345), (.int gg10)])) tt
        refine XS.ior X339.here hx rfl (hb hby at_496) rfl ?_
        show Steps p.tables e below (T339.setTop (mkF m 497 #[.val (.int u0), .val (.int u1), .val (.int u2), .val (.int u3), .val (.int (own_t3 tn)), .val (.int (own_l5 ln)), .val (.int cc), .val (.int cd), .val (.ref b1), .val (.ref b102), .val (.ref b204), .val (.int gg10)] [(.int (gg10 ||| w345))])) tt
        refine XS.istore X339.here hx rfl (hb hby at_497) rfl (l' := #[.val (.int u0), .val (.int u1), .val (.int u2), .val (.int u3), .val (.int (own_t3 tn)), .val (.int (own_l5 ln)), .val (.int cc), .val (.int cd), .val (.ref b1), .val (.ref b102), .val (.ref b204), .val (.int (gg10 ||| w345))]) rfl ?_
        exact kk
      have hG11 : gg11 = own_G tn ln 11 := by rw [hgg11, hw345, own_G11 tn ln, hG10]
      refine Goal.to (B := T339.setTop (mkF m 513 #[.val (.int u0), .val (.int u1), .val (.int u2), .val (.int u3), .val (.int (own_t3 tn)), .val (.int (own_l5 ln)), .val (.int cc), .val (.int cd), .val (.ref b1), .val (.ref b102), .val (.ref b204), .val (.int gg11)] [(.int (own_l5 ln)), (.int (own_t3 tn)), (.int (11 : Int32)), (.ref b102), (.ref b1), (.ref b204), (.int gg11)])) (fun tt kk => ?_) ?_
      · show Steps p.tables e below (T339.setTop (mkF m 499 #[.val (.int u0), .val (.int u1), .val (.int u2), .val (.int u3), .val (.int (own_t3 tn)), .val (.int (own_l5 ln)), .val (.int cc), .val (.int cd), .val (.ref b1), .val (.ref b102), .val (.ref b204), .val (.int gg11)] [])) tt
        refine XS.iload X339.here hx rfl (hb hby at_499) rfl ?_
        show Steps p.tables e below (T339.setTop (mkF m 501 #[.val (.int u0), .val (.int u1), .val (.int u2), .val (.int u3), .val (.int (own_t3 tn)), .val (.int (own_l5 ln)), .val (.int cc), .val (.int cd), .val (.ref b1), .val (.ref b102), .val (.ref b204), .val (.int gg11)] [(.int gg11)])) tt
        refine XS.aload X339.here hx rfl (hb hby at_501) rfl rfl ?_
        show Steps p.tables e below (T339.setTop (mkF m 503 #[.val (.int u0), .val (.int u1), .val (.int u2), .val (.int u3), .val (.int (own_t3 tn)), .val (.int (own_l5 ln)), .val (.int cc), .val (.int cd), .val (.ref b1), .val (.ref b102), .val (.ref b204), .val (.int gg11)] [(.ref b204), (.int gg11)])) tt
        refine XS.aload X339.here hx rfl (hb hby at_503) rfl rfl ?_
        show Steps p.tables e below (T339.setTop (mkF m 505 #[.val (.int u0), .val (.int u1), .val (.int u2), .val (.int u3), .val (.int (own_t3 tn)), .val (.int (own_l5 ln)), .val (.int cc), .val (.int cd), .val (.ref b1), .val (.ref b102), .val (.ref b204), .val (.int gg11)] [(.ref b1), (.ref b204), (.int gg11)])) tt
        refine XS.aload X339.here hx rfl (hb hby at_505) rfl rfl ?_
        show Steps p.tables e below (T339.setTop (mkF m 507 #[.val (.int u0), .val (.int u1), .val (.int u2), .val (.int u3), .val (.int (own_t3 tn)), .val (.int (own_l5 ln)), .val (.int cc), .val (.int cd), .val (.ref b1), .val (.ref b102), .val (.ref b204), .val (.int gg11)] [(.ref b102), (.ref b1), (.ref b204), (.int gg11)])) tt
        refine XS.bipush X339.here hx rfl (hb hby at_507) ?_
        show Steps p.tables e below (T339.setTop (mkF m 509 #[.val (.int u0), .val (.int u1), .val (.int u2), .val (.int u3), .val (.int (own_t3 tn)), .val (.int (own_l5 ln)), .val (.int cc), .val (.int cd), .val (.ref b1), .val (.ref b102), .val (.ref b204), .val (.int gg11)] [(.int (11 : Int32)), (.ref b102), (.ref b1), (.ref b204), (.int gg11)])) tt
        refine XS.iload X339.here hx rfl (hb hby at_509) rfl ?_
        show Steps p.tables e below (T339.setTop (mkF m 511 #[.val (.int u0), .val (.int u1), .val (.int u2), .val (.int u3), .val (.int (own_t3 tn)), .val (.int (own_l5 ln)), .val (.int cc), .val (.int cd), .val (.ref b1), .val (.ref b102), .val (.ref b204), .val (.int gg11)] [(.int (own_t3 tn)), (.int (11 : Int32)), (.ref b102), (.ref b1), (.ref b204), (.int gg11)])) tt
        refine XS.iload X339.here hx rfl (hb hby at_511) rfl ?_
        exact kk
      have f346 : Exa Z T339.heap b204 "com/example/tributary/tributary/runtime/Revisits" := (f335.keep K339)
      have f347 : Ary Z T339.heap b1 (.object "java/lang/Object") [(.ref b2), (.ref b18), (.ref b40), (.ref b68)] := (f336.keep K339 (ninS ne_b1_b204 nin0))
      have f348 : Ary Z T339.heap b102 (.object "java/lang/Object") [(.ref b112), (.ref b155)] := (f337.keep K339 (ninS ne_b102_b204 nin0))
      have f349 : n0 ≤ T339.heap.size := (Nat.le_trans f338 K339.1)
      obtain ⟨_, _, ⟨T350, L350, k350, n350⟩, -, X350, ⟨Lc350, hQ350, l350, y350, z350⟩, st350⟩ := Jvm.LawKit.callS X339 hx (y := (⟨"com/example/tributary/tributary/runtime/RevisitsSeenBeforePinLaw", "step", "(Lcom/example/tributary/tributary/runtime/Revisits;[Ljava/lang/Object;[Ljava/lang/Object;III)Z"⟩ : MethodName)) hown (mvT hZ (hw _ (mw 43 rfl))) (mvT hZ (hw _ (mw 44 rfl))) (mvT hZ (hw _ (mw 45 rfl))) (mvT hZ (hw _ (mw 46 rfl))) (by decide) (backOf (W := 1) (rmst l Z a0 hw [] b204 b1 b102 b2 b18 b40 b68 b155 (.ref b112) (own_kf tn ln 11) (own_Z tn ln 11).1 (own_Z tn ln 11).2.1 (own_Z tn ln 11).2.2 (11 : Int32) (own_t3 tn) (own_l5 ln) T339.heap n0 f349 f346 R340 R341 R342 R343 f347 f348 g_b204 rfl (own_kk11 tn ln) (own_l0 ln) hD) hZ (hw _ (mw 46 rfl)) (hw _ (mw 45 rfl)) (by decide) (by decide)) (g := (mkF m 513 #[.val (.int u0), .val (.int u1), .val (.int u2), .val (.int u3), .val (.int (own_t3 tn)), .val (.int (own_l5 ln)), .val (.int cc), .val (.int cd), .val (.ref b1), .val (.ref b102), .val (.ref b204), .val (.int gg11)] [(.int (own_l5 ln)), (.int (own_t3 tn)), (.int (11 : Int32)), (.ref b102), (.ref b1), (.ref b204), (.int gg11)])) rfl (by rw [hml]; rfl) (argsL := [(.ref b204), (.ref b1), (.ref b102), (.int (11 : Int32)), (.int (own_t3 tn)), (.int (own_l5 ln))]) (rest := [(.int gg11)]) (lenOf pd_6 rfl) rfl (by show 2 * 0 + _ ≤ _; exact Nat.le_of_eq rfl) (hb hby at_513) (fun _ _ => ⟨rfl, rfl, (by decide : 21 + 0 ≤ _), (by decide : 46 + 0 ≤ _)⟩)
      dsimp only [Pt.U, Pt.locs, Pt.cells, Pt.slots] at X350 l350 y350 z350 st350 hQ350
      subst y350 z350
      obtain ⟨rfl, N350q, K350, P350_0, P350_1, P350_2, P350_3⟩ := hQ350
      have N350 := Fr.eqv l350 (Fr.app N339 N350q)
      refine Goal.to (B := T350.setTop (mkF m 516 #[.val (.int u0), .val (.int u1), .val (.int u2), .val (.int u3), .val (.int (own_t3 tn)), .val (.int (own_l5 ln)), .val (.int cc), .val (.int cd), .val (.ref b1), .val (.ref b102), .val (.ref b204), .val (.int gg11)] [(.int (own_seen (own_Z tn ln 11).1 (own_kf tn ln 11))), (.int gg11)])) st350 ?_
      have R351 : Fld Z T350.heap b204 "com/example/tributary/tributary/runtime/Revisits" "markedLeft" "Ljava/lang/Object;" (own_ML b2 b18 b40 b68 (own_Z tn ln 12).1) := by rw [own_Zm12 tn ln]; exact P350_0
      have R352 : Fld Z T350.heap b204 "com/example/tributary/tributary/runtime/Revisits" "markedRight" "Ljava/lang/Object;" (own_MR (.ref b112) b155 (own_Z tn ln 12).1) := by rw [own_Zm12 tn ln]; exact P350_1
      have R353 : Fld Z T350.heap b204 "com/example/tributary/tributary/runtime/Revisits" "sinceMark" "J" (.long (own_Z tn ln 12).2.1) := by rw [own_Zs12 tn ln]; exact P350_2
      have R354 : Fld Z T350.heap b204 "com/example/tributary/tributary/runtime/Revisits" "markInterval" "J" (.long (own_Z tn ln 12).2.2) := by rw [own_Zi12 tn ln]; exact P350_3
      obtain ⟨w356, hw356⟩ : ∃ z : Int32, z = if (own_seen (own_Z tn ln 11).1 (own_kf tn ln 11)) = (0 : Int32) then (0 : Int32) else (2048 : Int32) := ⟨_, rfl⟩
      refine Goal.to (B := T350.setTop (mkF m 526 #[.val (.int u0), .val (.int u1), .val (.int u2), .val (.int u3), .val (.int (own_t3 tn)), .val (.int (own_l5 ln)), .val (.int cc), .val (.int cd), .val (.ref b1), .val (.ref b102), .val (.ref b204), .val (.int gg11)] [(.int w356), (.int gg11)])) (fun tt kk => ?_) ?_
      · by_cases hc355 : (own_seen (own_Z tn ln 11).1 (own_kf tn ln 11)) = (0 : Int32)
        · have qw356 : w356 = (0 : Int32) := by rw [hw356, if_pos hc355]
          rw [qw356] at kk
          show Steps p.tables e below (T350.setTop (mkF m 516 #[.val (.int u0), .val (.int u1), .val (.int u2), .val (.int u3), .val (.int (own_t3 tn)), .val (.int (own_l5 ln)), .val (.int cc), .val (.int cd), .val (.ref b1), .val (.ref b102), .val (.ref b204), .val (.int gg11)] [(.int (own_seen (own_Z tn ln 11).1 (own_kf tn ln 11))), (.int gg11)])) tt
          refine XS.ifYes X350.here hx rfl (pc0 := 516) (pc' := 525) rfl (hb hby at_516) rfl ((if0 _ _).trans (teq hc355).1) (by decide) (by decide) ?_
          show Steps p.tables e below (T350.setTop (mkF m 525 #[.val (.int u0), .val (.int u1), .val (.int u2), .val (.int u3), .val (.int (own_t3 tn)), .val (.int (own_l5 ln)), .val (.int cc), .val (.int cd), .val (.ref b1), .val (.ref b102), .val (.ref b204), .val (.int gg11)] [(.int gg11)])) tt
          refine XS.iconst X350.here hx rfl (hb hby at_525) ?_
          exact kk
        · have qw356 : w356 = (2048 : Int32) := by rw [hw356, if_neg hc355]
          rw [qw356] at kk
          show Steps p.tables e below (T350.setTop (mkF m 516 #[.val (.int u0), .val (.int u1), .val (.int u2), .val (.int u3), .val (.int (own_t3 tn)), .val (.int (own_l5 ln)), .val (.int cc), .val (.int cd), .val (.ref b1), .val (.ref b102), .val (.ref b204), .val (.int gg11)] [(.int (own_seen (own_Z tn ln 11).1 (own_kf tn ln 11))), (.int gg11)])) tt
          refine XS.ifNo X350.here hx rfl (hb hby at_516) rfl ((if0 _ _).trans (feq hc355).1) ?_
          show Steps p.tables e below (T350.setTop (mkF m 519 #[.val (.int u0), .val (.int u1), .val (.int u2), .val (.int u3), .val (.int (own_t3 tn)), .val (.int (own_l5 ln)), .val (.int cc), .val (.int cd), .val (.ref b1), .val (.ref b102), .val (.ref b204), .val (.int gg11)] [(.int gg11)])) tt
          refine XS.sipush X350.here hx rfl (hb hby at_519) ?_
          show Steps p.tables e below (T350.setTop (mkF m 522 #[.val (.int u0), .val (.int u1), .val (.int u2), .val (.int u3), .val (.int (own_t3 tn)), .val (.int (own_l5 ln)), .val (.int cc), .val (.int cd), .val (.ref b1), .val (.ref b102), .val (.ref b204), .val (.int gg11)] [(.int (2048 : Int32)), (.int gg11)])) tt
          refine XS.goto X350.here hx rfl (pc0 := 522) (pc' := 526) rfl (hb hby at_522) (by decide) (by decide) ?_
          exact kk
      obtain ⟨gg12, hgg12⟩ : ∃ z : Int32, z = (gg11 ||| w356) := ⟨_, rfl⟩
      refine Goal.to (B := T350.setTop (mkF m 529 #[.val (.int u0), .val (.int u1), .val (.int u2), .val (.int u3), .val (.int (own_t3 tn)), .val (.int (own_l5 ln)), .val (.int cc), .val (.int cd), .val (.ref b1), .val (.ref b102), .val (.ref b204), .val (.int gg12)] [])) (fun tt kk => ?_) ?_
      · subst hgg12
        show Steps p.tables e below (T350.setTop (mkF m 526 #[.val (.int u0), .val (.int u1), .val (.int u2), .val (.int u3), .val (.int (own_t3 tn)), .val (.int (own_l5 ln)), .val (.int cc), .val (.int cd), .val (.ref b1), .val (.ref b102), .val (.ref b204), .val (.int gg11)] [(.int w356), (.int gg11)])) tt
        refine XS.ior X350.here hx rfl (hb hby at_526) rfl ?_
        show Steps p.tables e below (T350.setTop (mkF m 527 #[.val (.int u0), .val (.int u1), .val (.int u2), .val (.int u3), .val (.int (own_t3 tn)), .val (.int (own_l5 ln)), .val (.int cc), .val (.int cd), .val (.ref b1), .val (.ref b102), .val (.ref b204), .val (.int gg11)] [(.int (gg11 ||| w356))])) tt
        refine XS.istore X350.here hx rfl (hb hby at_527) rfl (l' := #[.val (.int u0), .val (.int u1), .val (.int u2), .val (.int u3), .val (.int (own_t3 tn)), .val (.int (own_l5 ln)), .val (.int cc), .val (.int cd), .val (.ref b1), .val (.ref b102), .val (.ref b204), .val (.int (gg11 ||| w356))]) rfl ?_
        exact kk
      have hG12 : gg12 = own_G tn ln 12 := by rw [hgg12, hw356, own_G12 tn ln, hG11]
      refine Goal.to (B := T350.setTop (mkF m 535 #[.val (.int u0), .val (.int u1), .val (.int u2), .val (.int u3), .val (.int (own_t3 tn)), .val (.int (own_l5 ln)), .val (.int cc), .val (.int cd), .val (.ref b1), .val (.ref b102), .val (.ref b204), .val (.int gg12)] [(.int (own_l5 ln)), (.int (own_t3 tn)), (.int gg12)])) (fun tt kk => ?_) ?_
      · show Steps p.tables e below (T350.setTop (mkF m 529 #[.val (.int u0), .val (.int u1), .val (.int u2), .val (.int u3), .val (.int (own_t3 tn)), .val (.int (own_l5 ln)), .val (.int cc), .val (.int cd), .val (.ref b1), .val (.ref b102), .val (.ref b204), .val (.int gg12)] [])) tt
        refine XS.iload X350.here hx rfl (hb hby at_529) rfl ?_
        show Steps p.tables e below (T350.setTop (mkF m 531 #[.val (.int u0), .val (.int u1), .val (.int u2), .val (.int u3), .val (.int (own_t3 tn)), .val (.int (own_l5 ln)), .val (.int cc), .val (.int cd), .val (.ref b1), .val (.ref b102), .val (.ref b204), .val (.int gg12)] [(.int gg12)])) tt
        refine XS.iload X350.here hx rfl (hb hby at_531) rfl ?_
        show Steps p.tables e below (T350.setTop (mkF m 533 #[.val (.int u0), .val (.int u1), .val (.int u2), .val (.int u3), .val (.int (own_t3 tn)), .val (.int (own_l5 ln)), .val (.int cc), .val (.int cd), .val (.ref b1), .val (.ref b102), .val (.ref b204), .val (.int gg12)] [(.int (own_t3 tn)), (.int gg12)])) tt
        refine XS.iload X350.here hx rfl (hb hby at_533) rfl ?_
        exact kk
      have f357 : n0 ≤ T350.heap.size := (Nat.le_trans f349 K350.1)
      obtain ⟨_, _, ⟨T358, L358, k358, n358⟩, -, X358, ⟨Lc358, hQ358, l358, y358, z358⟩, st358⟩ := Jvm.LawKit.callS X350 hx (y := (⟨"com/example/tributary/tributary/runtime/RevisitsSeenBeforePinLaw", "expected", "(II)I"⟩ : MethodName)) hown (mvT hZ (hw _ (mw 59 rfl))) (mvT hZ (hw _ (mw 60 rfl))) (mvT hZ (hw _ (mw 45 rfl))) (mvT hZ (hw _ (mw 61 rfl))) (by decide) (backOf (W := 1) (rmex l Z a0 hw [] (own_t3 tn) (own_l5 ln) T350.heap n0 f357 ) hZ (hw _ (mw 61 rfl)) (hw _ (mw 45 rfl)) (by decide) (by decide)) (g := (mkF m 535 #[.val (.int u0), .val (.int u1), .val (.int u2), .val (.int u3), .val (.int (own_t3 tn)), .val (.int (own_l5 ln)), .val (.int cc), .val (.int cd), .val (.ref b1), .val (.ref b102), .val (.ref b204), .val (.int gg12)] [(.int (own_l5 ln)), (.int (own_t3 tn)), (.int gg12)])) rfl (by rw [hml]; rfl) (argsL := [(.int (own_t3 tn)), (.int (own_l5 ln))]) (rest := [(.int gg12)]) (lenOf pd_8 rfl) rfl (by show 2 * 0 + _ ≤ _; exact Nat.le_of_eq rfl) (hb hby at_535) (fun _ _ => ⟨rfl, rfl, (by decide : 21 + 0 ≤ _), (by decide : 46 + 0 ≤ _)⟩)
      dsimp only [Pt.U, Pt.locs, Pt.cells, Pt.slots] at X358 l358 y358 z358 st358 hQ358
      subst y358 z358
      obtain ⟨rfl, N358q, e358⟩ := hQ358
      have N358 := Fr.eqv l358 (Fr.app N350 N358q)
      refine Goal.to (B := T358.setTop (mkF m 538 #[.val (.int u0), .val (.int u1), .val (.int u2), .val (.int u3), .val (.int (own_t3 tn)), .val (.int (own_l5 ln)), .val (.int cc), .val (.int cd), .val (.ref b1), .val (.ref b102), .val (.ref b204), .val (.int gg12)] [(.int (own_exp (own_t3 tn) (own_l5 ln))), (.int gg12)])) st358 ?_
      refine Goal.to (B := T358.setTop (mkF m 546 #[.val (.int u0), .val (.int u1), .val (.int u2), .val (.int u3), .val (.int (own_t3 tn)), .val (.int (own_l5 ln)), .val (.int cc), .val (.int cd), .val (.ref b1), .val (.ref b102), .val (.ref b204), .val (.int gg12)] [(.int (1 : Int32))])) (fun tt kk => ?_) ?_
      · show Steps p.tables e below (T358.setTop (mkF m 538 #[.val (.int u0), .val (.int u1), .val (.int u2), .val (.int u3), .val (.int (own_t3 tn)), .val (.int (own_l5 ln)), .val (.int cc), .val (.int cd), .val (.ref b1), .val (.ref b102), .val (.ref b204), .val (.int gg12)] [(.int (own_exp (own_t3 tn) (own_l5 ln))), (.int gg12)])) tt
        refine XS.icmpNo X358.here hx rfl (hb hby at_538) rfl (teq (by rw [hG12]; exact own_end tn ln : gg12 = (own_exp (own_t3 tn) (own_l5 ln)))).2 ?_
        show Steps p.tables e below (T358.setTop (mkF m 541 #[.val (.int u0), .val (.int u1), .val (.int u2), .val (.int u3), .val (.int (own_t3 tn)), .val (.int (own_l5 ln)), .val (.int cc), .val (.int cd), .val (.ref b1), .val (.ref b102), .val (.ref b204), .val (.int gg12)] [])) tt
        refine XS.iconst X358.here hx rfl (hb hby at_541) ?_
        show Steps p.tables e below (T358.setTop (mkF m 542 #[.val (.int u0), .val (.int u1), .val (.int u2), .val (.int u3), .val (.int (own_t3 tn)), .val (.int (own_l5 ln)), .val (.int cc), .val (.int cd), .val (.ref b1), .val (.ref b102), .val (.ref b204), .val (.int gg12)] [(.int (1 : Int32))])) tt
        refine XS.goto X358.here hx rfl (pc0 := 542) (pc' := 546) rfl (hb hby at_542) (by decide) (by decide) ?_
        exact kk
      exact Goal.retV X358 hx Bd.returns rfl (Or.inl ⟨rfl, Or.inr (Or.inl rfl), _, rfl⟩) (hb hby at_546) hlk e358 ⟨rfl, N358⟩ (by decide) (by decide)
    · refine Goal.to (B := T102.setTop (mkF m 153 #[.val (.int u0), .val (.int u1), .val (.int u2), .val (.int u3), .val (.int (own_t3 tn)), .val (.int (own_l5 ln)), .val (.int cc), .val (.int cd), .val (.ref b1), .val (.ref b102), .unset, .unset] [.null, (.int (0 : Int32)), (.ref b102)])) (fun tt kk => ?_) ?_
      · show Steps p.tables e below (T102.setTop (mkF m 131 #[.val (.int u0), .val (.int u1), .val (.int u2), .val (.int u3), .val (.int (own_t3 tn)), .val (.int (own_l5 ln)), .val (.int cc), .val (.int cd), .val (.ref b1), .val (.ref b102), .unset, .unset] [(.int (u3 &&& (1 : Int32))), (.int (0 : Int32)), (.ref b102)])) tt
        refine XS.ifNo X102.here hx rfl (hb hby at_131) rfl ((if0 _ _).trans (feq hfl).1) ?_
        show Steps p.tables e below (T102.setTop (mkF m 134 #[.val (.int u0), .val (.int u1), .val (.int u2), .val (.int u3), .val (.int (own_t3 tn)), .val (.int (own_l5 ln)), .val (.int cc), .val (.int cd), .val (.ref b1), .val (.ref b102), .unset, .unset] [(.int (0 : Int32)), (.ref b102)])) tt
        refine XS.aconstNull X102.here hx rfl (hb hby at_134) ?_
        show Steps p.tables e below (T102.setTop (mkF m 135 #[.val (.int u0), .val (.int u1), .val (.int u2), .val (.int u3), .val (.int (own_t3 tn)), .val (.int (own_l5 ln)), .val (.int cc), .val (.int cd), .val (.ref b1), .val (.ref b102), .unset, .unset] [.null, (.int (0 : Int32)), (.ref b102)])) tt
        refine XS.goto X102.here hx rfl (pc0 := 135) (pc' := 153) rfl (hb hby at_135) (by decide) (by decide) ?_
        exact kk
      obtain ⟨cl359, Ar359, Sl359⟩ := id V102
      have hin359 := inA (cl := cl359) Sl359 (j := (0 : Int32)) (by decide) (Nat.le_of_ble_eq_true rfl)
      obtain ⟨T359, h359, X359, e359, W359, st359⟩ := stR X102 hx hZ e102 Ar359 (j := (0 : Int32)) hin359 rfl (Or.inl rfl) (g := (mkF m 153 #[.val (.int u0), .val (.int u1), .val (.int u2), .val (.int u3), .val (.int (own_t3 tn)), .val (.int (own_l5 ln)), .val (.int cc), .val (.int cd), .val (.ref b1), .val (.ref b102), .unset, .unset] [.null, (.int (0 : Int32)), (.ref b102)])) rfl rfl (hb hby at_153)
      have V359 : Ary Z h359 b102 (.object "java/lang/Object") [.null, .null] := Ary.put Ar359 Sl359 W359 rfl
      have N359 := Fr.snoc X359 N100 g_b102
      refine Goal.to (B := T359.setTop (mkF m 154 #[.val (.int u0), .val (.int u1), .val (.int u2), .val (.int u3), .val (.int (own_t3 tn)), .val (.int (own_l5 ln)), .val (.int cc), .val (.int cd), .val (.ref b1), .val (.ref b102), .unset, .unset] [])) st359 ?_
      refine Goal.to (B := T359.setTop (mkF m 157 #[.val (.int u0), .val (.int u1), .val (.int u2), .val (.int u3), .val (.int (own_t3 tn)), .val (.int (own_l5 ln)), .val (.int cc), .val (.int cd), .val (.ref b1), .val (.ref b102), .unset, .unset] [(.int (1 : Int32)), (.ref b102)])) (fun tt kk => ?_) ?_
      · show Steps p.tables e below (T359.setTop (mkF m 154 #[.val (.int u0), .val (.int u1), .val (.int u2), .val (.int u3), .val (.int (own_t3 tn)), .val (.int (own_l5 ln)), .val (.int cc), .val (.int cd), .val (.ref b1), .val (.ref b102), .unset, .unset] [])) tt
        refine XS.aload X359.here hx rfl (hb hby at_154) rfl rfl ?_
        show Steps p.tables e below (T359.setTop (mkF m 156 #[.val (.int u0), .val (.int u1), .val (.int u2), .val (.int u3), .val (.int (own_t3 tn)), .val (.int (own_l5 ln)), .val (.int cc), .val (.int cd), .val (.ref b1), .val (.ref b102), .unset, .unset] [(.ref b102)])) tt
        refine XS.iconst X359.here hx rfl (hb hby at_156) ?_
        exact kk
      have f361 : Ary Z h359 b1 (.object "java/lang/Object") [(.ref b2), (.ref b18), (.ref b40), (.ref b68)] := ((V100.ext E102).other W359 ne_b1_b102)
      have f362 : Exa Z h359 b2 "java/lang/String" := ((f103.ext E102).wr W359)
      have f363 : Ary Z h359 b4 .char [(.int (nar .char cc))] := ((f104.ext E102).other W359 ne_b4_b102)
      have f364 : Exa Z h359 b18 "java/lang/String" := ((f105.ext E102).wr W359)
      have f365 : Ary Z h359 b22 .char [(.int (nar .char cc))] := ((f106.ext E102).other W359 ne_b22_b102)
      have f366 : Exa Z h359 b40 "java/lang/String" := ((f107.ext E102).wr W359)
      have f367 : Ary Z h359 b46 .char [(.int (nar .char cc))] := ((f108.ext E102).other W359 ne_b46_b102)
      have f368 : Exa Z h359 b68 "java/lang/String" := ((f109.ext E102).wr W359)
      have f369 : Ary Z h359 b76 .char [(.int (nar .char cc))] := ((f110.ext E102).other W359 ne_b76_b102)
      have f370 : n0 ≤ h359.size := (Nat.le_trans (Nat.le_trans f111 E102.1) (Keep.of_wr W359).1)
      obtain ⟨T360, h360, X360, e360, E360, A360, D360, -, st360⟩ := newO X359 hx hZ hown (hw _ (mw 3 rfl)) (hw _ (mw 4 rfl)) (hw _ (mw 5 rfl)) e359 (g := (mkF m 157 #[.val (.int u0), .val (.int u1), .val (.int u2), .val (.int u3), .val (.int (own_t3 tn)), .val (.int (own_l5 ln)), .val (.int cc), .val (.int cd), .val (.ref b1), .val (.ref b102), .unset, .unset] [(.int (1 : Int32)), (.ref b102)])) rfl (hb hby at_157) (by decide) (by decide)
      obtain ⟨b360, g360⟩ : ∃ z, z = h359.size := ⟨_, rfl⟩
      rw [← g360] at A360 D360 st360
      have ne_b1_b360 : b1 ≠ b360 := Nat.ne_of_lt (Nat.lt_of_lt_of_le f361.lt (Nat.le_of_eq g360.symm))
      have ne_b2_b360 : b2 ≠ b360 := Nat.ne_of_lt (Nat.lt_of_lt_of_le f362.lt (Nat.le_of_eq g360.symm))
      have ne_b4_b360 : b4 ≠ b360 := Nat.ne_of_lt (Nat.lt_of_lt_of_le f363.lt (Nat.le_of_eq g360.symm))
      have ne_b18_b360 : b18 ≠ b360 := Nat.ne_of_lt (Nat.lt_of_lt_of_le f364.lt (Nat.le_of_eq g360.symm))
      have ne_b22_b360 : b22 ≠ b360 := Nat.ne_of_lt (Nat.lt_of_lt_of_le f365.lt (Nat.le_of_eq g360.symm))
      have ne_b40_b360 : b40 ≠ b360 := Nat.ne_of_lt (Nat.lt_of_lt_of_le f366.lt (Nat.le_of_eq g360.symm))
      have ne_b46_b360 : b46 ≠ b360 := Nat.ne_of_lt (Nat.lt_of_lt_of_le f367.lt (Nat.le_of_eq g360.symm))
      have ne_b68_b360 : b68 ≠ b360 := Nat.ne_of_lt (Nat.lt_of_lt_of_le f368.lt (Nat.le_of_eq g360.symm))
      have ne_b76_b360 : b76 ≠ b360 := Nat.ne_of_lt (Nat.lt_of_lt_of_le f369.lt (Nat.le_of_eq g360.symm))
      have ne_b102_b360 : b102 ≠ b360 := Nat.ne_of_lt (Nat.lt_of_lt_of_le V359.lt (Nat.le_of_eq g360.symm))
      have g_b360 : n0 ≤ b360 := Nat.le_trans f370 (Nat.le_of_eq g360.symm)
      have F_coder_b360 : Fld Z h360 b360 "java/lang/String" "coder" "B" (.int (0 : Int32)) := D360 (Or.inr (hw _ (mw 30 rfl))) (ty := .byte) (by decide)
      have F_value_b360 : Fld Z h360 b360 "java/lang/String" "value" "[B" .null := D360 (Or.inr (hw _ (mw 32 rfl))) (ty := (.array .byte)) (by decide)
      refine Goal.to (B := T360.setTop (mkF m 160 #[.val (.int u0), .val (.int u1), .val (.int u2), .val (.int u3), .val (.int (own_t3 tn)), .val (.int (own_l5 ln)), .val (.int cc), .val (.int cd), .val (.ref b1), .val (.ref b102), .unset, .unset] [(.ref b360), (.int (1 : Int32)), (.ref b102)])) st360 ?_
      refine Goal.to (B := T360.setTop (mkF m 162 #[.val (.int u0), .val (.int u1), .val (.int u2), .val (.int u3), .val (.int (own_t3 tn)), .val (.int (own_l5 ln)), .val (.int cc), .val (.int cd), .val (.ref b1), .val (.ref b102), .unset, .unset] [(.int (1 : Int32)), (.ref b360), (.ref b360), (.int (1 : Int32)), (.ref b102)])) (fun tt kk => ?_) ?_
      · show Steps p.tables e below (T360.setTop (mkF m 160 #[.val (.int u0), .val (.int u1), .val (.int u2), .val (.int u3), .val (.int (own_t3 tn)), .val (.int (own_l5 ln)), .val (.int cc), .val (.int cd), .val (.ref b1), .val (.ref b102), .unset, .unset] [(.ref b360), (.int (1 : Int32)), (.ref b102)])) tt
        refine XS.dup X360.here hx rfl (hb hby at_160) rfl rfl ?_
        show Steps p.tables e below (T360.setTop (mkF m 161 #[.val (.int u0), .val (.int u1), .val (.int u2), .val (.int u3), .val (.int (own_t3 tn)), .val (.int (own_l5 ln)), .val (.int cc), .val (.int cd), .val (.ref b1), .val (.ref b102), .unset, .unset] [(.ref b360), (.ref b360), (.int (1 : Int32)), (.ref b102)])) tt
        refine XS.iconst X360.here hx rfl (hb hby at_161) ?_
        exact kk
      have f372 : Ary Z h360 b1 (.object "java/lang/Object") [(.ref b2), (.ref b18), (.ref b40), (.ref b68)] := (f361.ext E360)
      have f373 : Exa Z h360 b2 "java/lang/String" := (f362.ext E360)
      have f374 : Ary Z h360 b4 .char [(.int (nar .char cc))] := (f363.ext E360)
      have f375 : Exa Z h360 b18 "java/lang/String" := (f364.ext E360)
      have f376 : Ary Z h360 b22 .char [(.int (nar .char cc))] := (f365.ext E360)
      have f377 : Exa Z h360 b40 "java/lang/String" := (f366.ext E360)
      have f378 : Ary Z h360 b46 .char [(.int (nar .char cc))] := (f367.ext E360)
      have f379 : Exa Z h360 b68 "java/lang/String" := (f368.ext E360)
      have f380 : Ary Z h360 b76 .char [(.int (nar .char cc))] := (f369.ext E360)
      have f381 : Ary Z h360 b102 (.object "java/lang/Object") [.null, .null] := (V359.ext E360)
      have f382 : n0 ≤ h360.size := (Nat.le_trans f370 E360.1)
      obtain ⟨T371, h371, k371, X371, e371, E371, A371, st371⟩ := newP X360 hx hZ (hw _ (mw 6 rfl)) e360 (g := (mkF m 162 #[.val (.int u0), .val (.int u1), .val (.int u2), .val (.int u3), .val (.int (own_t3 tn)), .val (.int (own_l5 ln)), .val (.int cc), .val (.int cd), .val (.ref b1), .val (.ref b102), .unset, .unset] [(.int (1 : Int32)), (.ref b360), (.ref b360), (.int (1 : Int32)), (.ref b102)])) rfl (hb hby at_162) rfl (by decide) (cap := 1) (by decide) (by decide) (by decide) (by decide)
      obtain ⟨b371, g371⟩ : ∃ z, z = h360.size := ⟨_, rfl⟩
      rw [← g371] at A371 st371
      have ne_b1_b371 : b1 ≠ b371 := Nat.ne_of_lt (Nat.lt_of_lt_of_le f372.lt (Nat.le_of_eq g371.symm))
      have ne_b2_b371 : b2 ≠ b371 := Nat.ne_of_lt (Nat.lt_of_lt_of_le f373.lt (Nat.le_of_eq g371.symm))
      have ne_b4_b371 : b4 ≠ b371 := Nat.ne_of_lt (Nat.lt_of_lt_of_le f374.lt (Nat.le_of_eq g371.symm))
      have ne_b18_b371 : b18 ≠ b371 := Nat.ne_of_lt (Nat.lt_of_lt_of_le f375.lt (Nat.le_of_eq g371.symm))
      have ne_b22_b371 : b22 ≠ b371 := Nat.ne_of_lt (Nat.lt_of_lt_of_le f376.lt (Nat.le_of_eq g371.symm))
      have ne_b40_b371 : b40 ≠ b371 := Nat.ne_of_lt (Nat.lt_of_lt_of_le f377.lt (Nat.le_of_eq g371.symm))
      have ne_b46_b371 : b46 ≠ b371 := Nat.ne_of_lt (Nat.lt_of_lt_of_le f378.lt (Nat.le_of_eq g371.symm))
      have ne_b68_b371 : b68 ≠ b371 := Nat.ne_of_lt (Nat.lt_of_lt_of_le f379.lt (Nat.le_of_eq g371.symm))
      have ne_b76_b371 : b76 ≠ b371 := Nat.ne_of_lt (Nat.lt_of_lt_of_le f380.lt (Nat.le_of_eq g371.symm))
      have ne_b102_b371 : b102 ≠ b371 := Nat.ne_of_lt (Nat.lt_of_lt_of_le f381.lt (Nat.le_of_eq g371.symm))
      have ne_b360_b371 : b360 ≠ b371 := Nat.ne_of_lt (Nat.lt_of_lt_of_le A360.lt (Nat.le_of_eq g371.symm))
      have g_b371 : n0 ≤ b371 := Nat.le_trans f382 (Nat.le_of_eq g371.symm)
      have V371 : Ary Z h371 b371 .char [(.int (0 : Int32))] := Ary.new A371 rfl
      refine Goal.to (B := T371.setTop (mkF m 164 #[.val (.int u0), .val (.int u1), .val (.int u2), .val (.int u3), .val (.int (own_t3 tn)), .val (.int (own_l5 ln)), .val (.int cc), .val (.int cd), .val (.ref b1), .val (.ref b102), .unset, .unset] [(.ref b371), (.ref b360), (.ref b360), (.int (1 : Int32)), (.ref b102)])) st371 ?_
      refine Goal.to (B := T371.setTop (mkF m 168 #[.val (.int u0), .val (.int u1), .val (.int u2), .val (.int u3), .val (.int (own_t3 tn)), .val (.int (own_l5 ln)), .val (.int cc), .val (.int cd), .val (.ref b1), .val (.ref b102), .unset, .unset] [(.int cd), (.int (0 : Int32)), (.ref b371), (.ref b371), (.ref b360), (.ref b360), (.int (1 : Int32)), (.ref b102)])) (fun tt kk => ?_) ?_
      · show Steps p.tables e below (T371.setTop (mkF m 164 #[.val (.int u0), .val (.int u1), .val (.int u2), .val (.int u3), .val (.int (own_t3 tn)), .val (.int (own_l5 ln)), .val (.int cc), .val (.int cd), .val (.ref b1), .val (.ref b102), .unset, .unset] [(.ref b371), (.ref b360), (.ref b360), (.int (1 : Int32)), (.ref b102)])) tt
        refine XS.dup X371.here hx rfl (hb hby at_164) rfl rfl ?_
        show Steps p.tables e below (T371.setTop (mkF m 165 #[.val (.int u0), .val (.int u1), .val (.int u2), .val (.int u3), .val (.int (own_t3 tn)), .val (.int (own_l5 ln)), .val (.int cc), .val (.int cd), .val (.ref b1), .val (.ref b102), .unset, .unset] [(.ref b371), (.ref b371), (.ref b360), (.ref b360), (.int (1 : Int32)), (.ref b102)])) tt
        refine XS.iconst X371.here hx rfl (hb hby at_165) ?_
        show Steps p.tables e below (T371.setTop (mkF m 166 #[.val (.int u0), .val (.int u1), .val (.int u2), .val (.int u3), .val (.int (own_t3 tn)), .val (.int (own_l5 ln)), .val (.int cc), .val (.int cd), .val (.ref b1), .val (.ref b102), .unset, .unset] [(.int (0 : Int32)), (.ref b371), (.ref b371), (.ref b360), (.ref b360), (.int (1 : Int32)), (.ref b102)])) tt
        refine XS.iload X371.here hx rfl (hb hby at_166) rfl ?_
        exact kk
      obtain ⟨cl383, Ar383, Sl383⟩ := id V371
      have hin383 := inA (cl := cl383) Sl383 (j := (0 : Int32)) (by decide) (Nat.le_of_ble_eq_true rfl)
      obtain ⟨T383, h383, X383, e383, W383, st383⟩ := stC X371 hx hZ e371 Ar383 (j := (0 : Int32)) hin383 (g := (mkF m 168 #[.val (.int u0), .val (.int u1), .val (.int u2), .val (.int u3), .val (.int (own_t3 tn)), .val (.int (own_l5 ln)), .val (.int cc), .val (.int cd), .val (.ref b1), .val (.ref b102), .unset, .unset] [(.int cd), (.int (0 : Int32)), (.ref b371), (.ref b371), (.ref b360), (.ref b360), (.int (1 : Int32)), (.ref b102)])) rfl rfl (hb hby at_168)
      have V383 : Ary Z h383 b371 .char [(.int (nar .char cd))] := Ary.put Ar383 Sl383 W383 rfl
      have N383 := Fr.snoc X383 N359 g_b371
      refine Goal.to (B := T383.setTop (mkF m 169 #[.val (.int u0), .val (.int u1), .val (.int u2), .val (.int u3), .val (.int (own_t3 tn)), .val (.int (own_l5 ln)), .val (.int cc), .val (.int cd), .val (.ref b1), .val (.ref b102), .unset, .unset] [(.ref b371), (.ref b360), (.ref b360), (.int (1 : Int32)), (.ref b102)])) st383 ?_
      have f385 : n0 ≤ h383.size := (Nat.le_trans (Nat.le_trans f382 E371.1) (Keep.of_wr W383).1)
      have f386 : Exa Z h383 b360 "java/lang/String" := ((A360.ext E371).wr W383)
      have f387 : Fld Z h383 b360 "java/lang/String" "value" "[B" .null := ((F_value_b360.ext E371).other W383 (Or.inl ne_b360_b371))
      have f388 : Fld Z h383 b360 "java/lang/String" "coder" "B" (.int (0 : Int32)) := ((F_coder_b360.ext E371).other W383 (Or.inl ne_b360_b371))
      have f389 : StaN Z n0 h383 "java/lang/String" "COMPACT_STRINGS" "Z" (.int zc) := (((((((f91.keep K86 (allS g_b68 all0)).wr W100).ext E102).wr W359).ext E360).ext E371).wr W383)
      have f390 : Ary Z h383 b1 (.object "java/lang/Object") [(.ref b2), (.ref b18), (.ref b40), (.ref b68)] := ((f372.ext E371).other W383 ne_b1_b371)
      have f391 : Exa Z h383 b2 "java/lang/String" := ((f373.ext E371).wr W383)
      have f392 : Ary Z h383 b4 .char [(.int (nar .char cc))] := ((f374.ext E371).other W383 ne_b4_b371)
      have f393 : Exa Z h383 b18 "java/lang/String" := ((f375.ext E371).wr W383)
      have f394 : Ary Z h383 b22 .char [(.int (nar .char cc))] := ((f376.ext E371).other W383 ne_b22_b371)
      have f395 : Exa Z h383 b40 "java/lang/String" := ((f377.ext E371).wr W383)
      have f396 : Ary Z h383 b46 .char [(.int (nar .char cc))] := ((f378.ext E371).other W383 ne_b46_b371)
      have f397 : Exa Z h383 b68 "java/lang/String" := ((f379.ext E371).wr W383)
      have f398 : Ary Z h383 b76 .char [(.int (nar .char cc))] := ((f380.ext E371).other W383 ne_b76_b371)
      have f399 : Ary Z h383 b102 (.object "java/lang/Object") [.null, .null] := ((f381.ext E371).other W383 ne_b102_b371)
      obtain ⟨kc384, Vc384⟩ := Ary.arv (dv := (.int (0 : Int32))) (z := (1 : Int32)) V383 rfl (by decide) (fits_cons (fits_nar_char _) fits_nil)
      have hp384 : ∀ c ∈ [(nar .char cd)], ¬ c < 0 ∧ ¬ (255 : Int32) < c := by
        intro c hc
        simp only [List.mem_cons, List.not_mem_nil, or_false] at hc
        rcases hc with rfl
        · exact own_lat _ hcd
      obtain ⟨_, _, ⟨T384, L384, k384, n384⟩, -, X384, ⟨Lc384, hQ384, l384, y384, z384⟩, st384⟩ := X383.specialBack hx (y := (⟨"java/lang/String", "<init>", "([C)V"⟩ : MethodName)) rfl hown (mvT hZ (hw _ (mw 7 rfl))) (mvT hZ (hw _ (mw 8 rfl))) (mvT hZ (hw _ (mw 9 rfl))) (by decide) (StrChars.Road.backV (W := 3) hZ hws (kI := 4) (hw _ (mw 4 rfl)) (cs := [(nar .char cd)]) (bs := [((nar .char cd)).toInt8.toInt32]) (n := 1) g_b360 f385 f386 f387 f388 Vc384 f389.sta hCS rfl rfl (by decide) (by decide) hp384 rfl (by decide) (by decide)) (g := (mkF m 169 #[.val (.int u0), .val (.int u1), .val (.int u2), .val (.int u3), .val (.int (own_t3 tn)), .val (.int (own_l5 ln)), .val (.int cc), .val (.int cd), .val (.ref b1), .val (.ref b102), .unset, .unset] [(.ref b371), (.ref b360), (.ref b360), (.int (1 : Int32)), (.ref b102)])) rfl (by rw [hml]; rfl) (Steps.refl _) (a := b360) (argsL := [(.ref b371)]) (rest := [(.ref b360), (.int (1 : Int32)), (.ref b102)]) (lenOf pd_0 rfl) rfl (by show 2 * 0 + _ ≤ _; exact Nat.le_of_eq rfl) (hb hby at_169) (fun _ _ => ⟨rfl, e383, (by decide : 16 + 1 ≤ _), (by decide : 35 + 1 ≤ _)⟩)
      dsimp only [Pt.U, Pt.locs, Pt.cells, Pt.slots] at X384 l384 y384 z384 st384 hQ384
      subst y384 z384
      obtain ⟨rfl, N384q, K384, P384_0, P384_1, t384, kb384, gt384, sz384, nt384, P384_2, P384_3⟩ := hQ384
      have N384 := Fr.eqv l384 (Fr.app N383 N384q)
      refine Goal.tr (B := T384.setTop (mkF m 172 #[.val (.int u0), .val (.int u1), .val (.int u2), .val (.int u3), .val (.int (own_t3 tn)), .val (.int (own_l5 ln)), .val (.int cc), .val (.int cd), .val (.ref b1), .val (.ref b102), .unset, .unset] [(.ref b360), (.int (1 : Int32)), (.ref b102)])) st384 ?_
      have f400 : Ary Z T384.heap b102 (.object "java/lang/Object") [.null, .null] := (f399.keep K384 (ninS ne_b102_b360 nin0))
      obtain ⟨cl401, Ar401, Sl401⟩ := id f400
      have hin401 := inA (cl := cl401) Sl401 (j := (1 : Int32)) (by decide) (Nat.le_of_ble_eq_true rfl)
      have f402 : OvrO Z T384.heap b102 "java/lang/Object" := (((((Ov102.wr W359).ext E360).ext E371).wr W383).keep K384)
      obtain ⟨T401, h401, X401, e401, W401, st401⟩ := stR X384 hx hZ rfl Ar401 (j := (1 : Int32)) hin401 rfl (stoO Ar401 f402 (Ins.of_exa P384_0 (hw _ (mw 33 rfl)))) (g := (mkF m 172 #[.val (.int u0), .val (.int u1), .val (.int u2), .val (.int u3), .val (.int (own_t3 tn)), .val (.int (own_l5 ln)), .val (.int cc), .val (.int cd), .val (.ref b1), .val (.ref b102), .unset, .unset] [(.ref b360), (.int (1 : Int32)), (.ref b102)])) rfl rfl (hb hby at_172)
      have V401 : Ary Z h401 b102 (.object "java/lang/Object") [.null, (.ref b360)] := Ary.put Ar401 Sl401 W401 rfl
      have N401 := Fr.snoc X401 N384 g_b102
      refine Goal.to (B := T401.setTop (mkF m 173 #[.val (.int u0), .val (.int u1), .val (.int u2), .val (.int u3), .val (.int (own_t3 tn)), .val (.int (own_l5 ln)), .val (.int cc), .val (.int cd), .val (.ref b1), .val (.ref b102), .unset, .unset] [])) st401 ?_
      have f404 : Ary Z h401 b1 (.object "java/lang/Object") [(.ref b2), (.ref b18), (.ref b40), (.ref b68)] := ((f390.keep K384 (ninS ne_b1_b360 nin0)).other W401 ne_b1_b102)
      have f405 : Exa Z h401 b2 "java/lang/String" := ((f391.keep K384).wr W401)
      have f406 : Ary Z h401 b4 .char [(.int (nar .char cc))] := ((f392.keep K384 (ninS ne_b4_b360 nin0)).other W401 ne_b4_b102)
      have f407 : Exa Z h401 b18 "java/lang/String" := ((f393.keep K384).wr W401)
      have f408 : Ary Z h401 b22 .char [(.int (nar .char cc))] := ((f394.keep K384 (ninS ne_b22_b360 nin0)).other W401 ne_b22_b102)
      have f409 : Exa Z h401 b40 "java/lang/String" := ((f395.keep K384).wr W401)
      have f410 : Ary Z h401 b46 .char [(.int (nar .char cc))] := ((f396.keep K384 (ninS ne_b46_b360 nin0)).other W401 ne_b46_b102)
      have f411 : Exa Z h401 b68 "java/lang/String" := ((f397.keep K384).wr W401)
      have f412 : Ary Z h401 b76 .char [(.int (nar .char cc))] := ((f398.keep K384 (ninS ne_b76_b360 nin0)).other W401 ne_b76_b102)
      have f413 : Exa Z h401 b360 "java/lang/String" := (P384_0.wr W401)
      have f414 : Ary Z h401 b371 .char [(.int (nar .char cd))] := ((V383.keep K384 (ninS (Ne.symm ne_b360_b371) nin0)).other W401 (Ne.symm ne_b102_b371))
      have f415 : n0 ≤ h401.size := (Nat.le_trans (Nat.le_trans f385 K384.1) (Keep.of_wr W401).1)
      obtain ⟨T403, h403, X403, e403, E403, A403, D403, -, st403⟩ := newO X401 hx hZ hown (hw _ (mw 34 rfl)) (hw _ (mw 35 rfl)) (hw _ (mw 36 rfl)) e401 (g := (mkF m 173 #[.val (.int u0), .val (.int u1), .val (.int u2), .val (.int u3), .val (.int (own_t3 tn)), .val (.int (own_l5 ln)), .val (.int cc), .val (.int cd), .val (.ref b1), .val (.ref b102), .unset, .unset] [])) rfl (hb hby at_173) (by decide) (by decide)
      obtain ⟨b403, g403⟩ : ∃ z, z = h401.size := ⟨_, rfl⟩
      rw [← g403] at A403 D403 st403
      have ne_b1_b403 : b1 ≠ b403 := Nat.ne_of_lt (Nat.lt_of_lt_of_le f404.lt (Nat.le_of_eq g403.symm))
      have ne_b2_b403 : b2 ≠ b403 := Nat.ne_of_lt (Nat.lt_of_lt_of_le f405.lt (Nat.le_of_eq g403.symm))
      have ne_b4_b403 : b4 ≠ b403 := Nat.ne_of_lt (Nat.lt_of_lt_of_le f406.lt (Nat.le_of_eq g403.symm))
      have ne_b18_b403 : b18 ≠ b403 := Nat.ne_of_lt (Nat.lt_of_lt_of_le f407.lt (Nat.le_of_eq g403.symm))
      have ne_b22_b403 : b22 ≠ b403 := Nat.ne_of_lt (Nat.lt_of_lt_of_le f408.lt (Nat.le_of_eq g403.symm))
      have ne_b40_b403 : b40 ≠ b403 := Nat.ne_of_lt (Nat.lt_of_lt_of_le f409.lt (Nat.le_of_eq g403.symm))
      have ne_b46_b403 : b46 ≠ b403 := Nat.ne_of_lt (Nat.lt_of_lt_of_le f410.lt (Nat.le_of_eq g403.symm))
      have ne_b68_b403 : b68 ≠ b403 := Nat.ne_of_lt (Nat.lt_of_lt_of_le f411.lt (Nat.le_of_eq g403.symm))
      have ne_b76_b403 : b76 ≠ b403 := Nat.ne_of_lt (Nat.lt_of_lt_of_le f412.lt (Nat.le_of_eq g403.symm))
      have ne_b102_b403 : b102 ≠ b403 := Nat.ne_of_lt (Nat.lt_of_lt_of_le V401.lt (Nat.le_of_eq g403.symm))
      have ne_b360_b403 : b360 ≠ b403 := Nat.ne_of_lt (Nat.lt_of_lt_of_le f413.lt (Nat.le_of_eq g403.symm))
      have ne_b371_b403 : b371 ≠ b403 := Nat.ne_of_lt (Nat.lt_of_lt_of_le f414.lt (Nat.le_of_eq g403.symm))
      have g_b403 : n0 ≤ b403 := Nat.le_trans f415 (Nat.le_of_eq g403.symm)
      have F_markInterval_b403 : Fld Z h403 b403 "com/example/tributary/tributary/runtime/Revisits" "markInterval" "J" (.long (0 : Int64)) := D403 (Or.inl (hw _ (mw 42 rfl))) (ty := .long) (by decide)
      have F_markedLeft_b403 : Fld Z h403 b403 "com/example/tributary/tributary/runtime/Revisits" "markedLeft" "Ljava/lang/Object;" .null := D403 (Or.inl (hw _ (mw 53 rfl))) (ty := (.object "java/lang/Object")) (by decide)
      have F_sinceMark_b403 : Fld Z h403 b403 "com/example/tributary/tributary/runtime/Revisits" "sinceMark" "J" (.long (0 : Int64)) := D403 (Or.inl (hw _ (mw 55 rfl))) (ty := .long) (by decide)
      have F_markedRight_b403 : Fld Z h403 b403 "com/example/tributary/tributary/runtime/Revisits" "markedRight" "Ljava/lang/Object;" .null := D403 (Or.inl (hw _ (mw 57 rfl))) (ty := (.object "java/lang/Object")) (by decide)
      refine Goal.to (B := T403.setTop (mkF m 176 #[.val (.int u0), .val (.int u1), .val (.int u2), .val (.int u3), .val (.int (own_t3 tn)), .val (.int (own_l5 ln)), .val (.int cc), .val (.int cd), .val (.ref b1), .val (.ref b102), .unset, .unset] [(.ref b403)])) st403 ?_
      refine Goal.to (B := T403.setTop (mkF m 177 #[.val (.int u0), .val (.int u1), .val (.int u2), .val (.int u3), .val (.int (own_t3 tn)), .val (.int (own_l5 ln)), .val (.int cc), .val (.int cd), .val (.ref b1), .val (.ref b102), .unset, .unset] [(.ref b403), (.ref b403)])) (fun tt kk => ?_) ?_
      · show Steps p.tables e below (T403.setTop (mkF m 176 #[.val (.int u0), .val (.int u1), .val (.int u2), .val (.int u3), .val (.int (own_t3 tn)), .val (.int (own_l5 ln)), .val (.int cc), .val (.int cd), .val (.ref b1), .val (.ref b102), .unset, .unset] [(.ref b403)])) tt
        refine XS.dup X403.here hx rfl (hb hby at_176) rfl rfl ?_
        exact kk
      have f416 : n0 ≤ h403.size := (Nat.le_trans f415 E403.1)
      obtain ⟨_, _, ⟨T417, L417, k417, n417⟩, -, X417, ⟨Lc417, hQ417, l417, y417, z417⟩, st417⟩ := X403.specialBack hx (y := (⟨"com/example/tributary/tributary/runtime/Revisits", "<init>", "()V"⟩ : MethodName)) rfl hown (mvT hZ (hw _ (mw 37 rfl))) (mvT hZ (hw _ (mw 38 rfl))) (mvT hZ (hw _ (mw 39 rfl))) (by decide) (backOf (W := 1) (rmN l Z a0 hw [] b403 h403 n0 f416 A403 F_markedLeft_b403 F_markedRight_b403 F_sinceMark_b403 F_markInterval_b403 g_b403) hZ (hw _ (mw 39 rfl)) (hw _ (mw 36 rfl)) (by decide) (by decide)) (g := (mkF m 177 #[.val (.int u0), .val (.int u1), .val (.int u2), .val (.int u3), .val (.int (own_t3 tn)), .val (.int (own_l5 ln)), .val (.int cc), .val (.int cd), .val (.ref b1), .val (.ref b102), .unset, .unset] [(.ref b403), (.ref b403)])) rfl (by rw [hml]; rfl) (Steps.refl _) (a := b403) (argsL := []) (rest := [(.ref b403)]) (lenOf pd_2 rfl) rfl (by show 2 * 0 + _ ≤ _; exact Nat.le_of_eq rfl) (hb hby at_177) (fun _ _ => ⟨rfl, e403, (by decide : 18 + 0 ≤ _), (by decide : 40 + 0 ≤ _)⟩)
      dsimp only [Pt.U, Pt.locs, Pt.cells, Pt.slots] at X417 l417 y417 z417 st417 hQ417
      subst y417 z417
      obtain ⟨rfl, N417q, K417, P417_0, P417_1, P417_2, P417_3⟩ := hQ417
      have N417 := Fr.eqv l417 (Fr.app N401 N417q)
      refine Goal.tr (B := T417.setTop (mkF m 180 #[.val (.int u0), .val (.int u1), .val (.int u2), .val (.int u3), .val (.int (own_t3 tn)), .val (.int (own_l5 ln)), .val (.int cc), .val (.int cd), .val (.ref b1), .val (.ref b102), .unset, .unset] [(.ref b403)])) st417 ?_
      refine Goal.to (B := T417.setTop (mkF m 185 #[.val (.int u0), .val (.int u1), .val (.int u2), .val (.int u3), .val (.int (own_t3 tn)), .val (.int (own_l5 ln)), .val (.int cc), .val (.int cd), .val (.ref b1), .val (.ref b102), .val (.ref b403), .val (.int (0 : Int32))] [])) (fun tt kk => ?_) ?_
      · show Steps p.tables e below (T417.setTop (mkF m 180 #[.val (.int u0), .val (.int u1), .val (.int u2), .val (.int u3), .val (.int (own_t3 tn)), .val (.int (own_l5 ln)), .val (.int cc), .val (.int cd), .val (.ref b1), .val (.ref b102), .unset, .unset] [(.ref b403)])) tt
        refine XS.astore X417.here hx rfl (hb hby at_180) rfl rfl (l' := #[.val (.int u0), .val (.int u1), .val (.int u2), .val (.int u3), .val (.int (own_t3 tn)), .val (.int (own_l5 ln)), .val (.int cc), .val (.int cd), .val (.ref b1), .val (.ref b102), .val (.ref b403), .unset]) rfl ?_
        show Steps p.tables e below (T417.setTop (mkF m 182 #[.val (.int u0), .val (.int u1), .val (.int u2), .val (.int u3), .val (.int (own_t3 tn)), .val (.int (own_l5 ln)), .val (.int cc), .val (.int cd), .val (.ref b1), .val (.ref b102), .val (.ref b403), .unset] [])) tt
        refine XS.iconst X417.here hx rfl (hb hby at_182) ?_
        show Steps p.tables e below (T417.setTop (mkF m 183 #[.val (.int u0), .val (.int u1), .val (.int u2), .val (.int u3), .val (.int (own_t3 tn)), .val (.int (own_l5 ln)), .val (.int cc), .val (.int cd), .val (.ref b1), .val (.ref b102), .val (.ref b403), .unset] [(.int (0 : Int32))])) tt
        refine XS.istore X417.here hx rfl (hb hby at_183) rfl (l' := #[.val (.int u0), .val (.int u1), .val (.int u2), .val (.int u3), .val (.int (own_t3 tn)), .val (.int (own_l5 ln)), .val (.int cc), .val (.int cd), .val (.ref b1), .val (.ref b102), .val (.ref b403), .val (.int (0 : Int32))]) rfl ?_
        exact kk
      have R418 : Fld Z T417.heap b403 "com/example/tributary/tributary/runtime/Revisits" "markedLeft" "Ljava/lang/Object;" (own_ML b2 b18 b40 b68 (own_Z tn ln 0).1) := by rw [own_Zm0 tn ln]; exact P417_0
      have R419 : Fld Z T417.heap b403 "com/example/tributary/tributary/runtime/Revisits" "markedRight" "Ljava/lang/Object;" (own_MR .null b360 (own_Z tn ln 0).1) := by rw [own_Zm0 tn ln]; exact P417_1
      have R420 : Fld Z T417.heap b403 "com/example/tributary/tributary/runtime/Revisits" "sinceMark" "J" (.long (own_Z tn ln 0).2.1) := by rw [own_Zs0 tn ln]; exact P417_2
      have R421 : Fld Z T417.heap b403 "com/example/tributary/tributary/runtime/Revisits" "markInterval" "J" (.long (own_Z tn ln 0).2.2) := by rw [own_Zi0 tn ln]; exact P417_3
      have hD : own_D b2 b18 b40 b68 b360 .null := ⟨ne_b2_b18, ne_b2_b40, ne_b2_b68, ne_b18_b40, ne_b18_b68, ne_b40_b68, nofun⟩
      refine Goal.to (B := T417.setTop (mkF m 198 #[.val (.int u0), .val (.int u1), .val (.int u2), .val (.int u3), .val (.int (own_t3 tn)), .val (.int (own_l5 ln)), .val (.int cc), .val (.int cd), .val (.ref b1), .val (.ref b102), .val (.ref b403), .val (.int (0 : Int32))] [(.int (own_l5 ln)), (.int (own_t3 tn)), (.int (0 : Int32)), (.ref b102), (.ref b1), (.ref b403), (.int (0 : Int32))])) (fun tt kk => ?_) ?_
      · show Steps p.tables e below (T417.setTop (mkF m 185 #[.val (.int u0), .val (.int u1), .val (.int u2), .val (.int u3), .val (.int (own_t3 tn)), .val (.int (own_l5 ln)), .val (.int cc), .val (.int cd), .val (.ref b1), .val (.ref b102), .val (.ref b403), .val (.int (0 : Int32))] [])) tt
        refine XS.iload X417.here hx rfl (hb hby at_185) rfl ?_
        show Steps p.tables e below (T417.setTop (mkF m 187 #[.val (.int u0), .val (.int u1), .val (.int u2), .val (.int u3), .val (.int (own_t3 tn)), .val (.int (own_l5 ln)), .val (.int cc), .val (.int cd), .val (.ref b1), .val (.ref b102), .val (.ref b403), .val (.int (0 : Int32))] [(.int (0 : Int32))])) tt
        refine XS.aload X417.here hx rfl (hb hby at_187) rfl rfl ?_
        show Steps p.tables e below (T417.setTop (mkF m 189 #[.val (.int u0), .val (.int u1), .val (.int u2), .val (.int u3), .val (.int (own_t3 tn)), .val (.int (own_l5 ln)), .val (.int cc), .val (.int cd), .val (.ref b1), .val (.ref b102), .val (.ref b403), .val (.int (0 : Int32))] [(.ref b403), (.int (0 : Int32))])) tt
        refine XS.aload X417.here hx rfl (hb hby at_189) rfl rfl ?_
        show Steps p.tables e below (T417.setTop (mkF m 191 #[.val (.int u0), .val (.int u1), .val (.int u2), .val (.int u3), .val (.int (own_t3 tn)), .val (.int (own_l5 ln)), .val (.int cc), .val (.int cd), .val (.ref b1), .val (.ref b102), .val (.ref b403), .val (.int (0 : Int32))] [(.ref b1), (.ref b403), (.int (0 : Int32))])) tt
        refine XS.aload X417.here hx rfl (hb hby at_191) rfl rfl ?_
        show Steps p.tables e below (T417.setTop (mkF m 193 #[.val (.int u0), .val (.int u1), .val (.int u2), .val (.int u3), .val (.int (own_t3 tn)), .val (.int (own_l5 ln)), .val (.int cc), .val (.int cd), .val (.ref b1), .val (.ref b102), .val (.ref b403), .val (.int (0 : Int32))] [(.ref b102), (.ref b1), (.ref b403), (.int (0 : Int32))])) tt
        refine XS.iconst X417.here hx rfl (hb hby at_193) ?_
        show Steps p.tables e below (T417.setTop (mkF m 194 #[.val (.int u0), .val (.int u1), .val (.int u2), .val (.int u3), .val (.int (own_t3 tn)), .val (.int (own_l5 ln)), .val (.int cc), .val (.int cd), .val (.ref b1), .val (.ref b102), .val (.ref b403), .val (.int (0 : Int32))] [(.int (0 : Int32)), (.ref b102), (.ref b1), (.ref b403), (.int (0 : Int32))])) tt
        refine XS.iload X417.here hx rfl (hb hby at_194) rfl ?_
        show Steps p.tables e below (T417.setTop (mkF m 196 #[.val (.int u0), .val (.int u1), .val (.int u2), .val (.int u3), .val (.int (own_t3 tn)), .val (.int (own_l5 ln)), .val (.int cc), .val (.int cd), .val (.ref b1), .val (.ref b102), .val (.ref b403), .val (.int (0 : Int32))] [(.int (own_t3 tn)), (.int (0 : Int32)), (.ref b102), (.ref b1), (.ref b403), (.int (0 : Int32))])) tt
        refine XS.iload X417.here hx rfl (hb hby at_196) rfl ?_
        exact kk
      have f422 : Exa Z T417.heap b403 "com/example/tributary/tributary/runtime/Revisits" := (A403.keep K417)
      have f423 : Ary Z T417.heap b1 (.object "java/lang/Object") [(.ref b2), (.ref b18), (.ref b40), (.ref b68)] := ((f404.ext E403).keep K417 (ninS ne_b1_b403 nin0))
      have f424 : Ary Z T417.heap b102 (.object "java/lang/Object") [.null, (.ref b360)] := ((V401.ext E403).keep K417 (ninS ne_b102_b403 nin0))
      have f425 : n0 ≤ T417.heap.size := (Nat.le_trans f416 K417.1)
      obtain ⟨_, _, ⟨T426, L426, k426, n426⟩, -, X426, ⟨Lc426, hQ426, l426, y426, z426⟩, st426⟩ := Jvm.LawKit.callS X417 hx (y := (⟨"com/example/tributary/tributary/runtime/RevisitsSeenBeforePinLaw", "step", "(Lcom/example/tributary/tributary/runtime/Revisits;[Ljava/lang/Object;[Ljava/lang/Object;III)Z"⟩ : MethodName)) hown (mvT hZ (hw _ (mw 43 rfl))) (mvT hZ (hw _ (mw 44 rfl))) (mvT hZ (hw _ (mw 45 rfl))) (mvT hZ (hw _ (mw 46 rfl))) (by decide) (backOf (W := 1) (rmst l Z a0 hw [] b403 b1 b102 b2 b18 b40 b68 b360 .null (own_kf tn ln 0) (own_Z tn ln 0).1 (own_Z tn ln 0).2.1 (own_Z tn ln 0).2.2 (0 : Int32) (own_t3 tn) (own_l5 ln) T417.heap n0 f425 f422 R418 R419 R420 R421 f423 f424 g_b403 rfl (own_kk0 tn ln) (own_l0 ln) hD) hZ (hw _ (mw 46 rfl)) (hw _ (mw 45 rfl)) (by decide) (by decide)) (g := (mkF m 198 #[.val (.int u0), .val (.int u1), .val (.int u2), .val (.int u3), .val (.int (own_t3 tn)), .val (.int (own_l5 ln)), .val (.int cc), .val (.int cd), .val (.ref b1), .val (.ref b102), .val (.ref b403), .val (.int (0 : Int32))] [(.int (own_l5 ln)), (.int (own_t3 tn)), (.int (0 : Int32)), (.ref b102), (.ref b1), (.ref b403), (.int (0 : Int32))])) rfl (by rw [hml]; rfl) (argsL := [(.ref b403), (.ref b1), (.ref b102), (.int (0 : Int32)), (.int (own_t3 tn)), (.int (own_l5 ln))]) (rest := [(.int (0 : Int32))]) (lenOf pd_6 rfl) rfl (by show 2 * 0 + _ ≤ _; exact Nat.le_of_eq rfl) (hb hby at_198) (fun _ _ => ⟨rfl, rfl, (by decide : 18 + 0 ≤ _), (by decide : 40 + 0 ≤ _)⟩)
      dsimp only [Pt.U, Pt.locs, Pt.cells, Pt.slots] at X426 l426 y426 z426 st426 hQ426
      subst y426 z426
      obtain ⟨rfl, N426q, K426, P426_0, P426_1, P426_2, P426_3⟩ := hQ426
      have N426 := Fr.eqv l426 (Fr.app N417 N426q)
      refine Goal.to (B := T426.setTop (mkF m 201 #[.val (.int u0), .val (.int u1), .val (.int u2), .val (.int u3), .val (.int (own_t3 tn)), .val (.int (own_l5 ln)), .val (.int cc), .val (.int cd), .val (.ref b1), .val (.ref b102), .val (.ref b403), .val (.int (0 : Int32))] [(.int (own_seen (own_Z tn ln 0).1 (own_kf tn ln 0))), (.int (0 : Int32))])) st426 ?_
      have R427 : Fld Z T426.heap b403 "com/example/tributary/tributary/runtime/Revisits" "markedLeft" "Ljava/lang/Object;" (own_ML b2 b18 b40 b68 (own_Z tn ln 1).1) := by rw [own_Zm1 tn ln]; exact P426_0
      have R428 : Fld Z T426.heap b403 "com/example/tributary/tributary/runtime/Revisits" "markedRight" "Ljava/lang/Object;" (own_MR .null b360 (own_Z tn ln 1).1) := by rw [own_Zm1 tn ln]; exact P426_1
      have R429 : Fld Z T426.heap b403 "com/example/tributary/tributary/runtime/Revisits" "sinceMark" "J" (.long (own_Z tn ln 1).2.1) := by rw [own_Zs1 tn ln]; exact P426_2
      have R430 : Fld Z T426.heap b403 "com/example/tributary/tributary/runtime/Revisits" "markInterval" "J" (.long (own_Z tn ln 1).2.2) := by rw [own_Zi1 tn ln]; exact P426_3
      obtain ⟨w432, hw432⟩ : ∃ z : Int32, z = if (own_seen (own_Z tn ln 0).1 (own_kf tn ln 0)) = (0 : Int32) then (0 : Int32) else (1 : Int32) := ⟨_, rfl⟩
      refine Goal.to (B := T426.setTop (mkF m 209 #[.val (.int u0), .val (.int u1), .val (.int u2), .val (.int u3), .val (.int (own_t3 tn)), .val (.int (own_l5 ln)), .val (.int cc), .val (.int cd), .val (.ref b1), .val (.ref b102), .val (.ref b403), .val (.int (0 : Int32))] [(.int w432), (.int (0 : Int32))])) (fun tt kk => ?_) ?_
      · by_cases hc431 : (own_seen (own_Z tn ln 0).1 (own_kf tn ln 0)) = (0 : Int32)
        · have qw432 : w432 = (0 : Int32) := by rw [hw432, if_pos hc431]
          rw [qw432] at kk
          show Steps p.tables e below (T426.setTop (mkF m 201 #[.val (.int u0), .val (.int u1), .val (.int u2), .val (.int u3), .val (.int (own_t3 tn)), .val (.int (own_l5 ln)), .val (.int cc), .val (.int cd), .val (.ref b1), .val (.ref b102), .val (.ref b403), .val (.int (0 : Int32))] [(.int (own_seen (own_Z tn ln 0).1 (own_kf tn ln 0))), (.int (0 : Int32))])) tt
          refine XS.ifYes X426.here hx rfl (pc0 := 201) (pc' := 208) rfl (hb hby at_201) rfl ((if0 _ _).trans (teq hc431).1) (by decide) (by decide) ?_
          show Steps p.tables e below (T426.setTop (mkF m 208 #[.val (.int u0), .val (.int u1), .val (.int u2), .val (.int u3), .val (.int (own_t3 tn)), .val (.int (own_l5 ln)), .val (.int cc), .val (.int cd), .val (.ref b1), .val (.ref b102), .val (.ref b403), .val (.int (0 : Int32))] [(.int (0 : Int32))])) tt
          refine XS.iconst X426.here hx rfl (hb hby at_208) ?_
          exact kk
        · have qw432 : w432 = (1 : Int32) := by rw [hw432, if_neg hc431]
          rw [qw432] at kk
          show Steps p.tables e below (T426.setTop (mkF m 201 #[.val (.int u0), .val (.int u1), .val (.int u2), .val (.int u3), .val (.int (own_t3 tn)), .val (.int (own_l5 ln)), .val (.int cc), .val (.int cd), .val (.ref b1), .val (.ref b102), .val (.ref b403), .val (.int (0 : Int32))] [(.int (own_seen (own_Z tn ln 0).1 (own_kf tn ln 0))), (.int (0 : Int32))])) tt
          refine XS.ifNo X426.here hx rfl (hb hby at_201) rfl ((if0 _ _).trans (feq hc431).1) ?_
          show Steps p.tables e below (T426.setTop (mkF m 204 #[.val (.int u0), .val (.int u1), .val (.int u2), .val (.int u3), .val (.int (own_t3 tn)), .val (.int (own_l5 ln)), .val (.int cc), .val (.int cd), .val (.ref b1), .val (.ref b102), .val (.ref b403), .val (.int (0 : Int32))] [(.int (0 : Int32))])) tt
          refine XS.iconst X426.here hx rfl (hb hby at_204) ?_
          show Steps p.tables e below (T426.setTop (mkF m 205 #[.val (.int u0), .val (.int u1), .val (.int u2), .val (.int u3), .val (.int (own_t3 tn)), .val (.int (own_l5 ln)), .val (.int cc), .val (.int cd), .val (.ref b1), .val (.ref b102), .val (.ref b403), .val (.int (0 : Int32))] [(.int (1 : Int32)), (.int (0 : Int32))])) tt
          refine XS.goto X426.here hx rfl (pc0 := 205) (pc' := 209) rfl (hb hby at_205) (by decide) (by decide) ?_
          exact kk
      obtain ⟨gg1, hgg1⟩ : ∃ z : Int32, z = ((0 : Int32) ||| w432) := ⟨_, rfl⟩
      refine Goal.to (B := T426.setTop (mkF m 212 #[.val (.int u0), .val (.int u1), .val (.int u2), .val (.int u3), .val (.int (own_t3 tn)), .val (.int (own_l5 ln)), .val (.int cc), .val (.int cd), .val (.ref b1), .val (.ref b102), .val (.ref b403), .val (.int gg1)] [])) (fun tt kk => ?_) ?_
      · subst hgg1
        show Steps p.tables e below (T426.setTop (mkF m 209 #[.val (.int u0), .val (.int u1), .val (.int u2), .val (.int u3), .val (.int (own_t3 tn)), .val (.int (own_l5 ln)), .val (.int cc), .val (.int cd), .val (.ref b1), .val (.ref b102), .val (.ref b403), .val (.int (0 : Int32))] [(.int w432), (.int (0 : Int32))])) tt
        refine XS.ior X426.here hx rfl (hb hby at_209) rfl ?_
        show Steps p.tables e below (T426.setTop (mkF m 210 #[.val (.int u0), .val (.int u1), .val (.int u2), .val (.int u3), .val (.int (own_t3 tn)), .val (.int (own_l5 ln)), .val (.int cc), .val (.int cd), .val (.ref b1), .val (.ref b102), .val (.ref b403), .val (.int (0 : Int32))] [(.int ((0 : Int32) ||| w432))])) tt
        refine XS.istore X426.here hx rfl (hb hby at_210) rfl (l' := #[.val (.int u0), .val (.int u1), .val (.int u2), .val (.int u3), .val (.int (own_t3 tn)), .val (.int (own_l5 ln)), .val (.int cc), .val (.int cd), .val (.ref b1), .val (.ref b102), .val (.ref b403), .val (.int ((0 : Int32) ||| w432))]) rfl ?_
        exact kk
      have hG1 : gg1 = own_G tn ln 1 := by rw [hgg1, hw432, own_G1 tn ln, own_G0]
      refine Goal.to (B := T426.setTop (mkF m 225 #[.val (.int u0), .val (.int u1), .val (.int u2), .val (.int u3), .val (.int (own_t3 tn)), .val (.int (own_l5 ln)), .val (.int cc), .val (.int cd), .val (.ref b1), .val (.ref b102), .val (.ref b403), .val (.int gg1)] [(.int (own_l5 ln)), (.int (own_t3 tn)), (.int (1 : Int32)), (.ref b102), (.ref b1), (.ref b403), (.int gg1)])) (fun tt kk => ?_) ?_
      · show Steps p.tables e below (T426.setTop (mkF m 212 #[.val (.int u0), .val (.int u1), .val (.int u2), .val (.int u3), .val (.int (own_t3 tn)), .val (.int (own_l5 ln)), .val (.int cc), .val (.int cd), .val (.ref b1), .val (.ref b102), .val (.ref b403), .val (.int gg1)] [])) tt
        refine XS.iload X426.here hx rfl (hb hby at_212) rfl ?_
        show Steps p.tables e below (T426.setTop (mkF m 214 #[.val (.int u0), .val (.int u1), .val (.int u2), .val (.int u3), .val (.int (own_t3 tn)), .val (.int (own_l5 ln)), .val (.int cc), .val (.int cd), .val (.ref b1), .val (.ref b102), .val (.ref b403), .val (.int gg1)] [(.int gg1)])) tt
        refine XS.aload X426.here hx rfl (hb hby at_214) rfl rfl ?_
        show Steps p.tables e below (T426.setTop (mkF m 216 #[.val (.int u0), .val (.int u1), .val (.int u2), .val (.int u3), .val (.int (own_t3 tn)), .val (.int (own_l5 ln)), .val (.int cc), .val (.int cd), .val (.ref b1), .val (.ref b102), .val (.ref b403), .val (.int gg1)] [(.ref b403), (.int gg1)])) tt
        refine XS.aload X426.here hx rfl (hb hby at_216) rfl rfl ?_
        show Steps p.tables e below (T426.setTop (mkF m 218 #[.val (.int u0), .val (.int u1), .val (.int u2), .val (.int u3), .val (.int (own_t3 tn)), .val (.int (own_l5 ln)), .val (.int cc), .val (.int cd), .val (.ref b1), .val (.ref b102), .val (.ref b403), .val (.int gg1)] [(.ref b1), (.ref b403), (.int gg1)])) tt
        refine XS.aload X426.here hx rfl (hb hby at_218) rfl rfl ?_
        show Steps p.tables e below (T426.setTop (mkF m 220 #[.val (.int u0), .val (.int u1), .val (.int u2), .val (.int u3), .val (.int (own_t3 tn)), .val (.int (own_l5 ln)), .val (.int cc), .val (.int cd), .val (.ref b1), .val (.ref b102), .val (.ref b403), .val (.int gg1)] [(.ref b102), (.ref b1), (.ref b403), (.int gg1)])) tt
        refine XS.iconst X426.here hx rfl (hb hby at_220) ?_
        show Steps p.tables e below (T426.setTop (mkF m 221 #[.val (.int u0), .val (.int u1), .val (.int u2), .val (.int u3), .val (.int (own_t3 tn)), .val (.int (own_l5 ln)), .val (.int cc), .val (.int cd), .val (.ref b1), .val (.ref b102), .val (.ref b403), .val (.int gg1)] [(.int (1 : Int32)), (.ref b102), (.ref b1), (.ref b403), (.int gg1)])) tt
        refine XS.iload X426.here hx rfl (hb hby at_221) rfl ?_
        show Steps p.tables e below (T426.setTop (mkF m 223 #[.val (.int u0), .val (.int u1), .val (.int u2), .val (.int u3), .val (.int (own_t3 tn)), .val (.int (own_l5 ln)), .val (.int cc), .val (.int cd), .val (.ref b1), .val (.ref b102), .val (.ref b403), .val (.int gg1)] [(.int (own_t3 tn)), (.int (1 : Int32)), (.ref b102), (.ref b1), (.ref b403), (.int gg1)])) tt
        refine XS.iload X426.here hx rfl (hb hby at_223) rfl ?_
        exact kk
      have f433 : Exa Z T426.heap b403 "com/example/tributary/tributary/runtime/Revisits" := (f422.keep K426)
      have f434 : Ary Z T426.heap b1 (.object "java/lang/Object") [(.ref b2), (.ref b18), (.ref b40), (.ref b68)] := (f423.keep K426 (ninS ne_b1_b403 nin0))
      have f435 : Ary Z T426.heap b102 (.object "java/lang/Object") [.null, (.ref b360)] := (f424.keep K426 (ninS ne_b102_b403 nin0))
      have f436 : n0 ≤ T426.heap.size := (Nat.le_trans f425 K426.1)
      obtain ⟨_, _, ⟨T437, L437, k437, n437⟩, -, X437, ⟨Lc437, hQ437, l437, y437, z437⟩, st437⟩ := Jvm.LawKit.callS X426 hx (y := (⟨"com/example/tributary/tributary/runtime/RevisitsSeenBeforePinLaw", "step", "(Lcom/example/tributary/tributary/runtime/Revisits;[Ljava/lang/Object;[Ljava/lang/Object;III)Z"⟩ : MethodName)) hown (mvT hZ (hw _ (mw 43 rfl))) (mvT hZ (hw _ (mw 44 rfl))) (mvT hZ (hw _ (mw 45 rfl))) (mvT hZ (hw _ (mw 46 rfl))) (by decide) (backOf (W := 1) (rmst l Z a0 hw [] b403 b1 b102 b2 b18 b40 b68 b360 .null (own_kf tn ln 1) (own_Z tn ln 1).1 (own_Z tn ln 1).2.1 (own_Z tn ln 1).2.2 (1 : Int32) (own_t3 tn) (own_l5 ln) T426.heap n0 f436 f433 R427 R428 R429 R430 f434 f435 g_b403 rfl (own_kk1 tn ln) (own_l0 ln) hD) hZ (hw _ (mw 46 rfl)) (hw _ (mw 45 rfl)) (by decide) (by decide)) (g := (mkF m 225 #[.val (.int u0), .val (.int u1), .val (.int u2), .val (.int u3), .val (.int (own_t3 tn)), .val (.int (own_l5 ln)), .val (.int cc), .val (.int cd), .val (.ref b1), .val (.ref b102), .val (.ref b403), .val (.int gg1)] [(.int (own_l5 ln)), (.int (own_t3 tn)), (.int (1 : Int32)), (.ref b102), (.ref b1), (.ref b403), (.int gg1)])) rfl (by rw [hml]; rfl) (argsL := [(.ref b403), (.ref b1), (.ref b102), (.int (1 : Int32)), (.int (own_t3 tn)), (.int (own_l5 ln))]) (rest := [(.int gg1)]) (lenOf pd_6 rfl) rfl (by show 2 * 0 + _ ≤ _; exact Nat.le_of_eq rfl) (hb hby at_225) (fun _ _ => ⟨rfl, rfl, (by decide : 18 + 0 ≤ _), (by decide : 40 + 0 ≤ _)⟩)
      dsimp only [Pt.U, Pt.locs, Pt.cells, Pt.slots] at X437 l437 y437 z437 st437 hQ437
      subst y437 z437
      obtain ⟨rfl, N437q, K437, P437_0, P437_1, P437_2, P437_3⟩ := hQ437
      have N437 := Fr.eqv l437 (Fr.app N426 N437q)
      refine Goal.to (B := T437.setTop (mkF m 228 #[.val (.int u0), .val (.int u1), .val (.int u2), .val (.int u3), .val (.int (own_t3 tn)), .val (.int (own_l5 ln)), .val (.int cc), .val (.int cd), .val (.ref b1), .val (.ref b102), .val (.ref b403), .val (.int gg1)] [(.int (own_seen (own_Z tn ln 1).1 (own_kf tn ln 1))), (.int gg1)])) st437 ?_
      have R438 : Fld Z T437.heap b403 "com/example/tributary/tributary/runtime/Revisits" "markedLeft" "Ljava/lang/Object;" (own_ML b2 b18 b40 b68 (own_Z tn ln 2).1) := by rw [own_Zm2 tn ln]; exact P437_0
      have R439 : Fld Z T437.heap b403 "com/example/tributary/tributary/runtime/Revisits" "markedRight" "Ljava/lang/Object;" (own_MR .null b360 (own_Z tn ln 2).1) := by rw [own_Zm2 tn ln]; exact P437_1
      have R440 : Fld Z T437.heap b403 "com/example/tributary/tributary/runtime/Revisits" "sinceMark" "J" (.long (own_Z tn ln 2).2.1) := by rw [own_Zs2 tn ln]; exact P437_2
      have R441 : Fld Z T437.heap b403 "com/example/tributary/tributary/runtime/Revisits" "markInterval" "J" (.long (own_Z tn ln 2).2.2) := by rw [own_Zi2 tn ln]; exact P437_3
      obtain ⟨w443, hw443⟩ : ∃ z : Int32, z = if (own_seen (own_Z tn ln 1).1 (own_kf tn ln 1)) = (0 : Int32) then (0 : Int32) else (2 : Int32) := ⟨_, rfl⟩
      refine Goal.to (B := T437.setTop (mkF m 236 #[.val (.int u0), .val (.int u1), .val (.int u2), .val (.int u3), .val (.int (own_t3 tn)), .val (.int (own_l5 ln)), .val (.int cc), .val (.int cd), .val (.ref b1), .val (.ref b102), .val (.ref b403), .val (.int gg1)] [(.int w443), (.int gg1)])) (fun tt kk => ?_) ?_
      · by_cases hc442 : (own_seen (own_Z tn ln 1).1 (own_kf tn ln 1)) = (0 : Int32)
        · have qw443 : w443 = (0 : Int32) := by rw [hw443, if_pos hc442]
          rw [qw443] at kk
          show Steps p.tables e below (T437.setTop (mkF m 228 #[.val (.int u0), .val (.int u1), .val (.int u2), .val (.int u3), .val (.int (own_t3 tn)), .val (.int (own_l5 ln)), .val (.int cc), .val (.int cd), .val (.ref b1), .val (.ref b102), .val (.ref b403), .val (.int gg1)] [(.int (own_seen (own_Z tn ln 1).1 (own_kf tn ln 1))), (.int gg1)])) tt
          refine XS.ifYes X437.here hx rfl (pc0 := 228) (pc' := 235) rfl (hb hby at_228) rfl ((if0 _ _).trans (teq hc442).1) (by decide) (by decide) ?_
          show Steps p.tables e below (T437.setTop (mkF m 235 #[.val (.int u0), .val (.int u1), .val (.int u2), .val (.int u3), .val (.int (own_t3 tn)), .val (.int (own_l5 ln)), .val (.int cc), .val (.int cd), .val (.ref b1), .val (.ref b102), .val (.ref b403), .val (.int gg1)] [(.int gg1)])) tt
          refine XS.iconst X437.here hx rfl (hb hby at_235) ?_
          exact kk
        · have qw443 : w443 = (2 : Int32) := by rw [hw443, if_neg hc442]
          rw [qw443] at kk
          show Steps p.tables e below (T437.setTop (mkF m 228 #[.val (.int u0), .val (.int u1), .val (.int u2), .val (.int u3), .val (.int (own_t3 tn)), .val (.int (own_l5 ln)), .val (.int cc), .val (.int cd), .val (.ref b1), .val (.ref b102), .val (.ref b403), .val (.int gg1)] [(.int (own_seen (own_Z tn ln 1).1 (own_kf tn ln 1))), (.int gg1)])) tt
          refine XS.ifNo X437.here hx rfl (hb hby at_228) rfl ((if0 _ _).trans (feq hc442).1) ?_
          show Steps p.tables e below (T437.setTop (mkF m 231 #[.val (.int u0), .val (.int u1), .val (.int u2), .val (.int u3), .val (.int (own_t3 tn)), .val (.int (own_l5 ln)), .val (.int cc), .val (.int cd), .val (.ref b1), .val (.ref b102), .val (.ref b403), .val (.int gg1)] [(.int gg1)])) tt
          refine XS.iconst X437.here hx rfl (hb hby at_231) ?_
          show Steps p.tables e below (T437.setTop (mkF m 232 #[.val (.int u0), .val (.int u1), .val (.int u2), .val (.int u3), .val (.int (own_t3 tn)), .val (.int (own_l5 ln)), .val (.int cc), .val (.int cd), .val (.ref b1), .val (.ref b102), .val (.ref b403), .val (.int gg1)] [(.int (2 : Int32)), (.int gg1)])) tt
          refine XS.goto X437.here hx rfl (pc0 := 232) (pc' := 236) rfl (hb hby at_232) (by decide) (by decide) ?_
          exact kk
      obtain ⟨gg2, hgg2⟩ : ∃ z : Int32, z = (gg1 ||| w443) := ⟨_, rfl⟩
      refine Goal.to (B := T437.setTop (mkF m 239 #[.val (.int u0), .val (.int u1), .val (.int u2), .val (.int u3), .val (.int (own_t3 tn)), .val (.int (own_l5 ln)), .val (.int cc), .val (.int cd), .val (.ref b1), .val (.ref b102), .val (.ref b403), .val (.int gg2)] [])) (fun tt kk => ?_) ?_
      · subst hgg2
        show Steps p.tables e below (T437.setTop (mkF m 236 #[.val (.int u0), .val (.int u1), .val (.int u2), .val (.int u3), .val (.int (own_t3 tn)), .val (.int (own_l5 ln)), .val (.int cc), .val (.int cd), .val (.ref b1), .val (.ref b102), .val (.ref b403), .val (.int gg1)] [(.int w443), (.int gg1)])) tt
        refine XS.ior X437.here hx rfl (hb hby at_236) rfl ?_
        show Steps p.tables e below (T437.setTop (mkF m 237 #[.val (.int u0), .val (.int u1), .val (.int u2), .val (.int u3), .val (.int (own_t3 tn)), .val (.int (own_l5 ln)), .val (.int cc), .val (.int cd), .val (.ref b1), .val (.ref b102), .val (.ref b403), .val (.int gg1)] [(.int (gg1 ||| w443))])) tt
        refine XS.istore X437.here hx rfl (hb hby at_237) rfl (l' := #[.val (.int u0), .val (.int u1), .val (.int u2), .val (.int u3), .val (.int (own_t3 tn)), .val (.int (own_l5 ln)), .val (.int cc), .val (.int cd), .val (.ref b1), .val (.ref b102), .val (.ref b403), .val (.int (gg1 ||| w443))]) rfl ?_
        exact kk
      have hG2 : gg2 = own_G tn ln 2 := by rw [hgg2, hw443, own_G2 tn ln, hG1]
      refine Goal.to (B := T437.setTop (mkF m 252 #[.val (.int u0), .val (.int u1), .val (.int u2), .val (.int u3), .val (.int (own_t3 tn)), .val (.int (own_l5 ln)), .val (.int cc), .val (.int cd), .val (.ref b1), .val (.ref b102), .val (.ref b403), .val (.int gg2)] [(.int (own_l5 ln)), (.int (own_t3 tn)), (.int (2 : Int32)), (.ref b102), (.ref b1), (.ref b403), (.int gg2)])) (fun tt kk => ?_) ?_
      · show Steps p.tables e below (T437.setTop (mkF m 239 #[.val (.int u0), .val (.int u1), .val (.int u2), .val (.int u3), .val (.int (own_t3 tn)), .val (.int (own_l5 ln)), .val (.int cc), .val (.int cd), .val (.ref b1), .val (.ref b102), .val (.ref b403), .val (.int gg2)] [])) tt
        refine XS.iload X437.here hx rfl (hb hby at_239) rfl ?_
        show Steps p.tables e below (T437.setTop (mkF m 241 #[.val (.int u0), .val (.int u1), .val (.int u2), .val (.int u3), .val (.int (own_t3 tn)), .val (.int (own_l5 ln)), .val (.int cc), .val (.int cd), .val (.ref b1), .val (.ref b102), .val (.ref b403), .val (.int gg2)] [(.int gg2)])) tt
        refine XS.aload X437.here hx rfl (hb hby at_241) rfl rfl ?_
        show Steps p.tables e below (T437.setTop (mkF m 243 #[.val (.int u0), .val (.int u1), .val (.int u2), .val (.int u3), .val (.int (own_t3 tn)), .val (.int (own_l5 ln)), .val (.int cc), .val (.int cd), .val (.ref b1), .val (.ref b102), .val (.ref b403), .val (.int gg2)] [(.ref b403), (.int gg2)])) tt
        refine XS.aload X437.here hx rfl (hb hby at_243) rfl rfl ?_
        show Steps p.tables e below (T437.setTop (mkF m 245 #[.val (.int u0), .val (.int u1), .val (.int u2), .val (.int u3), .val (.int (own_t3 tn)), .val (.int (own_l5 ln)), .val (.int cc), .val (.int cd), .val (.ref b1), .val (.ref b102), .val (.ref b403), .val (.int gg2)] [(.ref b1), (.ref b403), (.int gg2)])) tt
        refine XS.aload X437.here hx rfl (hb hby at_245) rfl rfl ?_
        show Steps p.tables e below (T437.setTop (mkF m 247 #[.val (.int u0), .val (.int u1), .val (.int u2), .val (.int u3), .val (.int (own_t3 tn)), .val (.int (own_l5 ln)), .val (.int cc), .val (.int cd), .val (.ref b1), .val (.ref b102), .val (.ref b403), .val (.int gg2)] [(.ref b102), (.ref b1), (.ref b403), (.int gg2)])) tt
        refine XS.iconst X437.here hx rfl (hb hby at_247) ?_
        show Steps p.tables e below (T437.setTop (mkF m 248 #[.val (.int u0), .val (.int u1), .val (.int u2), .val (.int u3), .val (.int (own_t3 tn)), .val (.int (own_l5 ln)), .val (.int cc), .val (.int cd), .val (.ref b1), .val (.ref b102), .val (.ref b403), .val (.int gg2)] [(.int (2 : Int32)), (.ref b102), (.ref b1), (.ref b403), (.int gg2)])) tt
        refine XS.iload X437.here hx rfl (hb hby at_248) rfl ?_
        show Steps p.tables e below (T437.setTop (mkF m 250 #[.val (.int u0), .val (.int u1), .val (.int u2), .val (.int u3), .val (.int (own_t3 tn)), .val (.int (own_l5 ln)), .val (.int cc), .val (.int cd), .val (.ref b1), .val (.ref b102), .val (.ref b403), .val (.int gg2)] [(.int (own_t3 tn)), (.int (2 : Int32)), (.ref b102), (.ref b1), (.ref b403), (.int gg2)])) tt
        refine XS.iload X437.here hx rfl (hb hby at_250) rfl ?_
        exact kk
      have f444 : Exa Z T437.heap b403 "com/example/tributary/tributary/runtime/Revisits" := (f433.keep K437)
      have f445 : Ary Z T437.heap b1 (.object "java/lang/Object") [(.ref b2), (.ref b18), (.ref b40), (.ref b68)] := (f434.keep K437 (ninS ne_b1_b403 nin0))
      have f446 : Ary Z T437.heap b102 (.object "java/lang/Object") [.null, (.ref b360)] := (f435.keep K437 (ninS ne_b102_b403 nin0))
      have f447 : n0 ≤ T437.heap.size := (Nat.le_trans f436 K437.1)
      obtain ⟨_, _, ⟨T448, L448, k448, n448⟩, -, X448, ⟨Lc448, hQ448, l448, y448, z448⟩, st448⟩ := Jvm.LawKit.callS X437 hx (y := (⟨"com/example/tributary/tributary/runtime/RevisitsSeenBeforePinLaw", "step", "(Lcom/example/tributary/tributary/runtime/Revisits;[Ljava/lang/Object;[Ljava/lang/Object;III)Z"⟩ : MethodName)) hown (mvT hZ (hw _ (mw 43 rfl))) (mvT hZ (hw _ (mw 44 rfl))) (mvT hZ (hw _ (mw 45 rfl))) (mvT hZ (hw _ (mw 46 rfl))) (by decide) (backOf (W := 1) (rmst l Z a0 hw [] b403 b1 b102 b2 b18 b40 b68 b360 .null (own_kf tn ln 2) (own_Z tn ln 2).1 (own_Z tn ln 2).2.1 (own_Z tn ln 2).2.2 (2 : Int32) (own_t3 tn) (own_l5 ln) T437.heap n0 f447 f444 R438 R439 R440 R441 f445 f446 g_b403 rfl (own_kk2 tn ln) (own_l0 ln) hD) hZ (hw _ (mw 46 rfl)) (hw _ (mw 45 rfl)) (by decide) (by decide)) (g := (mkF m 252 #[.val (.int u0), .val (.int u1), .val (.int u2), .val (.int u3), .val (.int (own_t3 tn)), .val (.int (own_l5 ln)), .val (.int cc), .val (.int cd), .val (.ref b1), .val (.ref b102), .val (.ref b403), .val (.int gg2)] [(.int (own_l5 ln)), (.int (own_t3 tn)), (.int (2 : Int32)), (.ref b102), (.ref b1), (.ref b403), (.int gg2)])) rfl (by rw [hml]; rfl) (argsL := [(.ref b403), (.ref b1), (.ref b102), (.int (2 : Int32)), (.int (own_t3 tn)), (.int (own_l5 ln))]) (rest := [(.int gg2)]) (lenOf pd_6 rfl) rfl (by show 2 * 0 + _ ≤ _; exact Nat.le_of_eq rfl) (hb hby at_252) (fun _ _ => ⟨rfl, rfl, (by decide : 18 + 0 ≤ _), (by decide : 40 + 0 ≤ _)⟩)
      dsimp only [Pt.U, Pt.locs, Pt.cells, Pt.slots] at X448 l448 y448 z448 st448 hQ448
      subst y448 z448
      obtain ⟨rfl, N448q, K448, P448_0, P448_1, P448_2, P448_3⟩ := hQ448
      have N448 := Fr.eqv l448 (Fr.app N437 N448q)
      refine Goal.to (B := T448.setTop (mkF m 255 #[.val (.int u0), .val (.int u1), .val (.int u2), .val (.int u3), .val (.int (own_t3 tn)), .val (.int (own_l5 ln)), .val (.int cc), .val (.int cd), .val (.ref b1), .val (.ref b102), .val (.ref b403), .val (.int gg2)] [(.int (own_seen (own_Z tn ln 2).1 (own_kf tn ln 2))), (.int gg2)])) st448 ?_
      have R449 : Fld Z T448.heap b403 "com/example/tributary/tributary/runtime/Revisits" "markedLeft" "Ljava/lang/Object;" (own_ML b2 b18 b40 b68 (own_Z tn ln 3).1) := by rw [own_Zm3 tn ln]; exact P448_0
      have R450 : Fld Z T448.heap b403 "com/example/tributary/tributary/runtime/Revisits" "markedRight" "Ljava/lang/Object;" (own_MR .null b360 (own_Z tn ln 3).1) := by rw [own_Zm3 tn ln]; exact P448_1
      have R451 : Fld Z T448.heap b403 "com/example/tributary/tributary/runtime/Revisits" "sinceMark" "J" (.long (own_Z tn ln 3).2.1) := by rw [own_Zs3 tn ln]; exact P448_2
      have R452 : Fld Z T448.heap b403 "com/example/tributary/tributary/runtime/Revisits" "markInterval" "J" (.long (own_Z tn ln 3).2.2) := by rw [own_Zi3 tn ln]; exact P448_3
      obtain ⟨w454, hw454⟩ : ∃ z : Int32, z = if (own_seen (own_Z tn ln 2).1 (own_kf tn ln 2)) = (0 : Int32) then (0 : Int32) else (4 : Int32) := ⟨_, rfl⟩
      refine Goal.to (B := T448.setTop (mkF m 263 #[.val (.int u0), .val (.int u1), .val (.int u2), .val (.int u3), .val (.int (own_t3 tn)), .val (.int (own_l5 ln)), .val (.int cc), .val (.int cd), .val (.ref b1), .val (.ref b102), .val (.ref b403), .val (.int gg2)] [(.int w454), (.int gg2)])) (fun tt kk => ?_) ?_
      · by_cases hc453 : (own_seen (own_Z tn ln 2).1 (own_kf tn ln 2)) = (0 : Int32)
        · have qw454 : w454 = (0 : Int32) := by rw [hw454, if_pos hc453]
          rw [qw454] at kk
          show Steps p.tables e below (T448.setTop (mkF m 255 #[.val (.int u0), .val (.int u1), .val (.int u2), .val (.int u3), .val (.int (own_t3 tn)), .val (.int (own_l5 ln)), .val (.int cc), .val (.int cd), .val (.ref b1), .val (.ref b102), .val (.ref b403), .val (.int gg2)] [(.int (own_seen (own_Z tn ln 2).1 (own_kf tn ln 2))), (.int gg2)])) tt
          refine XS.ifYes X448.here hx rfl (pc0 := 255) (pc' := 262) rfl (hb hby at_255) rfl ((if0 _ _).trans (teq hc453).1) (by decide) (by decide) ?_
          show Steps p.tables e below (T448.setTop (mkF m 262 #[.val (.int u0), .val (.int u1), .val (.int u2), .val (.int u3), .val (.int (own_t3 tn)), .val (.int (own_l5 ln)), .val (.int cc), .val (.int cd), .val (.ref b1), .val (.ref b102), .val (.ref b403), .val (.int gg2)] [(.int gg2)])) tt
          refine XS.iconst X448.here hx rfl (hb hby at_262) ?_
          exact kk
        · have qw454 : w454 = (4 : Int32) := by rw [hw454, if_neg hc453]
          rw [qw454] at kk
          show Steps p.tables e below (T448.setTop (mkF m 255 #[.val (.int u0), .val (.int u1), .val (.int u2), .val (.int u3), .val (.int (own_t3 tn)), .val (.int (own_l5 ln)), .val (.int cc), .val (.int cd), .val (.ref b1), .val (.ref b102), .val (.ref b403), .val (.int gg2)] [(.int (own_seen (own_Z tn ln 2).1 (own_kf tn ln 2))), (.int gg2)])) tt
          refine XS.ifNo X448.here hx rfl (hb hby at_255) rfl ((if0 _ _).trans (feq hc453).1) ?_
          show Steps p.tables e below (T448.setTop (mkF m 258 #[.val (.int u0), .val (.int u1), .val (.int u2), .val (.int u3), .val (.int (own_t3 tn)), .val (.int (own_l5 ln)), .val (.int cc), .val (.int cd), .val (.ref b1), .val (.ref b102), .val (.ref b403), .val (.int gg2)] [(.int gg2)])) tt
          refine XS.iconst X448.here hx rfl (hb hby at_258) ?_
          show Steps p.tables e below (T448.setTop (mkF m 259 #[.val (.int u0), .val (.int u1), .val (.int u2), .val (.int u3), .val (.int (own_t3 tn)), .val (.int (own_l5 ln)), .val (.int cc), .val (.int cd), .val (.ref b1), .val (.ref b102), .val (.ref b403), .val (.int gg2)] [(.int (4 : Int32)), (.int gg2)])) tt
          refine XS.goto X448.here hx rfl (pc0 := 259) (pc' := 263) rfl (hb hby at_259) (by decide) (by decide) ?_
          exact kk
      obtain ⟨gg3, hgg3⟩ : ∃ z : Int32, z = (gg2 ||| w454) := ⟨_, rfl⟩
      refine Goal.to (B := T448.setTop (mkF m 266 #[.val (.int u0), .val (.int u1), .val (.int u2), .val (.int u3), .val (.int (own_t3 tn)), .val (.int (own_l5 ln)), .val (.int cc), .val (.int cd), .val (.ref b1), .val (.ref b102), .val (.ref b403), .val (.int gg3)] [])) (fun tt kk => ?_) ?_
      · subst hgg3
        show Steps p.tables e below (T448.setTop (mkF m 263 #[.val (.int u0), .val (.int u1), .val (.int u2), .val (.int u3), .val (.int (own_t3 tn)), .val (.int (own_l5 ln)), .val (.int cc), .val (.int cd), .val (.ref b1), .val (.ref b102), .val (.ref b403), .val (.int gg2)] [(.int w454), (.int gg2)])) tt
        refine XS.ior X448.here hx rfl (hb hby at_263) rfl ?_
        show Steps p.tables e below (T448.setTop (mkF m 264 #[.val (.int u0), .val (.int u1), .val (.int u2), .val (.int u3), .val (.int (own_t3 tn)), .val (.int (own_l5 ln)), .val (.int cc), .val (.int cd), .val (.ref b1), .val (.ref b102), .val (.ref b403), .val (.int gg2)] [(.int (gg2 ||| w454))])) tt
        refine XS.istore X448.here hx rfl (hb hby at_264) rfl (l' := #[.val (.int u0), .val (.int u1), .val (.int u2), .val (.int u3), .val (.int (own_t3 tn)), .val (.int (own_l5 ln)), .val (.int cc), .val (.int cd), .val (.ref b1), .val (.ref b102), .val (.ref b403), .val (.int (gg2 ||| w454))]) rfl ?_
        exact kk
      have hG3 : gg3 = own_G tn ln 3 := by rw [hgg3, hw454, own_G3 tn ln, hG2]
      refine Goal.to (B := T448.setTop (mkF m 279 #[.val (.int u0), .val (.int u1), .val (.int u2), .val (.int u3), .val (.int (own_t3 tn)), .val (.int (own_l5 ln)), .val (.int cc), .val (.int cd), .val (.ref b1), .val (.ref b102), .val (.ref b403), .val (.int gg3)] [(.int (own_l5 ln)), (.int (own_t3 tn)), (.int (3 : Int32)), (.ref b102), (.ref b1), (.ref b403), (.int gg3)])) (fun tt kk => ?_) ?_
      · show Steps p.tables e below (T448.setTop (mkF m 266 #[.val (.int u0), .val (.int u1), .val (.int u2), .val (.int u3), .val (.int (own_t3 tn)), .val (.int (own_l5 ln)), .val (.int cc), .val (.int cd), .val (.ref b1), .val (.ref b102), .val (.ref b403), .val (.int gg3)] [])) tt
        refine XS.iload X448.here hx rfl (hb hby at_266) rfl ?_
        show Steps p.tables e below (T448.setTop (mkF m 268 #[.val (.int u0), .val (.int u1), .val (.int u2), .val (.int u3), .val (.int (own_t3 tn)), .val (.int (own_l5 ln)), .val (.int cc), .val (.int cd), .val (.ref b1), .val (.ref b102), .val (.ref b403), .val (.int gg3)] [(.int gg3)])) tt
        refine XS.aload X448.here hx rfl (hb hby at_268) rfl rfl ?_
        show Steps p.tables e below (T448.setTop (mkF m 270 #[.val (.int u0), .val (.int u1), .val (.int u2), .val (.int u3), .val (.int (own_t3 tn)), .val (.int (own_l5 ln)), .val (.int cc), .val (.int cd), .val (.ref b1), .val (.ref b102), .val (.ref b403), .val (.int gg3)] [(.ref b403), (.int gg3)])) tt
        refine XS.aload X448.here hx rfl (hb hby at_270) rfl rfl ?_
        show Steps p.tables e below (T448.setTop (mkF m 272 #[.val (.int u0), .val (.int u1), .val (.int u2), .val (.int u3), .val (.int (own_t3 tn)), .val (.int (own_l5 ln)), .val (.int cc), .val (.int cd), .val (.ref b1), .val (.ref b102), .val (.ref b403), .val (.int gg3)] [(.ref b1), (.ref b403), (.int gg3)])) tt
        refine XS.aload X448.here hx rfl (hb hby at_272) rfl rfl ?_
        show Steps p.tables e below (T448.setTop (mkF m 274 #[.val (.int u0), .val (.int u1), .val (.int u2), .val (.int u3), .val (.int (own_t3 tn)), .val (.int (own_l5 ln)), .val (.int cc), .val (.int cd), .val (.ref b1), .val (.ref b102), .val (.ref b403), .val (.int gg3)] [(.ref b102), (.ref b1), (.ref b403), (.int gg3)])) tt
        refine XS.iconst X448.here hx rfl (hb hby at_274) ?_
        show Steps p.tables e below (T448.setTop (mkF m 275 #[.val (.int u0), .val (.int u1), .val (.int u2), .val (.int u3), .val (.int (own_t3 tn)), .val (.int (own_l5 ln)), .val (.int cc), .val (.int cd), .val (.ref b1), .val (.ref b102), .val (.ref b403), .val (.int gg3)] [(.int (3 : Int32)), (.ref b102), (.ref b1), (.ref b403), (.int gg3)])) tt
        refine XS.iload X448.here hx rfl (hb hby at_275) rfl ?_
        show Steps p.tables e below (T448.setTop (mkF m 277 #[.val (.int u0), .val (.int u1), .val (.int u2), .val (.int u3), .val (.int (own_t3 tn)), .val (.int (own_l5 ln)), .val (.int cc), .val (.int cd), .val (.ref b1), .val (.ref b102), .val (.ref b403), .val (.int gg3)] [(.int (own_t3 tn)), (.int (3 : Int32)), (.ref b102), (.ref b1), (.ref b403), (.int gg3)])) tt
        refine XS.iload X448.here hx rfl (hb hby at_277) rfl ?_
        exact kk
      have f455 : Exa Z T448.heap b403 "com/example/tributary/tributary/runtime/Revisits" := (f444.keep K448)
      have f456 : Ary Z T448.heap b1 (.object "java/lang/Object") [(.ref b2), (.ref b18), (.ref b40), (.ref b68)] := (f445.keep K448 (ninS ne_b1_b403 nin0))
      have f457 : Ary Z T448.heap b102 (.object "java/lang/Object") [.null, (.ref b360)] := (f446.keep K448 (ninS ne_b102_b403 nin0))
      have f458 : n0 ≤ T448.heap.size := (Nat.le_trans f447 K448.1)
      obtain ⟨_, _, ⟨T459, L459, k459, n459⟩, -, X459, ⟨Lc459, hQ459, l459, y459, z459⟩, st459⟩ := Jvm.LawKit.callS X448 hx (y := (⟨"com/example/tributary/tributary/runtime/RevisitsSeenBeforePinLaw", "step", "(Lcom/example/tributary/tributary/runtime/Revisits;[Ljava/lang/Object;[Ljava/lang/Object;III)Z"⟩ : MethodName)) hown (mvT hZ (hw _ (mw 43 rfl))) (mvT hZ (hw _ (mw 44 rfl))) (mvT hZ (hw _ (mw 45 rfl))) (mvT hZ (hw _ (mw 46 rfl))) (by decide) (backOf (W := 1) (rmst l Z a0 hw [] b403 b1 b102 b2 b18 b40 b68 b360 .null (own_kf tn ln 3) (own_Z tn ln 3).1 (own_Z tn ln 3).2.1 (own_Z tn ln 3).2.2 (3 : Int32) (own_t3 tn) (own_l5 ln) T448.heap n0 f458 f455 R449 R450 R451 R452 f456 f457 g_b403 rfl (own_kk3 tn ln) (own_l0 ln) hD) hZ (hw _ (mw 46 rfl)) (hw _ (mw 45 rfl)) (by decide) (by decide)) (g := (mkF m 279 #[.val (.int u0), .val (.int u1), .val (.int u2), .val (.int u3), .val (.int (own_t3 tn)), .val (.int (own_l5 ln)), .val (.int cc), .val (.int cd), .val (.ref b1), .val (.ref b102), .val (.ref b403), .val (.int gg3)] [(.int (own_l5 ln)), (.int (own_t3 tn)), (.int (3 : Int32)), (.ref b102), (.ref b1), (.ref b403), (.int gg3)])) rfl (by rw [hml]; rfl) (argsL := [(.ref b403), (.ref b1), (.ref b102), (.int (3 : Int32)), (.int (own_t3 tn)), (.int (own_l5 ln))]) (rest := [(.int gg3)]) (lenOf pd_6 rfl) rfl (by show 2 * 0 + _ ≤ _; exact Nat.le_of_eq rfl) (hb hby at_279) (fun _ _ => ⟨rfl, rfl, (by decide : 18 + 0 ≤ _), (by decide : 40 + 0 ≤ _)⟩)
      dsimp only [Pt.U, Pt.locs, Pt.cells, Pt.slots] at X459 l459 y459 z459 st459 hQ459
      subst y459 z459
      obtain ⟨rfl, N459q, K459, P459_0, P459_1, P459_2, P459_3⟩ := hQ459
      have N459 := Fr.eqv l459 (Fr.app N448 N459q)
      refine Goal.to (B := T459.setTop (mkF m 282 #[.val (.int u0), .val (.int u1), .val (.int u2), .val (.int u3), .val (.int (own_t3 tn)), .val (.int (own_l5 ln)), .val (.int cc), .val (.int cd), .val (.ref b1), .val (.ref b102), .val (.ref b403), .val (.int gg3)] [(.int (own_seen (own_Z tn ln 3).1 (own_kf tn ln 3))), (.int gg3)])) st459 ?_
      have R460 : Fld Z T459.heap b403 "com/example/tributary/tributary/runtime/Revisits" "markedLeft" "Ljava/lang/Object;" (own_ML b2 b18 b40 b68 (own_Z tn ln 4).1) := by rw [own_Zm4 tn ln]; exact P459_0
      have R461 : Fld Z T459.heap b403 "com/example/tributary/tributary/runtime/Revisits" "markedRight" "Ljava/lang/Object;" (own_MR .null b360 (own_Z tn ln 4).1) := by rw [own_Zm4 tn ln]; exact P459_1
      have R462 : Fld Z T459.heap b403 "com/example/tributary/tributary/runtime/Revisits" "sinceMark" "J" (.long (own_Z tn ln 4).2.1) := by rw [own_Zs4 tn ln]; exact P459_2
      have R463 : Fld Z T459.heap b403 "com/example/tributary/tributary/runtime/Revisits" "markInterval" "J" (.long (own_Z tn ln 4).2.2) := by rw [own_Zi4 tn ln]; exact P459_3
      obtain ⟨w465, hw465⟩ : ∃ z : Int32, z = if (own_seen (own_Z tn ln 3).1 (own_kf tn ln 3)) = (0 : Int32) then (0 : Int32) else (8 : Int32) := ⟨_, rfl⟩
      refine Goal.to (B := T459.setTop (mkF m 291 #[.val (.int u0), .val (.int u1), .val (.int u2), .val (.int u3), .val (.int (own_t3 tn)), .val (.int (own_l5 ln)), .val (.int cc), .val (.int cd), .val (.ref b1), .val (.ref b102), .val (.ref b403), .val (.int gg3)] [(.int w465), (.int gg3)])) (fun tt kk => ?_) ?_
      · by_cases hc464 : (own_seen (own_Z tn ln 3).1 (own_kf tn ln 3)) = (0 : Int32)
        · have qw465 : w465 = (0 : Int32) := by rw [hw465, if_pos hc464]
          rw [qw465] at kk
          show Steps p.tables e below (T459.setTop (mkF m 282 #[.val (.int u0), .val (.int u1), .val (.int u2), .val (.int u3), .val (.int (own_t3 tn)), .val (.int (own_l5 ln)), .val (.int cc), .val (.int cd), .val (.ref b1), .val (.ref b102), .val (.ref b403), .val (.int gg3)] [(.int (own_seen (own_Z tn ln 3).1 (own_kf tn ln 3))), (.int gg3)])) tt
          refine XS.ifYes X459.here hx rfl (pc0 := 282) (pc' := 290) rfl (hb hby at_282) rfl ((if0 _ _).trans (teq hc464).1) (by decide) (by decide) ?_
          show Steps p.tables e below (T459.setTop (mkF m 290 #[.val (.int u0), .val (.int u1), .val (.int u2), .val (.int u3), .val (.int (own_t3 tn)), .val (.int (own_l5 ln)), .val (.int cc), .val (.int cd), .val (.ref b1), .val (.ref b102), .val (.ref b403), .val (.int gg3)] [(.int gg3)])) tt
          refine XS.iconst X459.here hx rfl (hb hby at_290) ?_
          exact kk
        · have qw465 : w465 = (8 : Int32) := by rw [hw465, if_neg hc464]
          rw [qw465] at kk
          show Steps p.tables e below (T459.setTop (mkF m 282 #[.val (.int u0), .val (.int u1), .val (.int u2), .val (.int u3), .val (.int (own_t3 tn)), .val (.int (own_l5 ln)), .val (.int cc), .val (.int cd), .val (.ref b1), .val (.ref b102), .val (.ref b403), .val (.int gg3)] [(.int (own_seen (own_Z tn ln 3).1 (own_kf tn ln 3))), (.int gg3)])) tt
          refine XS.ifNo X459.here hx rfl (hb hby at_282) rfl ((if0 _ _).trans (feq hc464).1) ?_
          show Steps p.tables e below (T459.setTop (mkF m 285 #[.val (.int u0), .val (.int u1), .val (.int u2), .val (.int u3), .val (.int (own_t3 tn)), .val (.int (own_l5 ln)), .val (.int cc), .val (.int cd), .val (.ref b1), .val (.ref b102), .val (.ref b403), .val (.int gg3)] [(.int gg3)])) tt
          refine XS.bipush X459.here hx rfl (hb hby at_285) ?_
          show Steps p.tables e below (T459.setTop (mkF m 287 #[.val (.int u0), .val (.int u1), .val (.int u2), .val (.int u3), .val (.int (own_t3 tn)), .val (.int (own_l5 ln)), .val (.int cc), .val (.int cd), .val (.ref b1), .val (.ref b102), .val (.ref b403), .val (.int gg3)] [(.int (8 : Int32)), (.int gg3)])) tt
          refine XS.goto X459.here hx rfl (pc0 := 287) (pc' := 291) rfl (hb hby at_287) (by decide) (by decide) ?_
          exact kk
      obtain ⟨gg4, hgg4⟩ : ∃ z : Int32, z = (gg3 ||| w465) := ⟨_, rfl⟩
      refine Goal.to (B := T459.setTop (mkF m 294 #[.val (.int u0), .val (.int u1), .val (.int u2), .val (.int u3), .val (.int (own_t3 tn)), .val (.int (own_l5 ln)), .val (.int cc), .val (.int cd), .val (.ref b1), .val (.ref b102), .val (.ref b403), .val (.int gg4)] [])) (fun tt kk => ?_) ?_
      · subst hgg4
        show Steps p.tables e below (T459.setTop (mkF m 291 #[.val (.int u0), .val (.int u1), .val (.int u2), .val (.int u3), .val (.int (own_t3 tn)), .val (.int (own_l5 ln)), .val (.int cc), .val (.int cd), .val (.ref b1), .val (.ref b102), .val (.ref b403), .val (.int gg3)] [(.int w465), (.int gg3)])) tt
        refine XS.ior X459.here hx rfl (hb hby at_291) rfl ?_
        show Steps p.tables e below (T459.setTop (mkF m 292 #[.val (.int u0), .val (.int u1), .val (.int u2), .val (.int u3), .val (.int (own_t3 tn)), .val (.int (own_l5 ln)), .val (.int cc), .val (.int cd), .val (.ref b1), .val (.ref b102), .val (.ref b403), .val (.int gg3)] [(.int (gg3 ||| w465))])) tt
        refine XS.istore X459.here hx rfl (hb hby at_292) rfl (l' := #[.val (.int u0), .val (.int u1), .val (.int u2), .val (.int u3), .val (.int (own_t3 tn)), .val (.int (own_l5 ln)), .val (.int cc), .val (.int cd), .val (.ref b1), .val (.ref b102), .val (.ref b403), .val (.int (gg3 ||| w465))]) rfl ?_
        exact kk
      have hG4 : gg4 = own_G tn ln 4 := by rw [hgg4, hw465, own_G4 tn ln, hG3]
      refine Goal.to (B := T459.setTop (mkF m 307 #[.val (.int u0), .val (.int u1), .val (.int u2), .val (.int u3), .val (.int (own_t3 tn)), .val (.int (own_l5 ln)), .val (.int cc), .val (.int cd), .val (.ref b1), .val (.ref b102), .val (.ref b403), .val (.int gg4)] [(.int (own_l5 ln)), (.int (own_t3 tn)), (.int (4 : Int32)), (.ref b102), (.ref b1), (.ref b403), (.int gg4)])) (fun tt kk => ?_) ?_
      · show Steps p.tables e below (T459.setTop (mkF m 294 #[.val (.int u0), .val (.int u1), .val (.int u2), .val (.int u3), .val (.int (own_t3 tn)), .val (.int (own_l5 ln)), .val (.int cc), .val (.int cd), .val (.ref b1), .val (.ref b102), .val (.ref b403), .val (.int gg4)] [])) tt
        refine XS.iload X459.here hx rfl (hb hby at_294) rfl ?_
        show Steps p.tables e below (T459.setTop (mkF m 296 #[.val (.int u0), .val (.int u1), .val (.int u2), .val (.int u3), .val (.int (own_t3 tn)), .val (.int (own_l5 ln)), .val (.int cc), .val (.int cd), .val (.ref b1), .val (.ref b102), .val (.ref b403), .val (.int gg4)] [(.int gg4)])) tt
        refine XS.aload X459.here hx rfl (hb hby at_296) rfl rfl ?_
        show Steps p.tables e below (T459.setTop (mkF m 298 #[.val (.int u0), .val (.int u1), .val (.int u2), .val (.int u3), .val (.int (own_t3 tn)), .val (.int (own_l5 ln)), .val (.int cc), .val (.int cd), .val (.ref b1), .val (.ref b102), .val (.ref b403), .val (.int gg4)] [(.ref b403), (.int gg4)])) tt
        refine XS.aload X459.here hx rfl (hb hby at_298) rfl rfl ?_
        show Steps p.tables e below (T459.setTop (mkF m 300 #[.val (.int u0), .val (.int u1), .val (.int u2), .val (.int u3), .val (.int (own_t3 tn)), .val (.int (own_l5 ln)), .val (.int cc), .val (.int cd), .val (.ref b1), .val (.ref b102), .val (.ref b403), .val (.int gg4)] [(.ref b1), (.ref b403), (.int gg4)])) tt
        refine XS.aload X459.here hx rfl (hb hby at_300) rfl rfl ?_
        show Steps p.tables e below (T459.setTop (mkF m 302 #[.val (.int u0), .val (.int u1), .val (.int u2), .val (.int u3), .val (.int (own_t3 tn)), .val (.int (own_l5 ln)), .val (.int cc), .val (.int cd), .val (.ref b1), .val (.ref b102), .val (.ref b403), .val (.int gg4)] [(.ref b102), (.ref b1), (.ref b403), (.int gg4)])) tt
        refine XS.iconst X459.here hx rfl (hb hby at_302) ?_
        show Steps p.tables e below (T459.setTop (mkF m 303 #[.val (.int u0), .val (.int u1), .val (.int u2), .val (.int u3), .val (.int (own_t3 tn)), .val (.int (own_l5 ln)), .val (.int cc), .val (.int cd), .val (.ref b1), .val (.ref b102), .val (.ref b403), .val (.int gg4)] [(.int (4 : Int32)), (.ref b102), (.ref b1), (.ref b403), (.int gg4)])) tt
        refine XS.iload X459.here hx rfl (hb hby at_303) rfl ?_
        show Steps p.tables e below (T459.setTop (mkF m 305 #[.val (.int u0), .val (.int u1), .val (.int u2), .val (.int u3), .val (.int (own_t3 tn)), .val (.int (own_l5 ln)), .val (.int cc), .val (.int cd), .val (.ref b1), .val (.ref b102), .val (.ref b403), .val (.int gg4)] [(.int (own_t3 tn)), (.int (4 : Int32)), (.ref b102), (.ref b1), (.ref b403), (.int gg4)])) tt
        refine XS.iload X459.here hx rfl (hb hby at_305) rfl ?_
        exact kk
      have f466 : Exa Z T459.heap b403 "com/example/tributary/tributary/runtime/Revisits" := (f455.keep K459)
      have f467 : Ary Z T459.heap b1 (.object "java/lang/Object") [(.ref b2), (.ref b18), (.ref b40), (.ref b68)] := (f456.keep K459 (ninS ne_b1_b403 nin0))
      have f468 : Ary Z T459.heap b102 (.object "java/lang/Object") [.null, (.ref b360)] := (f457.keep K459 (ninS ne_b102_b403 nin0))
      have f469 : n0 ≤ T459.heap.size := (Nat.le_trans f458 K459.1)
      obtain ⟨_, _, ⟨T470, L470, k470, n470⟩, -, X470, ⟨Lc470, hQ470, l470, y470, z470⟩, st470⟩ := Jvm.LawKit.callS X459 hx (y := (⟨"com/example/tributary/tributary/runtime/RevisitsSeenBeforePinLaw", "step", "(Lcom/example/tributary/tributary/runtime/Revisits;[Ljava/lang/Object;[Ljava/lang/Object;III)Z"⟩ : MethodName)) hown (mvT hZ (hw _ (mw 43 rfl))) (mvT hZ (hw _ (mw 44 rfl))) (mvT hZ (hw _ (mw 45 rfl))) (mvT hZ (hw _ (mw 46 rfl))) (by decide) (backOf (W := 1) (rmst l Z a0 hw [] b403 b1 b102 b2 b18 b40 b68 b360 .null (own_kf tn ln 4) (own_Z tn ln 4).1 (own_Z tn ln 4).2.1 (own_Z tn ln 4).2.2 (4 : Int32) (own_t3 tn) (own_l5 ln) T459.heap n0 f469 f466 R460 R461 R462 R463 f467 f468 g_b403 rfl (own_kk4 tn ln) (own_l0 ln) hD) hZ (hw _ (mw 46 rfl)) (hw _ (mw 45 rfl)) (by decide) (by decide)) (g := (mkF m 307 #[.val (.int u0), .val (.int u1), .val (.int u2), .val (.int u3), .val (.int (own_t3 tn)), .val (.int (own_l5 ln)), .val (.int cc), .val (.int cd), .val (.ref b1), .val (.ref b102), .val (.ref b403), .val (.int gg4)] [(.int (own_l5 ln)), (.int (own_t3 tn)), (.int (4 : Int32)), (.ref b102), (.ref b1), (.ref b403), (.int gg4)])) rfl (by rw [hml]; rfl) (argsL := [(.ref b403), (.ref b1), (.ref b102), (.int (4 : Int32)), (.int (own_t3 tn)), (.int (own_l5 ln))]) (rest := [(.int gg4)]) (lenOf pd_6 rfl) rfl (by show 2 * 0 + _ ≤ _; exact Nat.le_of_eq rfl) (hb hby at_307) (fun _ _ => ⟨rfl, rfl, (by decide : 18 + 0 ≤ _), (by decide : 40 + 0 ≤ _)⟩)
      dsimp only [Pt.U, Pt.locs, Pt.cells, Pt.slots] at X470 l470 y470 z470 st470 hQ470
      subst y470 z470
      obtain ⟨rfl, N470q, K470, P470_0, P470_1, P470_2, P470_3⟩ := hQ470
      have N470 := Fr.eqv l470 (Fr.app N459 N470q)
      refine Goal.to (B := T470.setTop (mkF m 310 #[.val (.int u0), .val (.int u1), .val (.int u2), .val (.int u3), .val (.int (own_t3 tn)), .val (.int (own_l5 ln)), .val (.int cc), .val (.int cd), .val (.ref b1), .val (.ref b102), .val (.ref b403), .val (.int gg4)] [(.int (own_seen (own_Z tn ln 4).1 (own_kf tn ln 4))), (.int gg4)])) st470 ?_
      have R471 : Fld Z T470.heap b403 "com/example/tributary/tributary/runtime/Revisits" "markedLeft" "Ljava/lang/Object;" (own_ML b2 b18 b40 b68 (own_Z tn ln 5).1) := by rw [own_Zm5 tn ln]; exact P470_0
      have R472 : Fld Z T470.heap b403 "com/example/tributary/tributary/runtime/Revisits" "markedRight" "Ljava/lang/Object;" (own_MR .null b360 (own_Z tn ln 5).1) := by rw [own_Zm5 tn ln]; exact P470_1
      have R473 : Fld Z T470.heap b403 "com/example/tributary/tributary/runtime/Revisits" "sinceMark" "J" (.long (own_Z tn ln 5).2.1) := by rw [own_Zs5 tn ln]; exact P470_2
      have R474 : Fld Z T470.heap b403 "com/example/tributary/tributary/runtime/Revisits" "markInterval" "J" (.long (own_Z tn ln 5).2.2) := by rw [own_Zi5 tn ln]; exact P470_3
      obtain ⟨w476, hw476⟩ : ∃ z : Int32, z = if (own_seen (own_Z tn ln 4).1 (own_kf tn ln 4)) = (0 : Int32) then (0 : Int32) else (16 : Int32) := ⟨_, rfl⟩
      refine Goal.to (B := T470.setTop (mkF m 319 #[.val (.int u0), .val (.int u1), .val (.int u2), .val (.int u3), .val (.int (own_t3 tn)), .val (.int (own_l5 ln)), .val (.int cc), .val (.int cd), .val (.ref b1), .val (.ref b102), .val (.ref b403), .val (.int gg4)] [(.int w476), (.int gg4)])) (fun tt kk => ?_) ?_
      · by_cases hc475 : (own_seen (own_Z tn ln 4).1 (own_kf tn ln 4)) = (0 : Int32)
        · have qw476 : w476 = (0 : Int32) := by rw [hw476, if_pos hc475]
          rw [qw476] at kk
          show Steps p.tables e below (T470.setTop (mkF m 310 #[.val (.int u0), .val (.int u1), .val (.int u2), .val (.int u3), .val (.int (own_t3 tn)), .val (.int (own_l5 ln)), .val (.int cc), .val (.int cd), .val (.ref b1), .val (.ref b102), .val (.ref b403), .val (.int gg4)] [(.int (own_seen (own_Z tn ln 4).1 (own_kf tn ln 4))), (.int gg4)])) tt
          refine XS.ifYes X470.here hx rfl (pc0 := 310) (pc' := 318) rfl (hb hby at_310) rfl ((if0 _ _).trans (teq hc475).1) (by decide) (by decide) ?_
          show Steps p.tables e below (T470.setTop (mkF m 318 #[.val (.int u0), .val (.int u1), .val (.int u2), .val (.int u3), .val (.int (own_t3 tn)), .val (.int (own_l5 ln)), .val (.int cc), .val (.int cd), .val (.ref b1), .val (.ref b102), .val (.ref b403), .val (.int gg4)] [(.int gg4)])) tt
          refine XS.iconst X470.here hx rfl (hb hby at_318) ?_
          exact kk
        · have qw476 : w476 = (16 : Int32) := by rw [hw476, if_neg hc475]
          rw [qw476] at kk
          show Steps p.tables e below (T470.setTop (mkF m 310 #[.val (.int u0), .val (.int u1), .val (.int u2), .val (.int u3), .val (.int (own_t3 tn)), .val (.int (own_l5 ln)), .val (.int cc), .val (.int cd), .val (.ref b1), .val (.ref b102), .val (.ref b403), .val (.int gg4)] [(.int (own_seen (own_Z tn ln 4).1 (own_kf tn ln 4))), (.int gg4)])) tt
          refine XS.ifNo X470.here hx rfl (hb hby at_310) rfl ((if0 _ _).trans (feq hc475).1) ?_
          show Steps p.tables e below (T470.setTop (mkF m 313 #[.val (.int u0), .val (.int u1), .val (.int u2), .val (.int u3), .val (.int (own_t3 tn)), .val (.int (own_l5 ln)), .val (.int cc), .val (.int cd), .val (.ref b1), .val (.ref b102), .val (.ref b403), .val (.int gg4)] [(.int gg4)])) tt
          refine XS.bipush X470.here hx rfl (hb hby at_313) ?_
          show Steps p.tables e below (T470.setTop (mkF m 315 #[.val (.int u0), .val (.int u1), .val (.int u2), .val (.int u3), .val (.int (own_t3 tn)), .val (.int (own_l5 ln)), .val (.int cc), .val (.int cd), .val (.ref b1), .val (.ref b102), .val (.ref b403), .val (.int gg4)] [(.int (16 : Int32)), (.int gg4)])) tt
          refine XS.goto X470.here hx rfl (pc0 := 315) (pc' := 319) rfl (hb hby at_315) (by decide) (by decide) ?_
          exact kk
      obtain ⟨gg5, hgg5⟩ : ∃ z : Int32, z = (gg4 ||| w476) := ⟨_, rfl⟩
      refine Goal.to (B := T470.setTop (mkF m 322 #[.val (.int u0), .val (.int u1), .val (.int u2), .val (.int u3), .val (.int (own_t3 tn)), .val (.int (own_l5 ln)), .val (.int cc), .val (.int cd), .val (.ref b1), .val (.ref b102), .val (.ref b403), .val (.int gg5)] [])) (fun tt kk => ?_) ?_
      · subst hgg5
        show Steps p.tables e below (T470.setTop (mkF m 319 #[.val (.int u0), .val (.int u1), .val (.int u2), .val (.int u3), .val (.int (own_t3 tn)), .val (.int (own_l5 ln)), .val (.int cc), .val (.int cd), .val (.ref b1), .val (.ref b102), .val (.ref b403), .val (.int gg4)] [(.int w476), (.int gg4)])) tt
        refine XS.ior X470.here hx rfl (hb hby at_319) rfl ?_
        show Steps p.tables e below (T470.setTop (mkF m 320 #[.val (.int u0), .val (.int u1), .val (.int u2), .val (.int u3), .val (.int (own_t3 tn)), .val (.int (own_l5 ln)), .val (.int cc), .val (.int cd), .val (.ref b1), .val (.ref b102), .val (.ref b403), .val (.int gg4)] [(.int (gg4 ||| w476))])) tt
        refine XS.istore X470.here hx rfl (hb hby at_320) rfl (l' := #[.val (.int u0), .val (.int u1), .val (.int u2), .val (.int u3), .val (.int (own_t3 tn)), .val (.int (own_l5 ln)), .val (.int cc), .val (.int cd), .val (.ref b1), .val (.ref b102), .val (.ref b403), .val (.int (gg4 ||| w476))]) rfl ?_
        exact kk
      have hG5 : gg5 = own_G tn ln 5 := by rw [hgg5, hw476, own_G5 tn ln, hG4]
      refine Goal.to (B := T470.setTop (mkF m 335 #[.val (.int u0), .val (.int u1), .val (.int u2), .val (.int u3), .val (.int (own_t3 tn)), .val (.int (own_l5 ln)), .val (.int cc), .val (.int cd), .val (.ref b1), .val (.ref b102), .val (.ref b403), .val (.int gg5)] [(.int (own_l5 ln)), (.int (own_t3 tn)), (.int (5 : Int32)), (.ref b102), (.ref b1), (.ref b403), (.int gg5)])) (fun tt kk => ?_) ?_
      · show Steps p.tables e below (T470.setTop (mkF m 322 #[.val (.int u0), .val (.int u1), .val (.int u2), .val (.int u3), .val (.int (own_t3 tn)), .val (.int (own_l5 ln)), .val (.int cc), .val (.int cd), .val (.ref b1), .val (.ref b102), .val (.ref b403), .val (.int gg5)] [])) tt
        refine XS.iload X470.here hx rfl (hb hby at_322) rfl ?_
        show Steps p.tables e below (T470.setTop (mkF m 324 #[.val (.int u0), .val (.int u1), .val (.int u2), .val (.int u3), .val (.int (own_t3 tn)), .val (.int (own_l5 ln)), .val (.int cc), .val (.int cd), .val (.ref b1), .val (.ref b102), .val (.ref b403), .val (.int gg5)] [(.int gg5)])) tt
        refine XS.aload X470.here hx rfl (hb hby at_324) rfl rfl ?_
        show Steps p.tables e below (T470.setTop (mkF m 326 #[.val (.int u0), .val (.int u1), .val (.int u2), .val (.int u3), .val (.int (own_t3 tn)), .val (.int (own_l5 ln)), .val (.int cc), .val (.int cd), .val (.ref b1), .val (.ref b102), .val (.ref b403), .val (.int gg5)] [(.ref b403), (.int gg5)])) tt
        refine XS.aload X470.here hx rfl (hb hby at_326) rfl rfl ?_
        show Steps p.tables e below (T470.setTop (mkF m 328 #[.val (.int u0), .val (.int u1), .val (.int u2), .val (.int u3), .val (.int (own_t3 tn)), .val (.int (own_l5 ln)), .val (.int cc), .val (.int cd), .val (.ref b1), .val (.ref b102), .val (.ref b403), .val (.int gg5)] [(.ref b1), (.ref b403), (.int gg5)])) tt
        refine XS.aload X470.here hx rfl (hb hby at_328) rfl rfl ?_
        show Steps p.tables e below (T470.setTop (mkF m 330 #[.val (.int u0), .val (.int u1), .val (.int u2), .val (.int u3), .val (.int (own_t3 tn)), .val (.int (own_l5 ln)), .val (.int cc), .val (.int cd), .val (.ref b1), .val (.ref b102), .val (.ref b403), .val (.int gg5)] [(.ref b102), (.ref b1), (.ref b403), (.int gg5)])) tt
        refine XS.iconst X470.here hx rfl (hb hby at_330) ?_
        show Steps p.tables e below (T470.setTop (mkF m 331 #[.val (.int u0), .val (.int u1), .val (.int u2), .val (.int u3), .val (.int (own_t3 tn)), .val (.int (own_l5 ln)), .val (.int cc), .val (.int cd), .val (.ref b1), .val (.ref b102), .val (.ref b403), .val (.int gg5)] [(.int (5 : Int32)), (.ref b102), (.ref b1), (.ref b403), (.int gg5)])) tt
        refine XS.iload X470.here hx rfl (hb hby at_331) rfl ?_
        show Steps p.tables e below (T470.setTop (mkF m 333 #[.val (.int u0), .val (.int u1), .val (.int u2), .val (.int u3), .val (.int (own_t3 tn)), .val (.int (own_l5 ln)), .val (.int cc), .val (.int cd), .val (.ref b1), .val (.ref b102), .val (.ref b403), .val (.int gg5)] [(.int (own_t3 tn)), (.int (5 : Int32)), (.ref b102), (.ref b1), (.ref b403), (.int gg5)])) tt
        refine XS.iload X470.here hx rfl (hb hby at_333) rfl ?_
        exact kk
      have f477 : Exa Z T470.heap b403 "com/example/tributary/tributary/runtime/Revisits" := (f466.keep K470)
      have f478 : Ary Z T470.heap b1 (.object "java/lang/Object") [(.ref b2), (.ref b18), (.ref b40), (.ref b68)] := (f467.keep K470 (ninS ne_b1_b403 nin0))
      have f479 : Ary Z T470.heap b102 (.object "java/lang/Object") [.null, (.ref b360)] := (f468.keep K470 (ninS ne_b102_b403 nin0))
      have f480 : n0 ≤ T470.heap.size := (Nat.le_trans f469 K470.1)
      obtain ⟨_, _, ⟨T481, L481, k481, n481⟩, -, X481, ⟨Lc481, hQ481, l481, y481, z481⟩, st481⟩ := Jvm.LawKit.callS X470 hx (y := (⟨"com/example/tributary/tributary/runtime/RevisitsSeenBeforePinLaw", "step", "(Lcom/example/tributary/tributary/runtime/Revisits;[Ljava/lang/Object;[Ljava/lang/Object;III)Z"⟩ : MethodName)) hown (mvT hZ (hw _ (mw 43 rfl))) (mvT hZ (hw _ (mw 44 rfl))) (mvT hZ (hw _ (mw 45 rfl))) (mvT hZ (hw _ (mw 46 rfl))) (by decide) (backOf (W := 1) (rmst l Z a0 hw [] b403 b1 b102 b2 b18 b40 b68 b360 .null (own_kf tn ln 5) (own_Z tn ln 5).1 (own_Z tn ln 5).2.1 (own_Z tn ln 5).2.2 (5 : Int32) (own_t3 tn) (own_l5 ln) T470.heap n0 f480 f477 R471 R472 R473 R474 f478 f479 g_b403 rfl (own_kk5 tn ln) (own_l0 ln) hD) hZ (hw _ (mw 46 rfl)) (hw _ (mw 45 rfl)) (by decide) (by decide)) (g := (mkF m 335 #[.val (.int u0), .val (.int u1), .val (.int u2), .val (.int u3), .val (.int (own_t3 tn)), .val (.int (own_l5 ln)), .val (.int cc), .val (.int cd), .val (.ref b1), .val (.ref b102), .val (.ref b403), .val (.int gg5)] [(.int (own_l5 ln)), (.int (own_t3 tn)), (.int (5 : Int32)), (.ref b102), (.ref b1), (.ref b403), (.int gg5)])) rfl (by rw [hml]; rfl) (argsL := [(.ref b403), (.ref b1), (.ref b102), (.int (5 : Int32)), (.int (own_t3 tn)), (.int (own_l5 ln))]) (rest := [(.int gg5)]) (lenOf pd_6 rfl) rfl (by show 2 * 0 + _ ≤ _; exact Nat.le_of_eq rfl) (hb hby at_335) (fun _ _ => ⟨rfl, rfl, (by decide : 18 + 0 ≤ _), (by decide : 40 + 0 ≤ _)⟩)
      dsimp only [Pt.U, Pt.locs, Pt.cells, Pt.slots] at X481 l481 y481 z481 st481 hQ481
      subst y481 z481
      obtain ⟨rfl, N481q, K481, P481_0, P481_1, P481_2, P481_3⟩ := hQ481
      have N481 := Fr.eqv l481 (Fr.app N470 N481q)
      refine Goal.to (B := T481.setTop (mkF m 338 #[.val (.int u0), .val (.int u1), .val (.int u2), .val (.int u3), .val (.int (own_t3 tn)), .val (.int (own_l5 ln)), .val (.int cc), .val (.int cd), .val (.ref b1), .val (.ref b102), .val (.ref b403), .val (.int gg5)] [(.int (own_seen (own_Z tn ln 5).1 (own_kf tn ln 5))), (.int gg5)])) st481 ?_
      have R482 : Fld Z T481.heap b403 "com/example/tributary/tributary/runtime/Revisits" "markedLeft" "Ljava/lang/Object;" (own_ML b2 b18 b40 b68 (own_Z tn ln 6).1) := by rw [own_Zm6 tn ln]; exact P481_0
      have R483 : Fld Z T481.heap b403 "com/example/tributary/tributary/runtime/Revisits" "markedRight" "Ljava/lang/Object;" (own_MR .null b360 (own_Z tn ln 6).1) := by rw [own_Zm6 tn ln]; exact P481_1
      have R484 : Fld Z T481.heap b403 "com/example/tributary/tributary/runtime/Revisits" "sinceMark" "J" (.long (own_Z tn ln 6).2.1) := by rw [own_Zs6 tn ln]; exact P481_2
      have R485 : Fld Z T481.heap b403 "com/example/tributary/tributary/runtime/Revisits" "markInterval" "J" (.long (own_Z tn ln 6).2.2) := by rw [own_Zi6 tn ln]; exact P481_3
      obtain ⟨w487, hw487⟩ : ∃ z : Int32, z = if (own_seen (own_Z tn ln 5).1 (own_kf tn ln 5)) = (0 : Int32) then (0 : Int32) else (32 : Int32) := ⟨_, rfl⟩
      refine Goal.to (B := T481.setTop (mkF m 347 #[.val (.int u0), .val (.int u1), .val (.int u2), .val (.int u3), .val (.int (own_t3 tn)), .val (.int (own_l5 ln)), .val (.int cc), .val (.int cd), .val (.ref b1), .val (.ref b102), .val (.ref b403), .val (.int gg5)] [(.int w487), (.int gg5)])) (fun tt kk => ?_) ?_
      · by_cases hc486 : (own_seen (own_Z tn ln 5).1 (own_kf tn ln 5)) = (0 : Int32)
        · have qw487 : w487 = (0 : Int32) := by rw [hw487, if_pos hc486]
          rw [qw487] at kk
          show Steps p.tables e below (T481.setTop (mkF m 338 #[.val (.int u0), .val (.int u1), .val (.int u2), .val (.int u3), .val (.int (own_t3 tn)), .val (.int (own_l5 ln)), .val (.int cc), .val (.int cd), .val (.ref b1), .val (.ref b102), .val (.ref b403), .val (.int gg5)] [(.int (own_seen (own_Z tn ln 5).1 (own_kf tn ln 5))), (.int gg5)])) tt
          refine XS.ifYes X481.here hx rfl (pc0 := 338) (pc' := 346) rfl (hb hby at_338) rfl ((if0 _ _).trans (teq hc486).1) (by decide) (by decide) ?_
          show Steps p.tables e below (T481.setTop (mkF m 346 #[.val (.int u0), .val (.int u1), .val (.int u2), .val (.int u3), .val (.int (own_t3 tn)), .val (.int (own_l5 ln)), .val (.int cc), .val (.int cd), .val (.ref b1), .val (.ref b102), .val (.ref b403), .val (.int gg5)] [(.int gg5)])) tt
          refine XS.iconst X481.here hx rfl (hb hby at_346) ?_
          exact kk
        · have qw487 : w487 = (32 : Int32) := by rw [hw487, if_neg hc486]
          rw [qw487] at kk
          show Steps p.tables e below (T481.setTop (mkF m 338 #[.val (.int u0), .val (.int u1), .val (.int u2), .val (.int u3), .val (.int (own_t3 tn)), .val (.int (own_l5 ln)), .val (.int cc), .val (.int cd), .val (.ref b1), .val (.ref b102), .val (.ref b403), .val (.int gg5)] [(.int (own_seen (own_Z tn ln 5).1 (own_kf tn ln 5))), (.int gg5)])) tt
          refine XS.ifNo X481.here hx rfl (hb hby at_338) rfl ((if0 _ _).trans (feq hc486).1) ?_
          show Steps p.tables e below (T481.setTop (mkF m 341 #[.val (.int u0), .val (.int u1), .val (.int u2), .val (.int u3), .val (.int (own_t3 tn)), .val (.int (own_l5 ln)), .val (.int cc), .val (.int cd), .val (.ref b1), .val (.ref b102), .val (.ref b403), .val (.int gg5)] [(.int gg5)])) tt
          refine XS.bipush X481.here hx rfl (hb hby at_341) ?_
          show Steps p.tables e below (T481.setTop (mkF m 343 #[.val (.int u0), .val (.int u1), .val (.int u2), .val (.int u3), .val (.int (own_t3 tn)), .val (.int (own_l5 ln)), .val (.int cc), .val (.int cd), .val (.ref b1), .val (.ref b102), .val (.ref b403), .val (.int gg5)] [(.int (32 : Int32)), (.int gg5)])) tt
          refine XS.goto X481.here hx rfl (pc0 := 343) (pc' := 347) rfl (hb hby at_343) (by decide) (by decide) ?_
          exact kk
      obtain ⟨gg6, hgg6⟩ : ∃ z : Int32, z = (gg5 ||| w487) := ⟨_, rfl⟩
      refine Goal.to (B := T481.setTop (mkF m 350 #[.val (.int u0), .val (.int u1), .val (.int u2), .val (.int u3), .val (.int (own_t3 tn)), .val (.int (own_l5 ln)), .val (.int cc), .val (.int cd), .val (.ref b1), .val (.ref b102), .val (.ref b403), .val (.int gg6)] [])) (fun tt kk => ?_) ?_
      · subst hgg6
        show Steps p.tables e below (T481.setTop (mkF m 347 #[.val (.int u0), .val (.int u1), .val (.int u2), .val (.int u3), .val (.int (own_t3 tn)), .val (.int (own_l5 ln)), .val (.int cc), .val (.int cd), .val (.ref b1), .val (.ref b102), .val (.ref b403), .val (.int gg5)] [(.int w487), (.int gg5)])) tt
        refine XS.ior X481.here hx rfl (hb hby at_347) rfl ?_
        show Steps p.tables e below (T481.setTop (mkF m 348 #[.val (.int u0), .val (.int u1), .val (.int u2), .val (.int u3), .val (.int (own_t3 tn)), .val (.int (own_l5 ln)), .val (.int cc), .val (.int cd), .val (.ref b1), .val (.ref b102), .val (.ref b403), .val (.int gg5)] [(.int (gg5 ||| w487))])) tt
        refine XS.istore X481.here hx rfl (hb hby at_348) rfl (l' := #[.val (.int u0), .val (.int u1), .val (.int u2), .val (.int u3), .val (.int (own_t3 tn)), .val (.int (own_l5 ln)), .val (.int cc), .val (.int cd), .val (.ref b1), .val (.ref b102), .val (.ref b403), .val (.int (gg5 ||| w487))]) rfl ?_
        exact kk
      have hG6 : gg6 = own_G tn ln 6 := by rw [hgg6, hw487, own_G6 tn ln, hG5]
      refine Goal.to (B := T481.setTop (mkF m 364 #[.val (.int u0), .val (.int u1), .val (.int u2), .val (.int u3), .val (.int (own_t3 tn)), .val (.int (own_l5 ln)), .val (.int cc), .val (.int cd), .val (.ref b1), .val (.ref b102), .val (.ref b403), .val (.int gg6)] [(.int (own_l5 ln)), (.int (own_t3 tn)), (.int (6 : Int32)), (.ref b102), (.ref b1), (.ref b403), (.int gg6)])) (fun tt kk => ?_) ?_
      · show Steps p.tables e below (T481.setTop (mkF m 350 #[.val (.int u0), .val (.int u1), .val (.int u2), .val (.int u3), .val (.int (own_t3 tn)), .val (.int (own_l5 ln)), .val (.int cc), .val (.int cd), .val (.ref b1), .val (.ref b102), .val (.ref b403), .val (.int gg6)] [])) tt
        refine XS.iload X481.here hx rfl (hb hby at_350) rfl ?_
        show Steps p.tables e below (T481.setTop (mkF m 352 #[.val (.int u0), .val (.int u1), .val (.int u2), .val (.int u3), .val (.int (own_t3 tn)), .val (.int (own_l5 ln)), .val (.int cc), .val (.int cd), .val (.ref b1), .val (.ref b102), .val (.ref b403), .val (.int gg6)] [(.int gg6)])) tt
        refine XS.aload X481.here hx rfl (hb hby at_352) rfl rfl ?_
        show Steps p.tables e below (T481.setTop (mkF m 354 #[.val (.int u0), .val (.int u1), .val (.int u2), .val (.int u3), .val (.int (own_t3 tn)), .val (.int (own_l5 ln)), .val (.int cc), .val (.int cd), .val (.ref b1), .val (.ref b102), .val (.ref b403), .val (.int gg6)] [(.ref b403), (.int gg6)])) tt
        refine XS.aload X481.here hx rfl (hb hby at_354) rfl rfl ?_
        show Steps p.tables e below (T481.setTop (mkF m 356 #[.val (.int u0), .val (.int u1), .val (.int u2), .val (.int u3), .val (.int (own_t3 tn)), .val (.int (own_l5 ln)), .val (.int cc), .val (.int cd), .val (.ref b1), .val (.ref b102), .val (.ref b403), .val (.int gg6)] [(.ref b1), (.ref b403), (.int gg6)])) tt
        refine XS.aload X481.here hx rfl (hb hby at_356) rfl rfl ?_
        show Steps p.tables e below (T481.setTop (mkF m 358 #[.val (.int u0), .val (.int u1), .val (.int u2), .val (.int u3), .val (.int (own_t3 tn)), .val (.int (own_l5 ln)), .val (.int cc), .val (.int cd), .val (.ref b1), .val (.ref b102), .val (.ref b403), .val (.int gg6)] [(.ref b102), (.ref b1), (.ref b403), (.int gg6)])) tt
        refine XS.bipush X481.here hx rfl (hb hby at_358) ?_
        show Steps p.tables e below (T481.setTop (mkF m 360 #[.val (.int u0), .val (.int u1), .val (.int u2), .val (.int u3), .val (.int (own_t3 tn)), .val (.int (own_l5 ln)), .val (.int cc), .val (.int cd), .val (.ref b1), .val (.ref b102), .val (.ref b403), .val (.int gg6)] [(.int (6 : Int32)), (.ref b102), (.ref b1), (.ref b403), (.int gg6)])) tt
        refine XS.iload X481.here hx rfl (hb hby at_360) rfl ?_
        show Steps p.tables e below (T481.setTop (mkF m 362 #[.val (.int u0), .val (.int u1), .val (.int u2), .val (.int u3), .val (.int (own_t3 tn)), .val (.int (own_l5 ln)), .val (.int cc), .val (.int cd), .val (.ref b1), .val (.ref b102), .val (.ref b403), .val (.int gg6)] [(.int (own_t3 tn)), (.int (6 : Int32)), (.ref b102), (.ref b1), (.ref b403), (.int gg6)])) tt
        refine XS.iload X481.here hx rfl (hb hby at_362) rfl ?_
        exact kk
      have f488 : Exa Z T481.heap b403 "com/example/tributary/tributary/runtime/Revisits" := (f477.keep K481)
      have f489 : Ary Z T481.heap b1 (.object "java/lang/Object") [(.ref b2), (.ref b18), (.ref b40), (.ref b68)] := (f478.keep K481 (ninS ne_b1_b403 nin0))
      have f490 : Ary Z T481.heap b102 (.object "java/lang/Object") [.null, (.ref b360)] := (f479.keep K481 (ninS ne_b102_b403 nin0))
      have f491 : n0 ≤ T481.heap.size := (Nat.le_trans f480 K481.1)
      obtain ⟨_, _, ⟨T492, L492, k492, n492⟩, -, X492, ⟨Lc492, hQ492, l492, y492, z492⟩, st492⟩ := Jvm.LawKit.callS X481 hx (y := (⟨"com/example/tributary/tributary/runtime/RevisitsSeenBeforePinLaw", "step", "(Lcom/example/tributary/tributary/runtime/Revisits;[Ljava/lang/Object;[Ljava/lang/Object;III)Z"⟩ : MethodName)) hown (mvT hZ (hw _ (mw 43 rfl))) (mvT hZ (hw _ (mw 44 rfl))) (mvT hZ (hw _ (mw 45 rfl))) (mvT hZ (hw _ (mw 46 rfl))) (by decide) (backOf (W := 1) (rmst l Z a0 hw [] b403 b1 b102 b2 b18 b40 b68 b360 .null (own_kf tn ln 6) (own_Z tn ln 6).1 (own_Z tn ln 6).2.1 (own_Z tn ln 6).2.2 (6 : Int32) (own_t3 tn) (own_l5 ln) T481.heap n0 f491 f488 R482 R483 R484 R485 f489 f490 g_b403 rfl (own_kk6 tn ln) (own_l0 ln) hD) hZ (hw _ (mw 46 rfl)) (hw _ (mw 45 rfl)) (by decide) (by decide)) (g := (mkF m 364 #[.val (.int u0), .val (.int u1), .val (.int u2), .val (.int u3), .val (.int (own_t3 tn)), .val (.int (own_l5 ln)), .val (.int cc), .val (.int cd), .val (.ref b1), .val (.ref b102), .val (.ref b403), .val (.int gg6)] [(.int (own_l5 ln)), (.int (own_t3 tn)), (.int (6 : Int32)), (.ref b102), (.ref b1), (.ref b403), (.int gg6)])) rfl (by rw [hml]; rfl) (argsL := [(.ref b403), (.ref b1), (.ref b102), (.int (6 : Int32)), (.int (own_t3 tn)), (.int (own_l5 ln))]) (rest := [(.int gg6)]) (lenOf pd_6 rfl) rfl (by show 2 * 0 + _ ≤ _; exact Nat.le_of_eq rfl) (hb hby at_364) (fun _ _ => ⟨rfl, rfl, (by decide : 18 + 0 ≤ _), (by decide : 40 + 0 ≤ _)⟩)
      dsimp only [Pt.U, Pt.locs, Pt.cells, Pt.slots] at X492 l492 y492 z492 st492 hQ492
      subst y492 z492
      obtain ⟨rfl, N492q, K492, P492_0, P492_1, P492_2, P492_3⟩ := hQ492
      have N492 := Fr.eqv l492 (Fr.app N481 N492q)
      refine Goal.to (B := T492.setTop (mkF m 367 #[.val (.int u0), .val (.int u1), .val (.int u2), .val (.int u3), .val (.int (own_t3 tn)), .val (.int (own_l5 ln)), .val (.int cc), .val (.int cd), .val (.ref b1), .val (.ref b102), .val (.ref b403), .val (.int gg6)] [(.int (own_seen (own_Z tn ln 6).1 (own_kf tn ln 6))), (.int gg6)])) st492 ?_
      have R493 : Fld Z T492.heap b403 "com/example/tributary/tributary/runtime/Revisits" "markedLeft" "Ljava/lang/Object;" (own_ML b2 b18 b40 b68 (own_Z tn ln 7).1) := by rw [own_Zm7 tn ln]; exact P492_0
      have R494 : Fld Z T492.heap b403 "com/example/tributary/tributary/runtime/Revisits" "markedRight" "Ljava/lang/Object;" (own_MR .null b360 (own_Z tn ln 7).1) := by rw [own_Zm7 tn ln]; exact P492_1
      have R495 : Fld Z T492.heap b403 "com/example/tributary/tributary/runtime/Revisits" "sinceMark" "J" (.long (own_Z tn ln 7).2.1) := by rw [own_Zs7 tn ln]; exact P492_2
      have R496 : Fld Z T492.heap b403 "com/example/tributary/tributary/runtime/Revisits" "markInterval" "J" (.long (own_Z tn ln 7).2.2) := by rw [own_Zi7 tn ln]; exact P492_3
      obtain ⟨w498, hw498⟩ : ∃ z : Int32, z = if (own_seen (own_Z tn ln 6).1 (own_kf tn ln 6)) = (0 : Int32) then (0 : Int32) else (64 : Int32) := ⟨_, rfl⟩
      refine Goal.to (B := T492.setTop (mkF m 376 #[.val (.int u0), .val (.int u1), .val (.int u2), .val (.int u3), .val (.int (own_t3 tn)), .val (.int (own_l5 ln)), .val (.int cc), .val (.int cd), .val (.ref b1), .val (.ref b102), .val (.ref b403), .val (.int gg6)] [(.int w498), (.int gg6)])) (fun tt kk => ?_) ?_
      · by_cases hc497 : (own_seen (own_Z tn ln 6).1 (own_kf tn ln 6)) = (0 : Int32)
        · have qw498 : w498 = (0 : Int32) := by rw [hw498, if_pos hc497]
          rw [qw498] at kk
          show Steps p.tables e below (T492.setTop (mkF m 367 #[.val (.int u0), .val (.int u1), .val (.int u2), .val (.int u3), .val (.int (own_t3 tn)), .val (.int (own_l5 ln)), .val (.int cc), .val (.int cd), .val (.ref b1), .val (.ref b102), .val (.ref b403), .val (.int gg6)] [(.int (own_seen (own_Z tn ln 6).1 (own_kf tn ln 6))), (.int gg6)])) tt
          refine XS.ifYes X492.here hx rfl (pc0 := 367) (pc' := 375) rfl (hb hby at_367) rfl ((if0 _ _).trans (teq hc497).1) (by decide) (by decide) ?_
          show Steps p.tables e below (T492.setTop (mkF m 375 #[.val (.int u0), .val (.int u1), .val (.int u2), .val (.int u3), .val (.int (own_t3 tn)), .val (.int (own_l5 ln)), .val (.int cc), .val (.int cd), .val (.ref b1), .val (.ref b102), .val (.ref b403), .val (.int gg6)] [(.int gg6)])) tt
          refine XS.iconst X492.here hx rfl (hb hby at_375) ?_
          exact kk
        · have qw498 : w498 = (64 : Int32) := by rw [hw498, if_neg hc497]
          rw [qw498] at kk
          show Steps p.tables e below (T492.setTop (mkF m 367 #[.val (.int u0), .val (.int u1), .val (.int u2), .val (.int u3), .val (.int (own_t3 tn)), .val (.int (own_l5 ln)), .val (.int cc), .val (.int cd), .val (.ref b1), .val (.ref b102), .val (.ref b403), .val (.int gg6)] [(.int (own_seen (own_Z tn ln 6).1 (own_kf tn ln 6))), (.int gg6)])) tt
          refine XS.ifNo X492.here hx rfl (hb hby at_367) rfl ((if0 _ _).trans (feq hc497).1) ?_
          show Steps p.tables e below (T492.setTop (mkF m 370 #[.val (.int u0), .val (.int u1), .val (.int u2), .val (.int u3), .val (.int (own_t3 tn)), .val (.int (own_l5 ln)), .val (.int cc), .val (.int cd), .val (.ref b1), .val (.ref b102), .val (.ref b403), .val (.int gg6)] [(.int gg6)])) tt
          refine XS.bipush X492.here hx rfl (hb hby at_370) ?_
          show Steps p.tables e below (T492.setTop (mkF m 372 #[.val (.int u0), .val (.int u1), .val (.int u2), .val (.int u3), .val (.int (own_t3 tn)), .val (.int (own_l5 ln)), .val (.int cc), .val (.int cd), .val (.ref b1), .val (.ref b102), .val (.ref b403), .val (.int gg6)] [(.int (64 : Int32)), (.int gg6)])) tt
          refine XS.goto X492.here hx rfl (pc0 := 372) (pc' := 376) rfl (hb hby at_372) (by decide) (by decide) ?_
          exact kk
      obtain ⟨gg7, hgg7⟩ : ∃ z : Int32, z = (gg6 ||| w498) := ⟨_, rfl⟩
      refine Goal.to (B := T492.setTop (mkF m 379 #[.val (.int u0), .val (.int u1), .val (.int u2), .val (.int u3), .val (.int (own_t3 tn)), .val (.int (own_l5 ln)), .val (.int cc), .val (.int cd), .val (.ref b1), .val (.ref b102), .val (.ref b403), .val (.int gg7)] [])) (fun tt kk => ?_) ?_
      · subst hgg7
        show Steps p.tables e below (T492.setTop (mkF m 376 #[.val (.int u0), .val (.int u1), .val (.int u2), .val (.int u3), .val (.int (own_t3 tn)), .val (.int (own_l5 ln)), .val (.int cc), .val (.int cd), .val (.ref b1), .val (.ref b102), .val (.ref b403), .val (.int gg6)] [(.int w498), (.int gg6)])) tt
        refine XS.ior X492.here hx rfl (hb hby at_376) rfl ?_
        show Steps p.tables e below (T492.setTop (mkF m 377 #[.val (.int u0), .val (.int u1), .val (.int u2), .val (.int u3), .val (.int (own_t3 tn)), .val (.int (own_l5 ln)), .val (.int cc), .val (.int cd), .val (.ref b1), .val (.ref b102), .val (.ref b403), .val (.int gg6)] [(.int (gg6 ||| w498))])) tt
        refine XS.istore X492.here hx rfl (hb hby at_377) rfl (l' := #[.val (.int u0), .val (.int u1), .val (.int u2), .val (.int u3), .val (.int (own_t3 tn)), .val (.int (own_l5 ln)), .val (.int cc), .val (.int cd), .val (.ref b1), .val (.ref b102), .val (.ref b403), .val (.int (gg6 ||| w498))]) rfl ?_
        exact kk
      have hG7 : gg7 = own_G tn ln 7 := by rw [hgg7, hw498, own_G7 tn ln, hG6]
      refine Goal.to (B := T492.setTop (mkF m 393 #[.val (.int u0), .val (.int u1), .val (.int u2), .val (.int u3), .val (.int (own_t3 tn)), .val (.int (own_l5 ln)), .val (.int cc), .val (.int cd), .val (.ref b1), .val (.ref b102), .val (.ref b403), .val (.int gg7)] [(.int (own_l5 ln)), (.int (own_t3 tn)), (.int (7 : Int32)), (.ref b102), (.ref b1), (.ref b403), (.int gg7)])) (fun tt kk => ?_) ?_
      · show Steps p.tables e below (T492.setTop (mkF m 379 #[.val (.int u0), .val (.int u1), .val (.int u2), .val (.int u3), .val (.int (own_t3 tn)), .val (.int (own_l5 ln)), .val (.int cc), .val (.int cd), .val (.ref b1), .val (.ref b102), .val (.ref b403), .val (.int gg7)] [])) tt
        refine XS.iload X492.here hx rfl (hb hby at_379) rfl ?_
        show Steps p.tables e below (T492.setTop (mkF m 381 #[.val (.int u0), .val (.int u1), .val (.int u2), .val (.int u3), .val (.int (own_t3 tn)), .val (.int (own_l5 ln)), .val (.int cc), .val (.int cd), .val (.ref b1), .val (.ref b102), .val (.ref b403), .val (.int gg7)] [(.int gg7)])) tt
        refine XS.aload X492.here hx rfl (hb hby at_381) rfl rfl ?_
        show Steps p.tables e below (T492.setTop (mkF m 383 #[.val (.int u0), .val (.int u1), .val (.int u2), .val (.int u3), .val (.int (own_t3 tn)), .val (.int (own_l5 ln)), .val (.int cc), .val (.int cd), .val (.ref b1), .val (.ref b102), .val (.ref b403), .val (.int gg7)] [(.ref b403), (.int gg7)])) tt
        refine XS.aload X492.here hx rfl (hb hby at_383) rfl rfl ?_
        show Steps p.tables e below (T492.setTop (mkF m 385 #[.val (.int u0), .val (.int u1), .val (.int u2), .val (.int u3), .val (.int (own_t3 tn)), .val (.int (own_l5 ln)), .val (.int cc), .val (.int cd), .val (.ref b1), .val (.ref b102), .val (.ref b403), .val (.int gg7)] [(.ref b1), (.ref b403), (.int gg7)])) tt
        refine XS.aload X492.here hx rfl (hb hby at_385) rfl rfl ?_
        show Steps p.tables e below (T492.setTop (mkF m 387 #[.val (.int u0), .val (.int u1), .val (.int u2), .val (.int u3), .val (.int (own_t3 tn)), .val (.int (own_l5 ln)), .val (.int cc), .val (.int cd), .val (.ref b1), .val (.ref b102), .val (.ref b403), .val (.int gg7)] [(.ref b102), (.ref b1), (.ref b403), (.int gg7)])) tt
        refine XS.bipush X492.here hx rfl (hb hby at_387) ?_
        show Steps p.tables e below (T492.setTop (mkF m 389 #[.val (.int u0), .val (.int u1), .val (.int u2), .val (.int u3), .val (.int (own_t3 tn)), .val (.int (own_l5 ln)), .val (.int cc), .val (.int cd), .val (.ref b1), .val (.ref b102), .val (.ref b403), .val (.int gg7)] [(.int (7 : Int32)), (.ref b102), (.ref b1), (.ref b403), (.int gg7)])) tt
        refine XS.iload X492.here hx rfl (hb hby at_389) rfl ?_
        show Steps p.tables e below (T492.setTop (mkF m 391 #[.val (.int u0), .val (.int u1), .val (.int u2), .val (.int u3), .val (.int (own_t3 tn)), .val (.int (own_l5 ln)), .val (.int cc), .val (.int cd), .val (.ref b1), .val (.ref b102), .val (.ref b403), .val (.int gg7)] [(.int (own_t3 tn)), (.int (7 : Int32)), (.ref b102), (.ref b1), (.ref b403), (.int gg7)])) tt
        refine XS.iload X492.here hx rfl (hb hby at_391) rfl ?_
        exact kk
      have f499 : Exa Z T492.heap b403 "com/example/tributary/tributary/runtime/Revisits" := (f488.keep K492)
      have f500 : Ary Z T492.heap b1 (.object "java/lang/Object") [(.ref b2), (.ref b18), (.ref b40), (.ref b68)] := (f489.keep K492 (ninS ne_b1_b403 nin0))
      have f501 : Ary Z T492.heap b102 (.object "java/lang/Object") [.null, (.ref b360)] := (f490.keep K492 (ninS ne_b102_b403 nin0))
      have f502 : n0 ≤ T492.heap.size := (Nat.le_trans f491 K492.1)
      obtain ⟨_, _, ⟨T503, L503, k503, n503⟩, -, X503, ⟨Lc503, hQ503, l503, y503, z503⟩, st503⟩ := Jvm.LawKit.callS X492 hx (y := (⟨"com/example/tributary/tributary/runtime/RevisitsSeenBeforePinLaw", "step", "(Lcom/example/tributary/tributary/runtime/Revisits;[Ljava/lang/Object;[Ljava/lang/Object;III)Z"⟩ : MethodName)) hown (mvT hZ (hw _ (mw 43 rfl))) (mvT hZ (hw _ (mw 44 rfl))) (mvT hZ (hw _ (mw 45 rfl))) (mvT hZ (hw _ (mw 46 rfl))) (by decide) (backOf (W := 1) (rmst l Z a0 hw [] b403 b1 b102 b2 b18 b40 b68 b360 .null (own_kf tn ln 7) (own_Z tn ln 7).1 (own_Z tn ln 7).2.1 (own_Z tn ln 7).2.2 (7 : Int32) (own_t3 tn) (own_l5 ln) T492.heap n0 f502 f499 R493 R494 R495 R496 f500 f501 g_b403 rfl (own_kk7 tn ln) (own_l0 ln) hD) hZ (hw _ (mw 46 rfl)) (hw _ (mw 45 rfl)) (by decide) (by decide)) (g := (mkF m 393 #[.val (.int u0), .val (.int u1), .val (.int u2), .val (.int u3), .val (.int (own_t3 tn)), .val (.int (own_l5 ln)), .val (.int cc), .val (.int cd), .val (.ref b1), .val (.ref b102), .val (.ref b403), .val (.int gg7)] [(.int (own_l5 ln)), (.int (own_t3 tn)), (.int (7 : Int32)), (.ref b102), (.ref b1), (.ref b403), (.int gg7)])) rfl (by rw [hml]; rfl) (argsL := [(.ref b403), (.ref b1), (.ref b102), (.int (7 : Int32)), (.int (own_t3 tn)), (.int (own_l5 ln))]) (rest := [(.int gg7)]) (lenOf pd_6 rfl) rfl (by show 2 * 0 + _ ≤ _; exact Nat.le_of_eq rfl) (hb hby at_393) (fun _ _ => ⟨rfl, rfl, (by decide : 18 + 0 ≤ _), (by decide : 40 + 0 ≤ _)⟩)
      dsimp only [Pt.U, Pt.locs, Pt.cells, Pt.slots] at X503 l503 y503 z503 st503 hQ503
      subst y503 z503
      obtain ⟨rfl, N503q, K503, P503_0, P503_1, P503_2, P503_3⟩ := hQ503
      have N503 := Fr.eqv l503 (Fr.app N492 N503q)
      refine Goal.to (B := T503.setTop (mkF m 396 #[.val (.int u0), .val (.int u1), .val (.int u2), .val (.int u3), .val (.int (own_t3 tn)), .val (.int (own_l5 ln)), .val (.int cc), .val (.int cd), .val (.ref b1), .val (.ref b102), .val (.ref b403), .val (.int gg7)] [(.int (own_seen (own_Z tn ln 7).1 (own_kf tn ln 7))), (.int gg7)])) st503 ?_
      have R504 : Fld Z T503.heap b403 "com/example/tributary/tributary/runtime/Revisits" "markedLeft" "Ljava/lang/Object;" (own_ML b2 b18 b40 b68 (own_Z tn ln 8).1) := by rw [own_Zm8 tn ln]; exact P503_0
      have R505 : Fld Z T503.heap b403 "com/example/tributary/tributary/runtime/Revisits" "markedRight" "Ljava/lang/Object;" (own_MR .null b360 (own_Z tn ln 8).1) := by rw [own_Zm8 tn ln]; exact P503_1
      have R506 : Fld Z T503.heap b403 "com/example/tributary/tributary/runtime/Revisits" "sinceMark" "J" (.long (own_Z tn ln 8).2.1) := by rw [own_Zs8 tn ln]; exact P503_2
      have R507 : Fld Z T503.heap b403 "com/example/tributary/tributary/runtime/Revisits" "markInterval" "J" (.long (own_Z tn ln 8).2.2) := by rw [own_Zi8 tn ln]; exact P503_3
      obtain ⟨w509, hw509⟩ : ∃ z : Int32, z = if (own_seen (own_Z tn ln 7).1 (own_kf tn ln 7)) = (0 : Int32) then (0 : Int32) else (128 : Int32) := ⟨_, rfl⟩
      refine Goal.to (B := T503.setTop (mkF m 406 #[.val (.int u0), .val (.int u1), .val (.int u2), .val (.int u3), .val (.int (own_t3 tn)), .val (.int (own_l5 ln)), .val (.int cc), .val (.int cd), .val (.ref b1), .val (.ref b102), .val (.ref b403), .val (.int gg7)] [(.int w509), (.int gg7)])) (fun tt kk => ?_) ?_
      · by_cases hc508 : (own_seen (own_Z tn ln 7).1 (own_kf tn ln 7)) = (0 : Int32)
        · have qw509 : w509 = (0 : Int32) := by rw [hw509, if_pos hc508]
          rw [qw509] at kk
          show Steps p.tables e below (T503.setTop (mkF m 396 #[.val (.int u0), .val (.int u1), .val (.int u2), .val (.int u3), .val (.int (own_t3 tn)), .val (.int (own_l5 ln)), .val (.int cc), .val (.int cd), .val (.ref b1), .val (.ref b102), .val (.ref b403), .val (.int gg7)] [(.int (own_seen (own_Z tn ln 7).1 (own_kf tn ln 7))), (.int gg7)])) tt
          refine XS.ifYes X503.here hx rfl (pc0 := 396) (pc' := 405) rfl (hb hby at_396) rfl ((if0 _ _).trans (teq hc508).1) (by decide) (by decide) ?_
          show Steps p.tables e below (T503.setTop (mkF m 405 #[.val (.int u0), .val (.int u1), .val (.int u2), .val (.int u3), .val (.int (own_t3 tn)), .val (.int (own_l5 ln)), .val (.int cc), .val (.int cd), .val (.ref b1), .val (.ref b102), .val (.ref b403), .val (.int gg7)] [(.int gg7)])) tt
          refine XS.iconst X503.here hx rfl (hb hby at_405) ?_
          exact kk
        · have qw509 : w509 = (128 : Int32) := by rw [hw509, if_neg hc508]
          rw [qw509] at kk
          show Steps p.tables e below (T503.setTop (mkF m 396 #[.val (.int u0), .val (.int u1), .val (.int u2), .val (.int u3), .val (.int (own_t3 tn)), .val (.int (own_l5 ln)), .val (.int cc), .val (.int cd), .val (.ref b1), .val (.ref b102), .val (.ref b403), .val (.int gg7)] [(.int (own_seen (own_Z tn ln 7).1 (own_kf tn ln 7))), (.int gg7)])) tt
          refine XS.ifNo X503.here hx rfl (hb hby at_396) rfl ((if0 _ _).trans (feq hc508).1) ?_
          show Steps p.tables e below (T503.setTop (mkF m 399 #[.val (.int u0), .val (.int u1), .val (.int u2), .val (.int u3), .val (.int (own_t3 tn)), .val (.int (own_l5 ln)), .val (.int cc), .val (.int cd), .val (.ref b1), .val (.ref b102), .val (.ref b403), .val (.int gg7)] [(.int gg7)])) tt
          refine XS.sipush X503.here hx rfl (hb hby at_399) ?_
          show Steps p.tables e below (T503.setTop (mkF m 402 #[.val (.int u0), .val (.int u1), .val (.int u2), .val (.int u3), .val (.int (own_t3 tn)), .val (.int (own_l5 ln)), .val (.int cc), .val (.int cd), .val (.ref b1), .val (.ref b102), .val (.ref b403), .val (.int gg7)] [(.int (128 : Int32)), (.int gg7)])) tt
          refine XS.goto X503.here hx rfl (pc0 := 402) (pc' := 406) rfl (hb hby at_402) (by decide) (by decide) ?_
          exact kk
      obtain ⟨gg8, hgg8⟩ : ∃ z : Int32, z = (gg7 ||| w509) := ⟨_, rfl⟩
      refine Goal.to (B := T503.setTop (mkF m 409 #[.val (.int u0), .val (.int u1), .val (.int u2), .val (.int u3), .val (.int (own_t3 tn)), .val (.int (own_l5 ln)), .val (.int cc), .val (.int cd), .val (.ref b1), .val (.ref b102), .val (.ref b403), .val (.int gg8)] [])) (fun tt kk => ?_) ?_
      · subst hgg8
        show Steps p.tables e below (T503.setTop (mkF m 406 #[.val (.int u0), .val (.int u1), .val (.int u2), .val (.int u3), .val (.int (own_t3 tn)), .val (.int (own_l5 ln)), .val (.int cc), .val (.int cd), .val (.ref b1), .val (.ref b102), .val (.ref b403), .val (.int gg7)] [(.int w509), (.int gg7)])) tt
        refine XS.ior X503.here hx rfl (hb hby at_406) rfl ?_
        show Steps p.tables e below (T503.setTop (mkF m 407 #[.val (.int u0), .val (.int u1), .val (.int u2), .val (.int u3), .val (.int (own_t3 tn)), .val (.int (own_l5 ln)), .val (.int cc), .val (.int cd), .val (.ref b1), .val (.ref b102), .val (.ref b403), .val (.int gg7)] [(.int (gg7 ||| w509))])) tt
        refine XS.istore X503.here hx rfl (hb hby at_407) rfl (l' := #[.val (.int u0), .val (.int u1), .val (.int u2), .val (.int u3), .val (.int (own_t3 tn)), .val (.int (own_l5 ln)), .val (.int cc), .val (.int cd), .val (.ref b1), .val (.ref b102), .val (.ref b403), .val (.int (gg7 ||| w509))]) rfl ?_
        exact kk
      have hG8 : gg8 = own_G tn ln 8 := by rw [hgg8, hw509, own_G8 tn ln, hG7]
      refine Goal.to (B := T503.setTop (mkF m 423 #[.val (.int u0), .val (.int u1), .val (.int u2), .val (.int u3), .val (.int (own_t3 tn)), .val (.int (own_l5 ln)), .val (.int cc), .val (.int cd), .val (.ref b1), .val (.ref b102), .val (.ref b403), .val (.int gg8)] [(.int (own_l5 ln)), (.int (own_t3 tn)), (.int (8 : Int32)), (.ref b102), (.ref b1), (.ref b403), (.int gg8)])) (fun tt kk => ?_) ?_
      · show Steps p.tables e below (T503.setTop (mkF m 409 #[.val (.int u0), .val (.int u1), .val (.int u2), .val (.int u3), .val (.int (own_t3 tn)), .val (.int (own_l5 ln)), .val (.int cc), .val (.int cd), .val (.ref b1), .val (.ref b102), .val (.ref b403), .val (.int gg8)] [])) tt
        refine XS.iload X503.here hx rfl (hb hby at_409) rfl ?_
        show Steps p.tables e below (T503.setTop (mkF m 411 #[.val (.int u0), .val (.int u1), .val (.int u2), .val (.int u3), .val (.int (own_t3 tn)), .val (.int (own_l5 ln)), .val (.int cc), .val (.int cd), .val (.ref b1), .val (.ref b102), .val (.ref b403), .val (.int gg8)] [(.int gg8)])) tt
        refine XS.aload X503.here hx rfl (hb hby at_411) rfl rfl ?_
        show Steps p.tables e below (T503.setTop (mkF m 413 #[.val (.int u0), .val (.int u1), .val (.int u2), .val (.int u3), .val (.int (own_t3 tn)), .val (.int (own_l5 ln)), .val (.int cc), .val (.int cd), .val (.ref b1), .val (.ref b102), .val (.ref b403), .val (.int gg8)] [(.ref b403), (.int gg8)])) tt
        refine XS.aload X503.here hx rfl (hb hby at_413) rfl rfl ?_
        show Steps p.tables e below (T503.setTop (mkF m 415 #[.val (.int u0), .val (.int u1), .val (.int u2), .val (.int u3), .val (.int (own_t3 tn)), .val (.int (own_l5 ln)), .val (.int cc), .val (.int cd), .val (.ref b1), .val (.ref b102), .val (.ref b403), .val (.int gg8)] [(.ref b1), (.ref b403), (.int gg8)])) tt
        refine XS.aload X503.here hx rfl (hb hby at_415) rfl rfl ?_
        show Steps p.tables e below (T503.setTop (mkF m 417 #[.val (.int u0), .val (.int u1), .val (.int u2), .val (.int u3), .val (.int (own_t3 tn)), .val (.int (own_l5 ln)), .val (.int cc), .val (.int cd), .val (.ref b1), .val (.ref b102), .val (.ref b403), .val (.int gg8)] [(.ref b102), (.ref b1), (.ref b403), (.int gg8)])) tt
        refine XS.bipush X503.here hx rfl (hb hby at_417) ?_
        show Steps p.tables e below (T503.setTop (mkF m 419 #[.val (.int u0), .val (.int u1), .val (.int u2), .val (.int u3), .val (.int (own_t3 tn)), .val (.int (own_l5 ln)), .val (.int cc), .val (.int cd), .val (.ref b1), .val (.ref b102), .val (.ref b403), .val (.int gg8)] [(.int (8 : Int32)), (.ref b102), (.ref b1), (.ref b403), (.int gg8)])) tt
        refine XS.iload X503.here hx rfl (hb hby at_419) rfl ?_
        show Steps p.tables e below (T503.setTop (mkF m 421 #[.val (.int u0), .val (.int u1), .val (.int u2), .val (.int u3), .val (.int (own_t3 tn)), .val (.int (own_l5 ln)), .val (.int cc), .val (.int cd), .val (.ref b1), .val (.ref b102), .val (.ref b403), .val (.int gg8)] [(.int (own_t3 tn)), (.int (8 : Int32)), (.ref b102), (.ref b1), (.ref b403), (.int gg8)])) tt
        refine XS.iload X503.here hx rfl (hb hby at_421) rfl ?_
        exact kk
      have f510 : Exa Z T503.heap b403 "com/example/tributary/tributary/runtime/Revisits" := (f499.keep K503)
      have f511 : Ary Z T503.heap b1 (.object "java/lang/Object") [(.ref b2), (.ref b18), (.ref b40), (.ref b68)] := (f500.keep K503 (ninS ne_b1_b403 nin0))
      have f512 : Ary Z T503.heap b102 (.object "java/lang/Object") [.null, (.ref b360)] := (f501.keep K503 (ninS ne_b102_b403 nin0))
      have f513 : n0 ≤ T503.heap.size := (Nat.le_trans f502 K503.1)
      obtain ⟨_, _, ⟨T514, L514, k514, n514⟩, -, X514, ⟨Lc514, hQ514, l514, y514, z514⟩, st514⟩ := Jvm.LawKit.callS X503 hx (y := (⟨"com/example/tributary/tributary/runtime/RevisitsSeenBeforePinLaw", "step", "(Lcom/example/tributary/tributary/runtime/Revisits;[Ljava/lang/Object;[Ljava/lang/Object;III)Z"⟩ : MethodName)) hown (mvT hZ (hw _ (mw 43 rfl))) (mvT hZ (hw _ (mw 44 rfl))) (mvT hZ (hw _ (mw 45 rfl))) (mvT hZ (hw _ (mw 46 rfl))) (by decide) (backOf (W := 1) (rmst l Z a0 hw [] b403 b1 b102 b2 b18 b40 b68 b360 .null (own_kf tn ln 8) (own_Z tn ln 8).1 (own_Z tn ln 8).2.1 (own_Z tn ln 8).2.2 (8 : Int32) (own_t3 tn) (own_l5 ln) T503.heap n0 f513 f510 R504 R505 R506 R507 f511 f512 g_b403 rfl (own_kk8 tn ln) (own_l0 ln) hD) hZ (hw _ (mw 46 rfl)) (hw _ (mw 45 rfl)) (by decide) (by decide)) (g := (mkF m 423 #[.val (.int u0), .val (.int u1), .val (.int u2), .val (.int u3), .val (.int (own_t3 tn)), .val (.int (own_l5 ln)), .val (.int cc), .val (.int cd), .val (.ref b1), .val (.ref b102), .val (.ref b403), .val (.int gg8)] [(.int (own_l5 ln)), (.int (own_t3 tn)), (.int (8 : Int32)), (.ref b102), (.ref b1), (.ref b403), (.int gg8)])) rfl (by rw [hml]; rfl) (argsL := [(.ref b403), (.ref b1), (.ref b102), (.int (8 : Int32)), (.int (own_t3 tn)), (.int (own_l5 ln))]) (rest := [(.int gg8)]) (lenOf pd_6 rfl) rfl (by show 2 * 0 + _ ≤ _; exact Nat.le_of_eq rfl) (hb hby at_423) (fun _ _ => ⟨rfl, rfl, (by decide : 18 + 0 ≤ _), (by decide : 40 + 0 ≤ _)⟩)
      dsimp only [Pt.U, Pt.locs, Pt.cells, Pt.slots] at X514 l514 y514 z514 st514 hQ514
      subst y514 z514
      obtain ⟨rfl, N514q, K514, P514_0, P514_1, P514_2, P514_3⟩ := hQ514
      have N514 := Fr.eqv l514 (Fr.app N503 N514q)
      refine Goal.to (B := T514.setTop (mkF m 426 #[.val (.int u0), .val (.int u1), .val (.int u2), .val (.int u3), .val (.int (own_t3 tn)), .val (.int (own_l5 ln)), .val (.int cc), .val (.int cd), .val (.ref b1), .val (.ref b102), .val (.ref b403), .val (.int gg8)] [(.int (own_seen (own_Z tn ln 8).1 (own_kf tn ln 8))), (.int gg8)])) st514 ?_
      have R515 : Fld Z T514.heap b403 "com/example/tributary/tributary/runtime/Revisits" "markedLeft" "Ljava/lang/Object;" (own_ML b2 b18 b40 b68 (own_Z tn ln 9).1) := by rw [own_Zm9 tn ln]; exact P514_0
      have R516 : Fld Z T514.heap b403 "com/example/tributary/tributary/runtime/Revisits" "markedRight" "Ljava/lang/Object;" (own_MR .null b360 (own_Z tn ln 9).1) := by rw [own_Zm9 tn ln]; exact P514_1
      have R517 : Fld Z T514.heap b403 "com/example/tributary/tributary/runtime/Revisits" "sinceMark" "J" (.long (own_Z tn ln 9).2.1) := by rw [own_Zs9 tn ln]; exact P514_2
      have R518 : Fld Z T514.heap b403 "com/example/tributary/tributary/runtime/Revisits" "markInterval" "J" (.long (own_Z tn ln 9).2.2) := by rw [own_Zi9 tn ln]; exact P514_3
      obtain ⟨w520, hw520⟩ : ∃ z : Int32, z = if (own_seen (own_Z tn ln 8).1 (own_kf tn ln 8)) = (0 : Int32) then (0 : Int32) else (256 : Int32) := ⟨_, rfl⟩
      refine Goal.to (B := T514.setTop (mkF m 436 #[.val (.int u0), .val (.int u1), .val (.int u2), .val (.int u3), .val (.int (own_t3 tn)), .val (.int (own_l5 ln)), .val (.int cc), .val (.int cd), .val (.ref b1), .val (.ref b102), .val (.ref b403), .val (.int gg8)] [(.int w520), (.int gg8)])) (fun tt kk => ?_) ?_
      · by_cases hc519 : (own_seen (own_Z tn ln 8).1 (own_kf tn ln 8)) = (0 : Int32)
        · have qw520 : w520 = (0 : Int32) := by rw [hw520, if_pos hc519]
          rw [qw520] at kk
          show Steps p.tables e below (T514.setTop (mkF m 426 #[.val (.int u0), .val (.int u1), .val (.int u2), .val (.int u3), .val (.int (own_t3 tn)), .val (.int (own_l5 ln)), .val (.int cc), .val (.int cd), .val (.ref b1), .val (.ref b102), .val (.ref b403), .val (.int gg8)] [(.int (own_seen (own_Z tn ln 8).1 (own_kf tn ln 8))), (.int gg8)])) tt
          refine XS.ifYes X514.here hx rfl (pc0 := 426) (pc' := 435) rfl (hb hby at_426) rfl ((if0 _ _).trans (teq hc519).1) (by decide) (by decide) ?_
          show Steps p.tables e below (T514.setTop (mkF m 435 #[.val (.int u0), .val (.int u1), .val (.int u2), .val (.int u3), .val (.int (own_t3 tn)), .val (.int (own_l5 ln)), .val (.int cc), .val (.int cd), .val (.ref b1), .val (.ref b102), .val (.ref b403), .val (.int gg8)] [(.int gg8)])) tt
          refine XS.iconst X514.here hx rfl (hb hby at_435) ?_
          exact kk
        · have qw520 : w520 = (256 : Int32) := by rw [hw520, if_neg hc519]
          rw [qw520] at kk
          show Steps p.tables e below (T514.setTop (mkF m 426 #[.val (.int u0), .val (.int u1), .val (.int u2), .val (.int u3), .val (.int (own_t3 tn)), .val (.int (own_l5 ln)), .val (.int cc), .val (.int cd), .val (.ref b1), .val (.ref b102), .val (.ref b403), .val (.int gg8)] [(.int (own_seen (own_Z tn ln 8).1 (own_kf tn ln 8))), (.int gg8)])) tt
          refine XS.ifNo X514.here hx rfl (hb hby at_426) rfl ((if0 _ _).trans (feq hc519).1) ?_
          show Steps p.tables e below (T514.setTop (mkF m 429 #[.val (.int u0), .val (.int u1), .val (.int u2), .val (.int u3), .val (.int (own_t3 tn)), .val (.int (own_l5 ln)), .val (.int cc), .val (.int cd), .val (.ref b1), .val (.ref b102), .val (.ref b403), .val (.int gg8)] [(.int gg8)])) tt
          refine XS.sipush X514.here hx rfl (hb hby at_429) ?_
          show Steps p.tables e below (T514.setTop (mkF m 432 #[.val (.int u0), .val (.int u1), .val (.int u2), .val (.int u3), .val (.int (own_t3 tn)), .val (.int (own_l5 ln)), .val (.int cc), .val (.int cd), .val (.ref b1), .val (.ref b102), .val (.ref b403), .val (.int gg8)] [(.int (256 : Int32)), (.int gg8)])) tt
          refine XS.goto X514.here hx rfl (pc0 := 432) (pc' := 436) rfl (hb hby at_432) (by decide) (by decide) ?_
          exact kk
      obtain ⟨gg9, hgg9⟩ : ∃ z : Int32, z = (gg8 ||| w520) := ⟨_, rfl⟩
      refine Goal.to (B := T514.setTop (mkF m 439 #[.val (.int u0), .val (.int u1), .val (.int u2), .val (.int u3), .val (.int (own_t3 tn)), .val (.int (own_l5 ln)), .val (.int cc), .val (.int cd), .val (.ref b1), .val (.ref b102), .val (.ref b403), .val (.int gg9)] [])) (fun tt kk => ?_) ?_
      · subst hgg9
        show Steps p.tables e below (T514.setTop (mkF m 436 #[.val (.int u0), .val (.int u1), .val (.int u2), .val (.int u3), .val (.int (own_t3 tn)), .val (.int (own_l5 ln)), .val (.int cc), .val (.int cd), .val (.ref b1), .val (.ref b102), .val (.ref b403), .val (.int gg8)] [(.int w520), (.int gg8)])) tt
        refine XS.ior X514.here hx rfl (hb hby at_436) rfl ?_
        show Steps p.tables e below (T514.setTop (mkF m 437 #[.val (.int u0), .val (.int u1), .val (.int u2), .val (.int u3), .val (.int (own_t3 tn)), .val (.int (own_l5 ln)), .val (.int cc), .val (.int cd), .val (.ref b1), .val (.ref b102), .val (.ref b403), .val (.int gg8)] [(.int (gg8 ||| w520))])) tt
        refine XS.istore X514.here hx rfl (hb hby at_437) rfl (l' := #[.val (.int u0), .val (.int u1), .val (.int u2), .val (.int u3), .val (.int (own_t3 tn)), .val (.int (own_l5 ln)), .val (.int cc), .val (.int cd), .val (.ref b1), .val (.ref b102), .val (.ref b403), .val (.int (gg8 ||| w520))]) rfl ?_
        exact kk
      have hG9 : gg9 = own_G tn ln 9 := by rw [hgg9, hw520, own_G9 tn ln, hG8]
      refine Goal.to (B := T514.setTop (mkF m 453 #[.val (.int u0), .val (.int u1), .val (.int u2), .val (.int u3), .val (.int (own_t3 tn)), .val (.int (own_l5 ln)), .val (.int cc), .val (.int cd), .val (.ref b1), .val (.ref b102), .val (.ref b403), .val (.int gg9)] [(.int (own_l5 ln)), (.int (own_t3 tn)), (.int (9 : Int32)), (.ref b102), (.ref b1), (.ref b403), (.int gg9)])) (fun tt kk => ?_) ?_
      · show Steps p.tables e below (T514.setTop (mkF m 439 #[.val (.int u0), .val (.int u1), .val (.int u2), .val (.int u3), .val (.int (own_t3 tn)), .val (.int (own_l5 ln)), .val (.int cc), .val (.int cd), .val (.ref b1), .val (.ref b102), .val (.ref b403), .val (.int gg9)] [])) tt
        refine XS.iload X514.here hx rfl (hb hby at_439) rfl ?_
        show Steps p.tables e below (T514.setTop (mkF m 441 #[.val (.int u0), .val (.int u1), .val (.int u2), .val (.int u3), .val (.int (own_t3 tn)), .val (.int (own_l5 ln)), .val (.int cc), .val (.int cd), .val (.ref b1), .val (.ref b102), .val (.ref b403), .val (.int gg9)] [(.int gg9)])) tt
        refine XS.aload X514.here hx rfl (hb hby at_441) rfl rfl ?_
        show Steps p.tables e below (T514.setTop (mkF m 443 #[.val (.int u0), .val (.int u1), .val (.int u2), .val (.int u3), .val (.int (own_t3 tn)), .val (.int (own_l5 ln)), .val (.int cc), .val (.int cd), .val (.ref b1), .val (.ref b102), .val (.ref b403), .val (.int gg9)] [(.ref b403), (.int gg9)])) tt
        refine XS.aload X514.here hx rfl (hb hby at_443) rfl rfl ?_
        show Steps p.tables e below (T514.setTop (mkF m 445 #[.val (.int u0), .val (.int u1), .val (.int u2), .val (.int u3), .val (.int (own_t3 tn)), .val (.int (own_l5 ln)), .val (.int cc), .val (.int cd), .val (.ref b1), .val (.ref b102), .val (.ref b403), .val (.int gg9)] [(.ref b1), (.ref b403), (.int gg9)])) tt
        refine XS.aload X514.here hx rfl (hb hby at_445) rfl rfl ?_
        show Steps p.tables e below (T514.setTop (mkF m 447 #[.val (.int u0), .val (.int u1), .val (.int u2), .val (.int u3), .val (.int (own_t3 tn)), .val (.int (own_l5 ln)), .val (.int cc), .val (.int cd), .val (.ref b1), .val (.ref b102), .val (.ref b403), .val (.int gg9)] [(.ref b102), (.ref b1), (.ref b403), (.int gg9)])) tt
        refine XS.bipush X514.here hx rfl (hb hby at_447) ?_
        show Steps p.tables e below (T514.setTop (mkF m 449 #[.val (.int u0), .val (.int u1), .val (.int u2), .val (.int u3), .val (.int (own_t3 tn)), .val (.int (own_l5 ln)), .val (.int cc), .val (.int cd), .val (.ref b1), .val (.ref b102), .val (.ref b403), .val (.int gg9)] [(.int (9 : Int32)), (.ref b102), (.ref b1), (.ref b403), (.int gg9)])) tt
        refine XS.iload X514.here hx rfl (hb hby at_449) rfl ?_
        show Steps p.tables e below (T514.setTop (mkF m 451 #[.val (.int u0), .val (.int u1), .val (.int u2), .val (.int u3), .val (.int (own_t3 tn)), .val (.int (own_l5 ln)), .val (.int cc), .val (.int cd), .val (.ref b1), .val (.ref b102), .val (.ref b403), .val (.int gg9)] [(.int (own_t3 tn)), (.int (9 : Int32)), (.ref b102), (.ref b1), (.ref b403), (.int gg9)])) tt
        refine XS.iload X514.here hx rfl (hb hby at_451) rfl ?_
        exact kk
      have f521 : Exa Z T514.heap b403 "com/example/tributary/tributary/runtime/Revisits" := (f510.keep K514)
      have f522 : Ary Z T514.heap b1 (.object "java/lang/Object") [(.ref b2), (.ref b18), (.ref b40), (.ref b68)] := (f511.keep K514 (ninS ne_b1_b403 nin0))
      have f523 : Ary Z T514.heap b102 (.object "java/lang/Object") [.null, (.ref b360)] := (f512.keep K514 (ninS ne_b102_b403 nin0))
      have f524 : n0 ≤ T514.heap.size := (Nat.le_trans f513 K514.1)
      obtain ⟨_, _, ⟨T525, L525, k525, n525⟩, -, X525, ⟨Lc525, hQ525, l525, y525, z525⟩, st525⟩ := Jvm.LawKit.callS X514 hx (y := (⟨"com/example/tributary/tributary/runtime/RevisitsSeenBeforePinLaw", "step", "(Lcom/example/tributary/tributary/runtime/Revisits;[Ljava/lang/Object;[Ljava/lang/Object;III)Z"⟩ : MethodName)) hown (mvT hZ (hw _ (mw 43 rfl))) (mvT hZ (hw _ (mw 44 rfl))) (mvT hZ (hw _ (mw 45 rfl))) (mvT hZ (hw _ (mw 46 rfl))) (by decide) (backOf (W := 1) (rmst l Z a0 hw [] b403 b1 b102 b2 b18 b40 b68 b360 .null (own_kf tn ln 9) (own_Z tn ln 9).1 (own_Z tn ln 9).2.1 (own_Z tn ln 9).2.2 (9 : Int32) (own_t3 tn) (own_l5 ln) T514.heap n0 f524 f521 R515 R516 R517 R518 f522 f523 g_b403 rfl (own_kk9 tn ln) (own_l0 ln) hD) hZ (hw _ (mw 46 rfl)) (hw _ (mw 45 rfl)) (by decide) (by decide)) (g := (mkF m 453 #[.val (.int u0), .val (.int u1), .val (.int u2), .val (.int u3), .val (.int (own_t3 tn)), .val (.int (own_l5 ln)), .val (.int cc), .val (.int cd), .val (.ref b1), .val (.ref b102), .val (.ref b403), .val (.int gg9)] [(.int (own_l5 ln)), (.int (own_t3 tn)), (.int (9 : Int32)), (.ref b102), (.ref b1), (.ref b403), (.int gg9)])) rfl (by rw [hml]; rfl) (argsL := [(.ref b403), (.ref b1), (.ref b102), (.int (9 : Int32)), (.int (own_t3 tn)), (.int (own_l5 ln))]) (rest := [(.int gg9)]) (lenOf pd_6 rfl) rfl (by show 2 * 0 + _ ≤ _; exact Nat.le_of_eq rfl) (hb hby at_453) (fun _ _ => ⟨rfl, rfl, (by decide : 18 + 0 ≤ _), (by decide : 40 + 0 ≤ _)⟩)
      dsimp only [Pt.U, Pt.locs, Pt.cells, Pt.slots] at X525 l525 y525 z525 st525 hQ525
      subst y525 z525
      obtain ⟨rfl, N525q, K525, P525_0, P525_1, P525_2, P525_3⟩ := hQ525
      have N525 := Fr.eqv l525 (Fr.app N514 N525q)
      refine Goal.to (B := T525.setTop (mkF m 456 #[.val (.int u0), .val (.int u1), .val (.int u2), .val (.int u3), .val (.int (own_t3 tn)), .val (.int (own_l5 ln)), .val (.int cc), .val (.int cd), .val (.ref b1), .val (.ref b102), .val (.ref b403), .val (.int gg9)] [(.int (own_seen (own_Z tn ln 9).1 (own_kf tn ln 9))), (.int gg9)])) st525 ?_
      have R526 : Fld Z T525.heap b403 "com/example/tributary/tributary/runtime/Revisits" "markedLeft" "Ljava/lang/Object;" (own_ML b2 b18 b40 b68 (own_Z tn ln 10).1) := by rw [own_Zm10 tn ln]; exact P525_0
      have R527 : Fld Z T525.heap b403 "com/example/tributary/tributary/runtime/Revisits" "markedRight" "Ljava/lang/Object;" (own_MR .null b360 (own_Z tn ln 10).1) := by rw [own_Zm10 tn ln]; exact P525_1
      have R528 : Fld Z T525.heap b403 "com/example/tributary/tributary/runtime/Revisits" "sinceMark" "J" (.long (own_Z tn ln 10).2.1) := by rw [own_Zs10 tn ln]; exact P525_2
      have R529 : Fld Z T525.heap b403 "com/example/tributary/tributary/runtime/Revisits" "markInterval" "J" (.long (own_Z tn ln 10).2.2) := by rw [own_Zi10 tn ln]; exact P525_3
      obtain ⟨w531, hw531⟩ : ∃ z : Int32, z = if (own_seen (own_Z tn ln 9).1 (own_kf tn ln 9)) = (0 : Int32) then (0 : Int32) else (512 : Int32) := ⟨_, rfl⟩
      refine Goal.to (B := T525.setTop (mkF m 466 #[.val (.int u0), .val (.int u1), .val (.int u2), .val (.int u3), .val (.int (own_t3 tn)), .val (.int (own_l5 ln)), .val (.int cc), .val (.int cd), .val (.ref b1), .val (.ref b102), .val (.ref b403), .val (.int gg9)] [(.int w531), (.int gg9)])) (fun tt kk => ?_) ?_
      · by_cases hc530 : (own_seen (own_Z tn ln 9).1 (own_kf tn ln 9)) = (0 : Int32)
        · have qw531 : w531 = (0 : Int32) := by rw [hw531, if_pos hc530]
          rw [qw531] at kk
          show Steps p.tables e below (T525.setTop (mkF m 456 #[.val (.int u0), .val (.int u1), .val (.int u2), .val (.int u3), .val (.int (own_t3 tn)), .val (.int (own_l5 ln)), .val (.int cc), .val (.int cd), .val (.ref b1), .val (.ref b102), .val (.ref b403), .val (.int gg9)] [(.int (own_seen (own_Z tn ln 9).1 (own_kf tn ln 9))), (.int gg9)])) tt
          refine XS.ifYes X525.here hx rfl (pc0 := 456) (pc' := 465) rfl (hb hby at_456) rfl ((if0 _ _).trans (teq hc530).1) (by decide) (by decide) ?_
          show Steps p.tables e below (T525.setTop (mkF m 465 #[.val (.int u0), .val (.int u1), .val (.int u2), .val (.int u3), .val (.int (own_t3 tn)), .val (.int (own_l5 ln)), .val (.int cc), .val (.int cd), .val (.ref b1), .val (.ref b102), .val (.ref b403), .val (.int gg9)] [(.int gg9)])) tt
          refine XS.iconst X525.here hx rfl (hb hby at_465) ?_
          exact kk
        · have qw531 : w531 = (512 : Int32) := by rw [hw531, if_neg hc530]
          rw [qw531] at kk
          show Steps p.tables e below (T525.setTop (mkF m 456 #[.val (.int u0), .val (.int u1), .val (.int u2), .val (.int u3), .val (.int (own_t3 tn)), .val (.int (own_l5 ln)), .val (.int cc), .val (.int cd), .val (.ref b1), .val (.ref b102), .val (.ref b403), .val (.int gg9)] [(.int (own_seen (own_Z tn ln 9).1 (own_kf tn ln 9))), (.int gg9)])) tt
          refine XS.ifNo X525.here hx rfl (hb hby at_456) rfl ((if0 _ _).trans (feq hc530).1) ?_
          show Steps p.tables e below (T525.setTop (mkF m 459 #[.val (.int u0), .val (.int u1), .val (.int u2), .val (.int u3), .val (.int (own_t3 tn)), .val (.int (own_l5 ln)), .val (.int cc), .val (.int cd), .val (.ref b1), .val (.ref b102), .val (.ref b403), .val (.int gg9)] [(.int gg9)])) tt
          refine XS.sipush X525.here hx rfl (hb hby at_459) ?_
          show Steps p.tables e below (T525.setTop (mkF m 462 #[.val (.int u0), .val (.int u1), .val (.int u2), .val (.int u3), .val (.int (own_t3 tn)), .val (.int (own_l5 ln)), .val (.int cc), .val (.int cd), .val (.ref b1), .val (.ref b102), .val (.ref b403), .val (.int gg9)] [(.int (512 : Int32)), (.int gg9)])) tt
          refine XS.goto X525.here hx rfl (pc0 := 462) (pc' := 466) rfl (hb hby at_462) (by decide) (by decide) ?_
          exact kk
      obtain ⟨gg10, hgg10⟩ : ∃ z : Int32, z = (gg9 ||| w531) := ⟨_, rfl⟩
      refine Goal.to (B := T525.setTop (mkF m 469 #[.val (.int u0), .val (.int u1), .val (.int u2), .val (.int u3), .val (.int (own_t3 tn)), .val (.int (own_l5 ln)), .val (.int cc), .val (.int cd), .val (.ref b1), .val (.ref b102), .val (.ref b403), .val (.int gg10)] [])) (fun tt kk => ?_) ?_
      · subst hgg10
        show Steps p.tables e below (T525.setTop (mkF m 466 #[.val (.int u0), .val (.int u1), .val (.int u2), .val (.int u3), .val (.int (own_t3 tn)), .val (.int (own_l5 ln)), .val (.int cc), .val (.int cd), .val (.ref b1), .val (.ref b102), .val (.ref b403), .val (.int gg9)] [(.int w531), (.int gg9)])) tt
        refine XS.ior X525.here hx rfl (hb hby at_466) rfl ?_
        show Steps p.tables e below (T525.setTop (mkF m 467 #[.val (.int u0), .val (.int u1), .val (.int u2), .val (.int u3), .val (.int (own_t3 tn)), .val (.int (own_l5 ln)), .val (.int cc), .val (.int cd), .val (.ref b1), .val (.ref b102), .val (.ref b403), .val (.int gg9)] [(.int (gg9 ||| w531))])) tt
        refine XS.istore X525.here hx rfl (hb hby at_467) rfl (l' := #[.val (.int u0), .val (.int u1), .val (.int u2), .val (.int u3), .val (.int (own_t3 tn)), .val (.int (own_l5 ln)), .val (.int cc), .val (.int cd), .val (.ref b1), .val (.ref b102), .val (.ref b403), .val (.int (gg9 ||| w531))]) rfl ?_
        exact kk
      have hG10 : gg10 = own_G tn ln 10 := by rw [hgg10, hw531, own_G10 tn ln, hG9]
      refine Goal.to (B := T525.setTop (mkF m 483 #[.val (.int u0), .val (.int u1), .val (.int u2), .val (.int u3), .val (.int (own_t3 tn)), .val (.int (own_l5 ln)), .val (.int cc), .val (.int cd), .val (.ref b1), .val (.ref b102), .val (.ref b403), .val (.int gg10)] [(.int (own_l5 ln)), (.int (own_t3 tn)), (.int (10 : Int32)), (.ref b102), (.ref b1), (.ref b403), (.int gg10)])) (fun tt kk => ?_) ?_
      · show Steps p.tables e below (T525.setTop (mkF m 469 #[.val (.int u0), .val (.int u1), .val (.int u2), .val (.int u3), .val (.int (own_t3 tn)), .val (.int (own_l5 ln)), .val (.int cc), .val (.int cd), .val (.ref b1), .val (.ref b102), .val (.ref b403), .val (.int gg10)] [])) tt
        refine XS.iload X525.here hx rfl (hb hby at_469) rfl ?_
        show Steps p.tables e below (T525.setTop (mkF m 471 #[.val (.int u0), .val (.int u1), .val (.int u2), .val (.int u3), .val (.int (own_t3 tn)), .val (.int (own_l5 ln)), .val (.int cc), .val (.int cd), .val (.ref b1), .val (.ref b102), .val (.ref b403), .val (.int gg10)] [(.int gg10)])) tt
        refine XS.aload X525.here hx rfl (hb hby at_471) rfl rfl ?_
        show Steps p.tables e below (T525.setTop (mkF m 473 #[.val (.int u0), .val (.int u1), .val (.int u2), .val (.int u3), .val (.int (own_t3 tn)), .val (.int (own_l5 ln)), .val (.int cc), .val (.int cd), .val (.ref b1), .val (.ref b102), .val (.ref b403), .val (.int gg10)] [(.ref b403), (.int gg10)])) tt
        refine XS.aload X525.here hx rfl (hb hby at_473) rfl rfl ?_
        show Steps p.tables e below (T525.setTop (mkF m 475 #[.val (.int u0), .val (.int u1), .val (.int u2), .val (.int u3), .val (.int (own_t3 tn)), .val (.int (own_l5 ln)), .val (.int cc), .val (.int cd), .val (.ref b1), .val (.ref b102), .val (.ref b403), .val (.int gg10)] [(.ref b1), (.ref b403), (.int gg10)])) tt
        refine XS.aload X525.here hx rfl (hb hby at_475) rfl rfl ?_
        show Steps p.tables e below (T525.setTop (mkF m 477 #[.val (.int u0), .val (.int u1), .val (.int u2), .val (.int u3), .val (.int (own_t3 tn)), .val (.int (own_l5 ln)), .val (.int cc), .val (.int cd), .val (.ref b1), .val (.ref b102), .val (.ref b403), .val (.int gg10)] [(.ref b102), (.ref b1), (.ref b403), (.int gg10)])) tt
        refine XS.bipush X525.here hx rfl (hb hby at_477) ?_
        show Steps p.tables e below (T525.setTop (mkF m 479 #[.val (.int u0), .val (.int u1), .val (.int u2), .val (.int u3), .val (.int (own_t3 tn)), .val (.int (own_l5 ln)), .val (.int cc), .val (.int cd), .val (.ref b1), .val (.ref b102), .val (.ref b403), .val (.int gg10)] [(.int (10 : Int32)), (.ref b102), (.ref b1), (.ref b403), (.int gg10)])) tt
        refine XS.iload X525.here hx rfl (hb hby at_479) rfl ?_
        show Steps p.tables e below (T525.setTop (mkF m 481 #[.val (.int u0), .val (.int u1), .val (.int u2), .val (.int u3), .val (.int (own_t3 tn)), .val (.int (own_l5 ln)), .val (.int cc), .val (.int cd), .val (.ref b1), .val (.ref b102), .val (.ref b403), .val (.int gg10)] [(.int (own_t3 tn)), (.int (10 : Int32)), (.ref b102), (.ref b1), (.ref b403), (.int gg10)])) tt
        refine XS.iload X525.here hx rfl (hb hby at_481) rfl ?_
        exact kk
      have f532 : Exa Z T525.heap b403 "com/example/tributary/tributary/runtime/Revisits" := (f521.keep K525)
      have f533 : Ary Z T525.heap b1 (.object "java/lang/Object") [(.ref b2), (.ref b18), (.ref b40), (.ref b68)] := (f522.keep K525 (ninS ne_b1_b403 nin0))
      have f534 : Ary Z T525.heap b102 (.object "java/lang/Object") [.null, (.ref b360)] := (f523.keep K525 (ninS ne_b102_b403 nin0))
      have f535 : n0 ≤ T525.heap.size := (Nat.le_trans f524 K525.1)
      obtain ⟨_, _, ⟨T536, L536, k536, n536⟩, -, X536, ⟨Lc536, hQ536, l536, y536, z536⟩, st536⟩ := Jvm.LawKit.callS X525 hx (y := (⟨"com/example/tributary/tributary/runtime/RevisitsSeenBeforePinLaw", "step", "(Lcom/example/tributary/tributary/runtime/Revisits;[Ljava/lang/Object;[Ljava/lang/Object;III)Z"⟩ : MethodName)) hown (mvT hZ (hw _ (mw 43 rfl))) (mvT hZ (hw _ (mw 44 rfl))) (mvT hZ (hw _ (mw 45 rfl))) (mvT hZ (hw _ (mw 46 rfl))) (by decide) (backOf (W := 1) (rmst l Z a0 hw [] b403 b1 b102 b2 b18 b40 b68 b360 .null (own_kf tn ln 10) (own_Z tn ln 10).1 (own_Z tn ln 10).2.1 (own_Z tn ln 10).2.2 (10 : Int32) (own_t3 tn) (own_l5 ln) T525.heap n0 f535 f532 R526 R527 R528 R529 f533 f534 g_b403 rfl (own_kk10 tn ln) (own_l0 ln) hD) hZ (hw _ (mw 46 rfl)) (hw _ (mw 45 rfl)) (by decide) (by decide)) (g := (mkF m 483 #[.val (.int u0), .val (.int u1), .val (.int u2), .val (.int u3), .val (.int (own_t3 tn)), .val (.int (own_l5 ln)), .val (.int cc), .val (.int cd), .val (.ref b1), .val (.ref b102), .val (.ref b403), .val (.int gg10)] [(.int (own_l5 ln)), (.int (own_t3 tn)), (.int (10 : Int32)), (.ref b102), (.ref b1), (.ref b403), (.int gg10)])) rfl (by rw [hml]; rfl) (argsL := [(.ref b403), (.ref b1), (.ref b102), (.int (10 : Int32)), (.int (own_t3 tn)), (.int (own_l5 ln))]) (rest := [(.int gg10)]) (lenOf pd_6 rfl) rfl (by show 2 * 0 + _ ≤ _; exact Nat.le_of_eq rfl) (hb hby at_483) (fun _ _ => ⟨rfl, rfl, (by decide : 18 + 0 ≤ _), (by decide : 40 + 0 ≤ _)⟩)
      dsimp only [Pt.U, Pt.locs, Pt.cells, Pt.slots] at X536 l536 y536 z536 st536 hQ536
      subst y536 z536
      obtain ⟨rfl, N536q, K536, P536_0, P536_1, P536_2, P536_3⟩ := hQ536
      have N536 := Fr.eqv l536 (Fr.app N525 N536q)
      refine Goal.to (B := T536.setTop (mkF m 486 #[.val (.int u0), .val (.int u1), .val (.int u2), .val (.int u3), .val (.int (own_t3 tn)), .val (.int (own_l5 ln)), .val (.int cc), .val (.int cd), .val (.ref b1), .val (.ref b102), .val (.ref b403), .val (.int gg10)] [(.int (own_seen (own_Z tn ln 10).1 (own_kf tn ln 10))), (.int gg10)])) st536 ?_
      have R537 : Fld Z T536.heap b403 "com/example/tributary/tributary/runtime/Revisits" "markedLeft" "Ljava/lang/Object;" (own_ML b2 b18 b40 b68 (own_Z tn ln 11).1) := by rw [own_Zm11 tn ln]; exact P536_0
      have R538 : Fld Z T536.heap b403 "com/example/tributary/tributary/runtime/Revisits" "markedRight" "Ljava/lang/Object;" (own_MR .null b360 (own_Z tn ln 11).1) := by rw [own_Zm11 tn ln]; exact P536_1
      have R539 : Fld Z T536.heap b403 "com/example/tributary/tributary/runtime/Revisits" "sinceMark" "J" (.long (own_Z tn ln 11).2.1) := by rw [own_Zs11 tn ln]; exact P536_2
      have R540 : Fld Z T536.heap b403 "com/example/tributary/tributary/runtime/Revisits" "markInterval" "J" (.long (own_Z tn ln 11).2.2) := by rw [own_Zi11 tn ln]; exact P536_3
      obtain ⟨w542, hw542⟩ : ∃ z : Int32, z = if (own_seen (own_Z tn ln 10).1 (own_kf tn ln 10)) = (0 : Int32) then (0 : Int32) else (1024 : Int32) := ⟨_, rfl⟩
      refine Goal.to (B := T536.setTop (mkF m 496 #[.val (.int u0), .val (.int u1), .val (.int u2), .val (.int u3), .val (.int (own_t3 tn)), .val (.int (own_l5 ln)), .val (.int cc), .val (.int cd), .val (.ref b1), .val (.ref b102), .val (.ref b403), .val (.int gg10)] [(.int w542), (.int gg10)])) (fun tt kk => ?_) ?_
      · by_cases hc541 : (own_seen (own_Z tn ln 10).1 (own_kf tn ln 10)) = (0 : Int32)
        · have qw542 : w542 = (0 : Int32) := by rw [hw542, if_pos hc541]
          rw [qw542] at kk
          show Steps p.tables e below (T536.setTop (mkF m 486 #[.val (.int u0), .val (.int u1), .val (.int u2), .val (.int u3), .val (.int (own_t3 tn)), .val (.int (own_l5 ln)), .val (.int cc), .val (.int cd), .val (.ref b1), .val (.ref b102), .val (.ref b403), .val (.int gg10)] [(.int (own_seen (own_Z tn ln 10).1 (own_kf tn ln 10))), (.int gg10)])) tt
          refine XS.ifYes X536.here hx rfl (pc0 := 486) (pc' := 495) rfl (hb hby at_486) rfl ((if0 _ _).trans (teq hc541).1) (by decide) (by decide) ?_
          show Steps p.tables e below (T536.setTop (mkF m 495 #[.val (.int u0), .val (.int u1), .val (.int u2), .val (.int u3), .val (.int (own_t3 tn)), .val (.int (own_l5 ln)), .val (.int cc), .val (.int cd), .val (.ref b1), .val (.ref b102), .val (.ref b403), .val (.int gg10)] [(.int gg10)])) tt
          refine XS.iconst X536.here hx rfl (hb hby at_495) ?_
          exact kk
        · have qw542 : w542 = (1024 : Int32) := by rw [hw542, if_neg hc541]
          rw [qw542] at kk
          show Steps p.tables e below (T536.setTop (mkF m 486 #[.val (.int u0), .val (.int u1), .val (.int u2), .val (.int u3), .val (.int (own_t3 tn)), .val (.int (own_l5 ln)), .val (.int cc), .val (.int cd), .val (.ref b1), .val (.ref b102), .val (.ref b403), .val (.int gg10)] [(.int (own_seen (own_Z tn ln 10).1 (own_kf tn ln 10))), (.int gg10)])) tt
          refine XS.ifNo X536.here hx rfl (hb hby at_486) rfl ((if0 _ _).trans (feq hc541).1) ?_
          show Steps p.tables e below (T536.setTop (mkF m 489 #[.val (.int u0), .val (.int u1), .val (.int u2), .val (.int u3), .val (.int (own_t3 tn)), .val (.int (own_l5 ln)), .val (.int cc), .val (.int cd), .val (.ref b1), .val (.ref b102), .val (.ref b403), .val (.int gg10)] [(.int gg10)])) tt
          refine XS.sipush X536.here hx rfl (hb hby at_489) ?_
          show Steps p.tables e below (T536.setTop (mkF m 492 #[.val (.int u0), .val (.int u1), .val (.int u2), .val (.int u3), .val (.int (own_t3 tn)), .val (.int (own_l5 ln)), .val (.int cc), .val (.int cd), .val (.ref b1), .val (.ref b102), .val (.ref b403), .val (.int gg10)] [(.int (1024 : Int32)), (.int gg10)])) tt
          refine XS.goto X536.here hx rfl (pc0 := 492) (pc' := 496) rfl (hb hby at_492) (by decide) (by decide) ?_
          exact kk
      obtain ⟨gg11, hgg11⟩ : ∃ z : Int32, z = (gg10 ||| w542) := ⟨_, rfl⟩
      refine Goal.to (B := T536.setTop (mkF m 499 #[.val (.int u0), .val (.int u1), .val (.int u2), .val (.int u3), .val (.int (own_t3 tn)), .val (.int (own_l5 ln)), .val (.int cc), .val (.int cd), .val (.ref b1), .val (.ref b102), .val (.ref b403), .val (.int gg11)] [])) (fun tt kk => ?_) ?_
      · subst hgg11
        show Steps p.tables e below (T536.setTop (mkF m 496 #[.val (.int u0), .val (.int u1), .val (.int u2), .val (.int u3), .val (.int (own_t3 tn)), .val (.int (own_l5 ln)), .val (.int cc), .val (.int cd), .val (.ref b1), .val (.ref b102), .val (.ref b403), .val (.int gg10)] [(.int w542), (.int gg10)])) tt
        refine XS.ior X536.here hx rfl (hb hby at_496) rfl ?_
        show Steps p.tables e below (T536.setTop (mkF m 497 #[.val (.int u0), .val (.int u1), .val (.int u2), .val (.int u3), .val (.int (own_t3 tn)), .val (.int (own_l5 ln)), .val (.int cc), .val (.int cd), .val (.ref b1), .val (.ref b102), .val (.ref b403), .val (.int gg10)] [(.int (gg10 ||| w542))])) tt
        refine XS.istore X536.here hx rfl (hb hby at_497) rfl (l' := #[.val (.int u0), .val (.int u1), .val (.int u2), .val (.int u3), .val (.int (own_t3 tn)), .val (.int (own_l5 ln)), .val (.int cc), .val (.int cd), .val (.ref b1), .val (.ref b102), .val (.ref b403), .val (.int (gg10 ||| w542))]) rfl ?_
        exact kk
      have hG11 : gg11 = own_G tn ln 11 := by rw [hgg11, hw542, own_G11 tn ln, hG10]
      refine Goal.to (B := T536.setTop (mkF m 513 #[.val (.int u0), .val (.int u1), .val (.int u2), .val (.int u3), .val (.int (own_t3 tn)), .val (.int (own_l5 ln)), .val (.int cc), .val (.int cd), .val (.ref b1), .val (.ref b102), .val (.ref b403), .val (.int gg11)] [(.int (own_l5 ln)), (.int (own_t3 tn)), (.int (11 : Int32)), (.ref b102), (.ref b1), (.ref b403), (.int gg11)])) (fun tt kk => ?_) ?_
      · show Steps p.tables e below (T536.setTop (mkF m 499 #[.val (.int u0), .val (.int u1), .val (.int u2), .val (.int u3), .val (.int (own_t3 tn)), .val (.int (own_l5 ln)), .val (.int cc), .val (.int cd), .val (.ref b1), .val (.ref b102), .val (.ref b403), .val (.int gg11)] [])) tt
        refine XS.iload X536.here hx rfl (hb hby at_499) rfl ?_
        show Steps p.tables e below (T536.setTop (mkF m 501 #[.val (.int u0), .val (.int u1), .val (.int u2), .val (.int u3), .val (.int (own_t3 tn)), .val (.int (own_l5 ln)), .val (.int cc), .val (.int cd), .val (.ref b1), .val (.ref b102), .val (.ref b403), .val (.int gg11)] [(.int gg11)])) tt
        refine XS.aload X536.here hx rfl (hb hby at_501) rfl rfl ?_
        show Steps p.tables e below (T536.setTop (mkF m 503 #[.val (.int u0), .val (.int u1), .val (.int u2), .val (.int u3), .val (.int (own_t3 tn)), .val (.int (own_l5 ln)), .val (.int cc), .val (.int cd), .val (.ref b1), .val (.ref b102), .val (.ref b403), .val (.int gg11)] [(.ref b403), (.int gg11)])) tt
        refine XS.aload X536.here hx rfl (hb hby at_503) rfl rfl ?_
        show Steps p.tables e below (T536.setTop (mkF m 505 #[.val (.int u0), .val (.int u1), .val (.int u2), .val (.int u3), .val (.int (own_t3 tn)), .val (.int (own_l5 ln)), .val (.int cc), .val (.int cd), .val (.ref b1), .val (.ref b102), .val (.ref b403), .val (.int gg11)] [(.ref b1), (.ref b403), (.int gg11)])) tt
        refine XS.aload X536.here hx rfl (hb hby at_505) rfl rfl ?_
        show Steps p.tables e below (T536.setTop (mkF m 507 #[.val (.int u0), .val (.int u1), .val (.int u2), .val (.int u3), .val (.int (own_t3 tn)), .val (.int (own_l5 ln)), .val (.int cc), .val (.int cd), .val (.ref b1), .val (.ref b102), .val (.ref b403), .val (.int gg11)] [(.ref b102), (.ref b1), (.ref b403), (.int gg11)])) tt
        refine XS.bipush X536.here hx rfl (hb hby at_507) ?_
        show Steps p.tables e below (T536.setTop (mkF m 509 #[.val (.int u0), .val (.int u1), .val (.int u2), .val (.int u3), .val (.int (own_t3 tn)), .val (.int (own_l5 ln)), .val (.int cc), .val (.int cd), .val (.ref b1), .val (.ref b102), .val (.ref b403), .val (.int gg11)] [(.int (11 : Int32)), (.ref b102), (.ref b1), (.ref b403), (.int gg11)])) tt
        refine XS.iload X536.here hx rfl (hb hby at_509) rfl ?_
        show Steps p.tables e below (T536.setTop (mkF m 511 #[.val (.int u0), .val (.int u1), .val (.int u2), .val (.int u3), .val (.int (own_t3 tn)), .val (.int (own_l5 ln)), .val (.int cc), .val (.int cd), .val (.ref b1), .val (.ref b102), .val (.ref b403), .val (.int gg11)] [(.int (own_t3 tn)), (.int (11 : Int32)), (.ref b102), (.ref b1), (.ref b403), (.int gg11)])) tt
        refine XS.iload X536.here hx rfl (hb hby at_511) rfl ?_
        exact kk
      have f543 : Exa Z T536.heap b403 "com/example/tributary/tributary/runtime/Revisits" := (f532.keep K536)
      have f544 : Ary Z T536.heap b1 (.object "java/lang/Object") [(.ref b2), (.ref b18), (.ref b40), (.ref b68)] := (f533.keep K536 (ninS ne_b1_b403 nin0))
      have f545 : Ary Z T536.heap b102 (.object "java/lang/Object") [.null, (.ref b360)] := (f534.keep K536 (ninS ne_b102_b403 nin0))
      have f546 : n0 ≤ T536.heap.size := (Nat.le_trans f535 K536.1)
      obtain ⟨_, _, ⟨T547, L547, k547, n547⟩, -, X547, ⟨Lc547, hQ547, l547, y547, z547⟩, st547⟩ := Jvm.LawKit.callS X536 hx (y := (⟨"com/example/tributary/tributary/runtime/RevisitsSeenBeforePinLaw", "step", "(Lcom/example/tributary/tributary/runtime/Revisits;[Ljava/lang/Object;[Ljava/lang/Object;III)Z"⟩ : MethodName)) hown (mvT hZ (hw _ (mw 43 rfl))) (mvT hZ (hw _ (mw 44 rfl))) (mvT hZ (hw _ (mw 45 rfl))) (mvT hZ (hw _ (mw 46 rfl))) (by decide) (backOf (W := 1) (rmst l Z a0 hw [] b403 b1 b102 b2 b18 b40 b68 b360 .null (own_kf tn ln 11) (own_Z tn ln 11).1 (own_Z tn ln 11).2.1 (own_Z tn ln 11).2.2 (11 : Int32) (own_t3 tn) (own_l5 ln) T536.heap n0 f546 f543 R537 R538 R539 R540 f544 f545 g_b403 rfl (own_kk11 tn ln) (own_l0 ln) hD) hZ (hw _ (mw 46 rfl)) (hw _ (mw 45 rfl)) (by decide) (by decide)) (g := (mkF m 513 #[.val (.int u0), .val (.int u1), .val (.int u2), .val (.int u3), .val (.int (own_t3 tn)), .val (.int (own_l5 ln)), .val (.int cc), .val (.int cd), .val (.ref b1), .val (.ref b102), .val (.ref b403), .val (.int gg11)] [(.int (own_l5 ln)), (.int (own_t3 tn)), (.int (11 : Int32)), (.ref b102), (.ref b1), (.ref b403), (.int gg11)])) rfl (by rw [hml]; rfl) (argsL := [(.ref b403), (.ref b1), (.ref b102), (.int (11 : Int32)), (.int (own_t3 tn)), (.int (own_l5 ln))]) (rest := [(.int gg11)]) (lenOf pd_6 rfl) rfl (by show 2 * 0 + _ ≤ _; exact Nat.le_of_eq rfl) (hb hby at_513) (fun _ _ => ⟨rfl, rfl, (by decide : 18 + 0 ≤ _), (by decide : 40 + 0 ≤ _)⟩)
      dsimp only [Pt.U, Pt.locs, Pt.cells, Pt.slots] at X547 l547 y547 z547 st547 hQ547
      subst y547 z547
      obtain ⟨rfl, N547q, K547, P547_0, P547_1, P547_2, P547_3⟩ := hQ547
      have N547 := Fr.eqv l547 (Fr.app N536 N547q)
      refine Goal.to (B := T547.setTop (mkF m 516 #[.val (.int u0), .val (.int u1), .val (.int u2), .val (.int u3), .val (.int (own_t3 tn)), .val (.int (own_l5 ln)), .val (.int cc), .val (.int cd), .val (.ref b1), .val (.ref b102), .val (.ref b403), .val (.int gg11)] [(.int (own_seen (own_Z tn ln 11).1 (own_kf tn ln 11))), (.int gg11)])) st547 ?_
      have R548 : Fld Z T547.heap b403 "com/example/tributary/tributary/runtime/Revisits" "markedLeft" "Ljava/lang/Object;" (own_ML b2 b18 b40 b68 (own_Z tn ln 12).1) := by rw [own_Zm12 tn ln]; exact P547_0
      have R549 : Fld Z T547.heap b403 "com/example/tributary/tributary/runtime/Revisits" "markedRight" "Ljava/lang/Object;" (own_MR .null b360 (own_Z tn ln 12).1) := by rw [own_Zm12 tn ln]; exact P547_1
      have R550 : Fld Z T547.heap b403 "com/example/tributary/tributary/runtime/Revisits" "sinceMark" "J" (.long (own_Z tn ln 12).2.1) := by rw [own_Zs12 tn ln]; exact P547_2
      have R551 : Fld Z T547.heap b403 "com/example/tributary/tributary/runtime/Revisits" "markInterval" "J" (.long (own_Z tn ln 12).2.2) := by rw [own_Zi12 tn ln]; exact P547_3
      obtain ⟨w553, hw553⟩ : ∃ z : Int32, z = if (own_seen (own_Z tn ln 11).1 (own_kf tn ln 11)) = (0 : Int32) then (0 : Int32) else (2048 : Int32) := ⟨_, rfl⟩
      refine Goal.to (B := T547.setTop (mkF m 526 #[.val (.int u0), .val (.int u1), .val (.int u2), .val (.int u3), .val (.int (own_t3 tn)), .val (.int (own_l5 ln)), .val (.int cc), .val (.int cd), .val (.ref b1), .val (.ref b102), .val (.ref b403), .val (.int gg11)] [(.int w553), (.int gg11)])) (fun tt kk => ?_) ?_
      · by_cases hc552 : (own_seen (own_Z tn ln 11).1 (own_kf tn ln 11)) = (0 : Int32)
        · have qw553 : w553 = (0 : Int32) := by rw [hw553, if_pos hc552]
          rw [qw553] at kk
          show Steps p.tables e below (T547.setTop (mkF m 516 #[.val (.int u0), .val (.int u1), .val (.int u2), .val (.int u3), .val (.int (own_t3 tn)), .val (.int (own_l5 ln)), .val (.int cc), .val (.int cd), .val (.ref b1), .val (.ref b102), .val (.ref b403), .val (.int gg11)] [(.int (own_seen (own_Z tn ln 11).1 (own_kf tn ln 11))), (.int gg11)])) tt
          refine XS.ifYes X547.here hx rfl (pc0 := 516) (pc' := 525) rfl (hb hby at_516) rfl ((if0 _ _).trans (teq hc552).1) (by decide) (by decide) ?_
          show Steps p.tables e below (T547.setTop (mkF m 525 #[.val (.int u0), .val (.int u1), .val (.int u2), .val (.int u3), .val (.int (own_t3 tn)), .val (.int (own_l5 ln)), .val (.int cc), .val (.int cd), .val (.ref b1), .val (.ref b102), .val (.ref b403), .val (.int gg11)] [(.int gg11)])) tt
          refine XS.iconst X547.here hx rfl (hb hby at_525) ?_
          exact kk
        · have qw553 : w553 = (2048 : Int32) := by rw [hw553, if_neg hc552]
          rw [qw553] at kk
          show Steps p.tables e below (T547.setTop (mkF m 516 #[.val (.int u0), .val (.int u1), .val (.int u2), .val (.int u3), .val (.int (own_t3 tn)), .val (.int (own_l5 ln)), .val (.int cc), .val (.int cd), .val (.ref b1), .val (.ref b102), .val (.ref b403), .val (.int gg11)] [(.int (own_seen (own_Z tn ln 11).1 (own_kf tn ln 11))), (.int gg11)])) tt
          refine XS.ifNo X547.here hx rfl (hb hby at_516) rfl ((if0 _ _).trans (feq hc552).1) ?_
          show Steps p.tables e below (T547.setTop (mkF m 519 #[.val (.int u0), .val (.int u1), .val (.int u2), .val (.int u3), .val (.int (own_t3 tn)), .val (.int (own_l5 ln)), .val (.int cc), .val (.int cd), .val (.ref b1), .val (.ref b102), .val (.ref b403), .val (.int gg11)] [(.int gg11)])) tt
          refine XS.sipush X547.here hx rfl (hb hby at_519) ?_
          show Steps p.tables e below (T547.setTop (mkF m 522 #[.val (.int u0), .val (.int u1), .val (.int u2), .val (.int u3), .val (.int (own_t3 tn)), .val (.int (own_l5 ln)), .val (.int cc), .val (.int cd), .val (.ref b1), .val (.ref b102), .val (.ref b403), .val (.int gg11)] [(.int (2048 : Int32)), (.int gg11)])) tt
          refine XS.goto X547.here hx rfl (pc0 := 522) (pc' := 526) rfl (hb hby at_522) (by decide) (by decide) ?_
          exact kk
      obtain ⟨gg12, hgg12⟩ : ∃ z : Int32, z = (gg11 ||| w553) := ⟨_, rfl⟩
      refine Goal.to (B := T547.setTop (mkF m 529 #[.val (.int u0), .val (.int u1), .val (.int u2), .val (.int u3), .val (.int (own_t3 tn)), .val (.int (own_l5 ln)), .val (.int cc), .val (.int cd), .val (.ref b1), .val (.ref b102), .val (.ref b403), .val (.int gg12)] [])) (fun tt kk => ?_) ?_
      · subst hgg12
        show Steps p.tables e below (T547.setTop (mkF m 526 #[.val (.int u0), .val (.int u1), .val (.int u2), .val (.int u3), .val (.int (own_t3 tn)), .val (.int (own_l5 ln)), .val (.int cc), .val (.int cd), .val (.ref b1), .val (.ref b102), .val (.ref b403), .val (.int gg11)] [(.int w553), (.int gg11)])) tt
        refine XS.ior X547.here hx rfl (hb hby at_526) rfl ?_
        show Steps p.tables e below (T547.setTop (mkF m 527 #[.val (.int u0), .val (.int u1), .val (.int u2), .val (.int u3), .val (.int (own_t3 tn)), .val (.int (own_l5 ln)), .val (.int cc), .val (.int cd), .val (.ref b1), .val (.ref b102), .val (.ref b403), .val (.int gg11)] [(.int (gg11 ||| w553))])) tt
        refine XS.istore X547.here hx rfl (hb hby at_527) rfl (l' := #[.val (.int u0), .val (.int u1), .val (.int u2), .val (.int u3), .val (.int (own_t3 tn)), .val (.int (own_l5 ln)), .val (.int cc), .val (.int cd), .val (.ref b1), .val (.ref b102), .val (.ref b403), .val (.int (gg11 ||| w553))]) rfl ?_
        exact kk
      have hG12 : gg12 = own_G tn ln 12 := by rw [hgg12, hw553, own_G12 tn ln, hG11]
      refine Goal.to (B := T547.setTop (mkF m 535 #[.val (.int u0), .val (.int u1), .val (.int u2), .val (.int u3), .val (.int (own_t3 tn)), .val (.int (own_l5 ln)), .val (.int cc), .val (.int cd), .val (.ref b1), .val (.ref b102), .val (.ref b403), .val (.int gg12)] [(.int (own_l5 ln)), (.int (own_t3 tn)), (.int gg12)])) (fun tt kk => ?_) ?_
      · show Steps p.tables e below (T547.setTop (mkF m 529 #[.val (.int u0), .val (.int u1), .val (.int u2), .val (.int u3), .val (.int (own_t3 tn)), .val (.int (own_l5 ln)), .val (.int cc), .val (.int cd), .val (.ref b1), .val (.ref b102), .val (.ref b403), .val (.int gg12)] [])) tt
        refine XS.iload X547.here hx rfl (hb hby at_529) rfl ?_
        show Steps p.tables e below (T547.setTop (mkF m 531 #[.val (.int u0), .val (.int u1), .val (.int u2), .val (.int u3), .val (.int (own_t3 tn)), .val (.int (own_l5 ln)), .val (.int cc), .val (.int cd), .val (.ref b1), .val (.ref b102), .val (.ref b403), .val (.int gg12)] [(.int gg12)])) tt
        refine XS.iload X547.here hx rfl (hb hby at_531) rfl ?_
        show Steps p.tables e below (T547.setTop (mkF m 533 #[.val (.int u0), .val (.int u1), .val (.int u2), .val (.int u3), .val (.int (own_t3 tn)), .val (.int (own_l5 ln)), .val (.int cc), .val (.int cd), .val (.ref b1), .val (.ref b102), .val (.ref b403), .val (.int gg12)] [(.int (own_t3 tn)), (.int gg12)])) tt
        refine XS.iload X547.here hx rfl (hb hby at_533) rfl ?_
        exact kk
      have f554 : n0 ≤ T547.heap.size := (Nat.le_trans f546 K547.1)
      obtain ⟨_, _, ⟨T555, L555, k555, n555⟩, -, X555, ⟨Lc555, hQ555, l555, y555, z555⟩, st555⟩ := Jvm.LawKit.callS X547 hx (y := (⟨"com/example/tributary/tributary/runtime/RevisitsSeenBeforePinLaw", "expected", "(II)I"⟩ : MethodName)) hown (mvT hZ (hw _ (mw 59 rfl))) (mvT hZ (hw _ (mw 60 rfl))) (mvT hZ (hw _ (mw 45 rfl))) (mvT hZ (hw _ (mw 61 rfl))) (by decide) (backOf (W := 1) (rmex l Z a0 hw [] (own_t3 tn) (own_l5 ln) T547.heap n0 f554 ) hZ (hw _ (mw 61 rfl)) (hw _ (mw 45 rfl)) (by decide) (by decide)) (g := (mkF m 535 #[.val (.int u0), .val (.int u1), .val (.int u2), .val (.int u3), .val (.int (own_t3 tn)), .val (.int (own_l5 ln)), .val (.int cc), .val (.int cd), .val (.ref b1), .val (.ref b102), .val (.ref b403), .val (.int gg12)] [(.int (own_l5 ln)), (.int (own_t3 tn)), (.int gg12)])) rfl (by rw [hml]; rfl) (argsL := [(.int (own_t3 tn)), (.int (own_l5 ln))]) (rest := [(.int gg12)]) (lenOf pd_8 rfl) rfl (by show 2 * 0 + _ ≤ _; exact Nat.le_of_eq rfl) (hb hby at_535) (fun _ _ => ⟨rfl, rfl, (by decide : 18 + 0 ≤ _), (by decide : 40 + 0 ≤ _)⟩)
      dsimp only [Pt.U, Pt.locs, Pt.cells, Pt.slots] at X555 l555 y555 z555 st555 hQ555
      subst y555 z555
      obtain ⟨rfl, N555q, e555⟩ := hQ555
      have N555 := Fr.eqv l555 (Fr.app N547 N555q)
      refine Goal.to (B := T555.setTop (mkF m 538 #[.val (.int u0), .val (.int u1), .val (.int u2), .val (.int u3), .val (.int (own_t3 tn)), .val (.int (own_l5 ln)), .val (.int cc), .val (.int cd), .val (.ref b1), .val (.ref b102), .val (.ref b403), .val (.int gg12)] [(.int (own_exp (own_t3 tn) (own_l5 ln))), (.int gg12)])) st555 ?_
      refine Goal.to (B := T555.setTop (mkF m 546 #[.val (.int u0), .val (.int u1), .val (.int u2), .val (.int u3), .val (.int (own_t3 tn)), .val (.int (own_l5 ln)), .val (.int cc), .val (.int cd), .val (.ref b1), .val (.ref b102), .val (.ref b403), .val (.int gg12)] [(.int (1 : Int32))])) (fun tt kk => ?_) ?_
      · show Steps p.tables e below (T555.setTop (mkF m 538 #[.val (.int u0), .val (.int u1), .val (.int u2), .val (.int u3), .val (.int (own_t3 tn)), .val (.int (own_l5 ln)), .val (.int cc), .val (.int cd), .val (.ref b1), .val (.ref b102), .val (.ref b403), .val (.int gg12)] [(.int (own_exp (own_t3 tn) (own_l5 ln))), (.int gg12)])) tt
        refine XS.icmpNo X555.here hx rfl (hb hby at_538) rfl (teq (by rw [hG12]; exact own_end tn ln : gg12 = (own_exp (own_t3 tn) (own_l5 ln)))).2 ?_
        show Steps p.tables e below (T555.setTop (mkF m 541 #[.val (.int u0), .val (.int u1), .val (.int u2), .val (.int u3), .val (.int (own_t3 tn)), .val (.int (own_l5 ln)), .val (.int cc), .val (.int cd), .val (.ref b1), .val (.ref b102), .val (.ref b403), .val (.int gg12)] [])) tt
        refine XS.iconst X555.here hx rfl (hb hby at_541) ?_
        show Steps p.tables e below (T555.setTop (mkF m 542 #[.val (.int u0), .val (.int u1), .val (.int u2), .val (.int u3), .val (.int (own_t3 tn)), .val (.int (own_l5 ln)), .val (.int cc), .val (.int cd), .val (.ref b1), .val (.ref b102), .val (.ref b403), .val (.int gg12)] [(.int (1 : Int32))])) tt
        refine XS.goto X555.here hx rfl (pc0 := 542) (pc' := 546) rfl (hb hby at_542) (by decide) (by decide) ?_
        exact kk
      exact Goal.retV X555 hx Bd.returns rfl (Or.inl ⟨rfl, Or.inr (Or.inl rfl), _, rfl⟩) (hb hby at_546) hlk e555 ⟨rfl, N555⟩ (by decide) (by decide)
set_option maxRecDepth 65536 in
set_option maxHeartbeats 40000000 in
theorem comes_1 {Post : Tables → Env → Array Value → State → Outcome → State → Prop} (hpost : ∀ tb e args s v u, (limb_1_1.after args s (.returned v) u = true ∧ limb_1_2.after args s (.returned v) u = true ∧ True) → FrameEnd s (.returned v) u (Jvm.fieldLocs frame_1_writes args s ++ Jvm.arrayLocs frame_1_arrays args s ++ Jvm.staticLocs frame_1_statics s) 56 192 → Post tb e args s (.returned v) u) :
    ArmFor flags0 classFile x code maxLocals ret World_1 tables_1 room_1 Calls_1 rest_1 Pre_1 Post := by
  intro l hfl _ _ p e ha hc hk s m args below hf hA hF happ hP
  obtain ⟨hcalls, hrest, hpre⟩ := hP
  obtain ⟨-, -, -, hnamed, -, -, -, hat⟩ := (Spec.applies_iff hf).mp happ
  obtain ⟨hg, hn⟩ := and_e (Cond.before_iff.mp (show (Jvm.Cond.and given_1 narrow_1).before args s = true from hpre))
  obtain ⟨u1, u2⟩ := and_e hg
  obtain ⟨u3, u4⟩ := and_e u2
  obtain ⟨u5, u6⟩ := and_e u4
  obtain ⟨u7, u8⟩ := and_e u6
  obtain ⟨w0, w1, w2, w3, rfl⟩ : ∃ w0 w1 w2 w3 : Value, args = #[w0, w1, w2, w3] := by
    have hs : args.size = 4 := by simpa [Cond.value, given_1] using u1
    obtain ⟨L⟩ := args
    match L, hs with
    | [w0, w1, w2, w3], _ => exact ⟨w0, w1, w2, w3, rfl⟩
  have hw := fun d (hd : d ∈ tables_1) => atoms_spec (ws := Jvm.Cond.code x code maxLocals ret :: tables_1) hat d (List.mem_cons_of_mem _ hd)
  obtain ⟨hsets, hown0⟩ := atoms_of _ (rest_1_c_eq ▸ (show rest_1_c.before _ s = true from hrest))
  have hr0 := Cond.before_iff.mp hown0
  obtain ⟨i0, ei0⟩ := is_v u3
  obtain rfl : w0 = (.int i0) := Option.some.inj ei0
  obtain ⟨i1, ei1⟩ := is_v u5
  obtain rfl : w1 = (.int i1) := Option.some.inj ei1
  obtain ⟨i2, ei2⟩ := is_v u7
  obtain rfl : w2 = (.int i2) := Option.some.inj ei2
  obtain ⟨i3, ei3⟩ := is_v u8
  obtain rfl : w3 = (.int i3) := Option.some.inj ei3
  have n3 := not_v (Cond.before_iff.mp (hsets _ (List.mem_of_getElem? (i := 2) rfl)))
  obtain ⟨zc, e6⟩ := is_v (Cond.before_iff.mp (hsets _ (List.mem_of_getElem? (i := 1) rfl)))
  have S_zc := Sta.toN (Sta.start e6 (Or.inl (hsets _ (List.mem_of_getElem? (i := 0) rfl))))
  have hCS : ¬ (zc = (0 : Int32)) := gotF (Cond.eq_ints e6 (Term.int_eval (0))) n3
  obtain ⟨n, o, h1, h2, h3, _, L, rfl, ⟨rfl, N⟩, hq⟩ := rm0 l s _ hw tables_1 i0 i1 i2 i3 zc s.heap s.heap.size (Nat.le_refl _) S_zc hCS p e ha hc hk s m _ below hf ((Spec.applies_iff_loose hf).mp happ).1 ⟨rfl, State.Warmed39.refl s, rfl⟩ trivial
  refine ⟨n, _, h1, h2, h3, hpost _ _ _ _ _ _ ⟨Cond.after_iff.mpr rfl, Cond.after_iff.mpr (eq_i res_at (Term.int_eval (1)) rfl), trivial⟩ ⟨hq.1, hq.2.1, (hq.2.2.sift fun y hy => Or.inr (N y hy)).mono (by decide) (by decide)⟩⟩
theorem main_1_1 : Claimed_1_1 := comes_1 fun _ _ _ _ _ _ h hF => ⟨h.1, hF⟩
theorem main_1_2 : Claimed_1_2 := comes_1 fun _ _ _ _ _ _ h hF => ⟨h.2.1, hF⟩
end Jvm.Pilot.@@N@@
namespace Jvm.Pilot.@@N@@
open Jvm Jvm.ClassFile Sem Op Lib Jvm.Free Jvm.Stand Jvm.Pilot.@@N@@.Jvm.D
/-! MADE BY PROGRAM (witnessworld.py) out of the Statement's table words and the real class files: 21 classes; the members and pool entries that the words name. The judged class is class 1, her method 1. -/
namespace start1
open Jvm.ClassFile
def u (s : String) : CpInfo := .utf8 (stringToUtf16 s)
/-- a pool by its gaps: so many unusable entries, then the entry; so many at the end -/
def gap : Nat → List CpInfo → List CpInfo
  | 0, r => r
  | n + 1, r => .unusable :: gap n r
def poolList (es : List (Nat × CpInfo)) (last : Nat) : List CpInfo := es.foldr (fun e r => gap e.1 (e.2 :: r)) (gap last [])
def pool (es : List (Nat × CpInfo)) (last : Nat) : Array CpInfo := ⟨poolList es last⟩
def fileOf (pool : Array CpInfo) (this : Nat) (attrs : Array Attribute := #[]) (ms : Array MethodInfo := #[]) (fl : Nat := 33) (sup : Nat := 0) (ifs : Array Nat := #[]) (fds : Array FieldInfo := #[]) : ClassFile where
  minorVersion := 0
  majorVersion := 65
  constantPool := pool
  accessFlags := fl
  thisClass := this
  superClass := sup
  interfaces := ifs
  fields := fds
  methods := ms
  attributes := attrs
def plain (name : String) (sup : Option ClassId) : Class where
  name := name
  kind := .ordinary
  loader := none
  accessFlags := 33
  super := sup
  interfaces := #[]
  cf := none
  fields := #[]
  methods := #[]
  instanceTypes := #[]
  staticTypes := #[]
  resolved := #[]
  callSites := []
  init := .initialized
  statics := none
  mirror := none

def pool0 : Array CpInfo := pool [(5, u "<init>"), (0, u "()V"), (1, .class_ 10), (1, u "java/lang/Object")] 113

def k0c0 : Code := { maxStack := 0, maxLocals := 1, code := object_method_1_code, exceptionTable := #[], attributes := #[] }
def k0m0 : Method := { name := "<init>", desc := "()V", sig := { parameters := [], returnType := none }, accessFlags := 1, code := some k0c0 }
/-- java/lang/Object -/
def k0 : Class := { plain "java/lang/Object" none with
  accessFlags := 33
  interfaces := #[]
  cf := some (fileOf pool0 8 #[] #[{ accessFlags := 1, nameIndex := 5, descriptorIndex := 6, attributes := #[] }] 33 0 #[] #[])
  fields := #[]
  methods := #[k0m0]
  instanceTypes := #[]
  staticTypes := #[]
  resolved := Array.replicate 124 none
  statics := none }

def pool1 : Array CpInfo := pool [(2, .class_ 4), (0, .nameAndType 5 6), (0, u "java/lang/Object"), (0, u "<init>"), (0, u "()V"), (0, .integer 2147483647), (0, .class_ 9), (0, u "java/lang/String"), (0, .methodref 8 11), (0, .nameAndType 5 12), (0, u "([C)V"), (0, .class_ 14), (0, u "com/example/tributary/tributary/runtime/Revisits"), (0, .methodref 13 3), (0, .methodref 17 18), (0, .class_ 19), (0, .nameAndType 20 21), (0, u "com/example/tributary/tributary/runtime/RevisitsSeenBeforePinLaw"), (0, u "step"), (0, u "(Lcom/example/tributary/tributary/runtime/Revisits;[Ljava/lang/Object;[Ljava/lang/Object;III)Z"), (0, .methodref 17 23), (0, .nameAndType 24 25), (0, u "expected"), (0, u "(II)I"), (0, .methodref 13 27), (0, .nameAndType 28 29), (0, u "seenBefore"), (0, u "(Ljava/lang/Object;Ljava/lang/Object;)Z"), (2, u "law"), (0, u "(IIII)Z")] 5

def k1m0 : Method := { name := "<init>", desc := "()V", sig := { parameters := [], returnType := none }, accessFlags := 1, code := none }
def k1c1 : Code := { maxStack := 8, maxLocals := 12, code := code, exceptionTable := #[], attributes := #[] }
def k1m1 : Method := { name := "law", desc := "(IIII)Z", sig := { parameters := [.int, .int, .int, .int], returnType := some .boolean }, accessFlags := 9, code := some k1c1 }
def k1c2 : Code := { maxStack := 5, maxLocals := 7, code := method_3_code, exceptionTable := #[], attributes := #[] }
def k1m2 : Method := { name := "step", desc := "(Lcom/example/tributary/tributary/runtime/Revisits;[Ljava/lang/Object;[Ljava/lang/Object;III)Z", sig := { parameters := [(.object "com/example/tributary/tributary/runtime/Revisits"), (.array (.object "java/lang/Object")), (.array (.object "java/lang/Object")), .int, .int, .int], returnType := some .boolean }, accessFlags := 10, code := some k1c2 }
def k1c3 : Code := { maxStack := 2, maxLocals := 2, code := method_4_code, exceptionTable := #[], attributes := #[] }
def k1m3 : Method := { name := "expected", desc := "(II)I", sig := { parameters := [.int, .int], returnType := some .int }, accessFlags := 10, code := some k1c3 }
/-- com/example/tributary/tributary/runtime/RevisitsSeenBeforePinLaw -/
def k1 : Class := { plain "com/example/tributary/tributary/runtime/RevisitsSeenBeforePinLaw" (some 0) with
  accessFlags := 49
  interfaces := #[]
  cf := some (fileOf pool1 17 #[] #[{ accessFlags := 1, nameIndex := 5, descriptorIndex := 6, attributes := #[] }, { accessFlags := 9, nameIndex := 32, descriptorIndex := 33, attributes := #[] }, { accessFlags := 10, nameIndex := 20, descriptorIndex := 21, attributes := #[] }, { accessFlags := 10, nameIndex := 24, descriptorIndex := 25, attributes := #[] }] 49 2 #[] #[])
  fields := #[]
  methods := #[k1m0, k1m1, k1m2, k1m3]
  instanceTypes := #[]
  staticTypes := #[]
  resolved := Array.replicate 39 none
  statics := none }

def pool2 : Array CpInfo := pool [(1, .class_ 2), (0, u "java/io/Serializable"), (0, .class_ 4), (0, u "java/lang/Object")] 2

/-- java/io/Serializable -/
def k2 : Class := { plain "java/io/Serializable" (some 0) with
  accessFlags := 1537
  interfaces := #[]
  cf := some (fileOf pool2 1 #[] #[] 1537 3 #[] #[])
  fields := #[]
  methods := #[]
  instanceTypes := #[]
  staticTypes := #[]
  resolved := Array.replicate 7 none
  statics := none }

def pool3 : Array CpInfo := pool [(1, .class_ 2), (0, u "java/lang/Comparable"), (0, .class_ 4), (0, u "java/lang/Object")] 7

/-- java/lang/Comparable -/
def k3 : Class := { plain "java/lang/Comparable" (some 0) with
  accessFlags := 1537
  interfaces := #[]
  cf := some (fileOf pool3 1 #[] #[] 1537 3 #[] #[])
  fields := #[]
  methods := #[]
  instanceTypes := #[]
  staticTypes := #[]
  resolved := Array.replicate 12 none
  statics := none }

def pool4 : Array CpInfo := pool [(2, .class_ 4), (1, u "java/lang/CharSequence"), (42, .class_ 48), (0, u "java/lang/CharSequence$1CodePointIterator"), (10, .class_ 60), (0, u "java/lang/CharSequence$1CharIterator"), (5, .class_ 67), (0, u "java/lang/Object")] 63

/-- java/lang/CharSequence -/
def k4 : Class := { plain "java/lang/CharSequence" (some 0) with
  accessFlags := 1537
  interfaces := #[]
  cf := some (fileOf pool4 2 #[.nestMembers #[47, 59]] #[] 1537 66 #[] #[])
  fields := #[]
  methods := #[]
  instanceTypes := #[]
  staticTypes := #[]
  resolved := Array.replicate 131 none
  statics := none }

def pool5 : Array CpInfo := pool [(1, .class_ 2), (0, u "java/lang/constant/Constable"), (0, .class_ 4), (0, u "java/lang/Object")] 6

/-- java/lang/constant/Constable -/
def k5 : Class := { plain "java/lang/constant/Constable" (some 0) with
  accessFlags := 1537
  interfaces := #[]
  cf := some (fileOf pool5 1 #[] #[] 1537 3 #[] #[])
  fields := #[]
  methods := #[]
  instanceTypes := #[]
  staticTypes := #[]
  resolved := Array.replicate 11 none
  statics := none }

def pool6 : Array CpInfo := pool [(1, .class_ 2), (0, u "java/lang/constant/ConstantDesc"), (0, .class_ 4), (0, u "java/lang/Object")] 32

/-- java/lang/constant/ConstantDesc -/
def k6 : Class := { plain "java/lang/constant/ConstantDesc" (some 0) with
  accessFlags := 1537
  interfaces := #[]
  cf := some (fileOf pool6 1 #[] #[] 1537 3 #[] #[])
  fields := #[]
  methods := #[]
  instanceTypes := #[]
  staticTypes := #[]
  resolved := Array.replicate 37 none
  statics := none }

def pool7 : Array CpInfo := pool [(1, .methodref 2 3), (0, .class_ 4), (0, .nameAndType 5 6), (0, u "java/lang/Object"), (0, u "<init>"), (0, u "()V"), (2, .fieldref 10 11), (0, .class_ 12), (0, .nameAndType 13 14), (0, u "java/lang/String"), (0, u "value"), (0, u "[B"), (0, .fieldref 10 16), (0, .nameAndType 17 18), (0, u "coder"), (0, u "B"), (2, u "hash"), (0, u "I"), (2, u "hashIsZero"), (0, u "Z"), (0, .methodref 10 28), (0, .nameAndType 5 29), (0, u "([CIILjava/lang/Void;)V"), (8, .fieldref 10 39), (0, .nameAndType 40 26), (0, u "COMPACT_STRINGS"), (1, .class_ 44), (1, u "java/lang/StringUTF16"), (0, u "compress"), (1, .methodref 42 48), (0, .nameAndType 49 50), (0, u "coderFromArrayLen"), (0, u "([BI)B"), (126, .methodref 42 178), (0, .nameAndType 45 179), (0, u "([CII)[B"), (395, .class_ 576), (0, u "java/lang/CharSequence"), (22, u "CASE_INSENSITIVE_ORDER"), (0, u "Ljava/util/Comparator;"), (409, u "([C)V"), (90, u "serialPersistentFields"), (0, u "[Ljava/io/ObjectStreamField;"), (0, .class_ 1104), (0, u "java/lang/String$CaseInsensitiveComparator"), (1, .class_ 1107), (0, u "java/io/Serializable"), (0, .class_ 1109), (0, u "java/lang/Comparable"), (0, .class_ 1111), (0, u "java/lang/constant/Constable"), (0, .class_ 1113), (0, u "java/lang/constant/ConstantDesc"), (2, u "serialVersionUID"), (0, u "J"), (3, u "REPL"), (0, u "C"), (2, u "LATIN1"), (1, u "UTF16")] 323

def k7m0 : Method := { name := "<init>", desc := "()V", sig := { parameters := [], returnType := none }, accessFlags := 1, code := none }
def k7c1 : Code := { maxStack := 5, maxLocals := 2, code := jdk_42_method_3_code, exceptionTable := #[], attributes := #[] }
def k7m1 : Method := { name := "<init>", desc := "([C)V", sig := { parameters := [(.array .char)], returnType := none }, accessFlags := 1, code := some k7c1 }
def k7c2 : Code := { maxStack := 4, maxLocals := 6, code := jdk_42_method_149_code, exceptionTable := #[], attributes := #[] }
def k7m2 : Method := { name := "<init>", desc := "([CIILjava/lang/Void;)V", sig := { parameters := [(.array .char), .int, .int, (.object "java/lang/Void")], returnType := none }, accessFlags := 2, code := some k7c2 }
/-- java/lang/String -/
def k7 : Class := { plain "java/lang/String" (some 0) with
  accessFlags := 49
  interfaces := #[2, 3, 4, 5, 6]
  cf := some (fileOf pool7 10 #[.nestMembers #[1103]] #[{ accessFlags := 1, nameIndex := 5, descriptorIndex := 6, attributes := #[] }, { accessFlags := 1, nameIndex := 5, descriptorIndex := 1010, attributes := #[] }, { accessFlags := 2, nameIndex := 5, descriptorIndex := 29, attributes := #[] }] 49 2 #[1106, 1108, 575, 1110, 1112] #[{ accessFlags := 18, nameIndex := 13, descriptorIndex := 14, attributes := #[] }, { accessFlags := 18, nameIndex := 17, descriptorIndex := 18, attributes := #[] }, { accessFlags := 2, nameIndex := 21, descriptorIndex := 22, attributes := #[] }, { accessFlags := 2, nameIndex := 25, descriptorIndex := 26, attributes := #[] }, { accessFlags := 26, nameIndex := 1116, descriptorIndex := 1117, attributes := #[] }, { accessFlags := 24, nameIndex := 40, descriptorIndex := 26, attributes := #[] }, { accessFlags := 26, nameIndex := 1101, descriptorIndex := 1102, attributes := #[] }, { accessFlags := 26, nameIndex := 1121, descriptorIndex := 1122, attributes := #[] }, { accessFlags := 25, nameIndex := 599, descriptorIndex := 600, attributes := #[] }, { accessFlags := 24, nameIndex := 1125, descriptorIndex := 18, attributes := #[] }, { accessFlags := 24, nameIndex := 1127, descriptorIndex := 18, attributes := #[] }])
  fields := #[{ name := "value", type := (.array .byte), accessFlags := 18, slot := 0, constantValue := 0 }, { name := "coder", type := .byte, accessFlags := 18, slot := 1, constantValue := 0 }, { name := "hash", type := .int, accessFlags := 2, slot := 2, constantValue := 0 }, { name := "hashIsZero", type := .boolean, accessFlags := 2, slot := 3, constantValue := 0 }, { name := "serialVersionUID", type := .long, accessFlags := 26, slot := 0, constantValue := 0 }, { name := "COMPACT_STRINGS", type := .boolean, accessFlags := 24, slot := 1, constantValue := 0 }, { name := "serialPersistentFields", type := (.array (.object "java/io/ObjectStreamField")), accessFlags := 26, slot := 2, constantValue := 0 }, { name := "REPL", type := .char, accessFlags := 26, slot := 3, constantValue := 0 }, { name := "CASE_INSENSITIVE_ORDER", type := (.object "java/util/Comparator"), accessFlags := 25, slot := 4, constantValue := 0 }, { name := "LATIN1", type := .byte, accessFlags := 24, slot := 5, constantValue := 0 }, { name := "UTF16", type := .byte, accessFlags := 24, slot := 6, constantValue := 0 }]
  methods := #[k7m0, k7m1, k7m2]
  instanceTypes := #[(.array .byte), .byte, .int, .boolean]
  staticTypes := #[.long, .boolean, (.array (.object "java/io/ObjectStreamField")), .char, (.object "java/util/Comparator"), .byte, .byte]
  resolved := Array.replicate 1451 none
  statics := some 0 }

def pool8 : Array CpInfo := pool [(6, .class_ 8), (1, u "java/lang/Object"), (0, u "<init>"), (0, u "()V"), (1, .class_ 14), (1, u "java/lang/StringUTF16"), (31, u "$assertionsDisabled"), (0, u "Z"), (13, u "HI_BYTE_SHIFT"), (0, u "I"), (2, u "LO_BYTE_SHIFT"), (49, .methodref 12 116), (0, .nameAndType 117 118), (0, u "compress"), (0, u "([CI[BII)I"), (3, u "([CII)[B"), (138, u "coderFromArrayLen"), (0, u "([BI)B"), (106, .class_ 371), (1, u "java/lang/StringUTF16$LinesSpliterator"), (58, u "MAX_LENGTH"), (196, .class_ 628), (0, u "java/lang/StringUTF16$CodePointsSpliterator"), (0, .class_ 630), (0, u "java/lang/StringUTF16$CharsSpliterator")] 4

def k8m0 : Method := { name := "<init>", desc := "()V", sig := { parameters := [], returnType := none }, accessFlags := 0, code := none }
def k8c1 : Code := { maxStack := 2, maxLocals := 2, code := jdk_52_method_15_code, exceptionTable := #[], attributes := #[] }
def k8m1 : Method := { name := "coderFromArrayLen", desc := "([BI)B", sig := { parameters := [(.array .byte), .int], returnType := some .byte }, accessFlags := 8, code := some k8c1 }
def k8c2 : Code := { maxStack := 5, maxLocals := 6, code := jdk_52_method_16_code, exceptionTable := #[], attributes := #[] }
def k8m2 : Method := { name := "compress", desc := "([CII)[B", sig := { parameters := [(.array .char), .int, .int], returnType := some (.array .byte) }, accessFlags := 9, code := some k8c2 }
def k8c3 : Code := { maxStack := 3, maxLocals := 7, code := jdk_52_method_21_code, exceptionTable := #[], attributes := #[] }
def k8m3 : Method := { name := "compress", desc := "([CI[BII)I", sig := { parameters := [(.array .char), .int, (.array .byte), .int, .int], returnType := some .int }, accessFlags := 9, code := some k8c3 }
/-- java/lang/StringUTF16 -/
def k8 : Class := { plain "java/lang/StringUTF16" (some 0) with
  accessFlags := 48
  interfaces := #[]
  cf := some (fileOf pool8 12 #[.nestMembers #[627, 629, 369]] #[{ accessFlags := 0, nameIndex := 9, descriptorIndex := 10, attributes := #[] }, { accessFlags := 8, nameIndex := 261, descriptorIndex := 262, attributes := #[] }, { accessFlags := 9, nameIndex := 117, descriptorIndex := 122, attributes := #[] }, { accessFlags := 9, nameIndex := 117, descriptorIndex := 118, attributes := #[] }] 48 6 #[] #[{ accessFlags := 26, nameIndex := 61, descriptorIndex := 62, attributes := #[] }, { accessFlags := 26, nameIndex := 65, descriptorIndex := 62, attributes := #[] }, { accessFlags := 24, nameIndex := 430, descriptorIndex := 62, attributes := #[] }, { accessFlags := 4120, nameIndex := 46, descriptorIndex := 47, attributes := #[] }])
  fields := #[{ name := "HI_BYTE_SHIFT", type := .int, accessFlags := 26, slot := 0, constantValue := 0 }, { name := "LO_BYTE_SHIFT", type := .int, accessFlags := 26, slot := 1, constantValue := 0 }, { name := "MAX_LENGTH", type := .int, accessFlags := 24, slot := 2, constantValue := 0 }, { name := "$assertionsDisabled", type := .boolean, accessFlags := 4120, slot := 3, constantValue := 0 }]
  methods := #[k8m0, k8m1, k8m2, k8m3]
  instanceTypes := #[]
  staticTypes := #[.int, .int, .int, .boolean]
  resolved := Array.replicate 635 none
  statics := none }

def pool9 : Array CpInfo := pool [(1, .methodref 2 3), (0, .class_ 4), (0, .nameAndType 5 6), (0, u "java/lang/Object"), (0, u "<init>"), (0, u "()V"), (0, .fieldref 8 9), (0, .class_ 10), (0, .nameAndType 11 12), (0, u "com/example/tributary/tributary/runtime/Revisits"), (0, u "markInterval"), (0, u "J"), (2, u "seenBefore"), (0, u "(Ljava/lang/Object;Ljava/lang/Object;)Z"), (0, .fieldref 8 18), (0, .nameAndType 19 20), (0, u "markedLeft"), (0, u "Ljava/lang/Object;"), (0, .fieldref 8 22), (0, .nameAndType 23 20), (0, u "markedRight"), (0, .fieldref 8 25), (0, .nameAndType 26 12), (0, u "sinceMark"), (0, .long 2)] 9

def k9c0 : Code := { maxStack := 3, maxLocals := 1, code := prog_118_method_1_code, exceptionTable := #[], attributes := #[] }
def k9m0 : Method := { name := "<init>", desc := "()V", sig := { parameters := [], returnType := none }, accessFlags := 1, code := some k9c0 }
def k9c1 : Code := { maxStack := 5, maxLocals := 4, code := prog_118_method_3_code, exceptionTable := #[], attributes := #[] }
def k9m1 : Method := { name := "seenBefore", desc := "(Ljava/lang/Object;Ljava/lang/Object;)Z", sig := { parameters := [(.object "java/lang/Object"), (.object "java/lang/Object")], returnType := some .boolean }, accessFlags := 1, code := some k9c1 }
/-- com/example/tributary/tributary/runtime/Revisits -/
def k9 : Class := { plain "com/example/tributary/tributary/runtime/Revisits" (some 0) with
  accessFlags := 49
  interfaces := #[]
  cf := some (fileOf pool9 8 #[] #[{ accessFlags := 1, nameIndex := 5, descriptorIndex := 6, attributes := #[] }, { accessFlags := 1, nameIndex := 15, descriptorIndex := 16, attributes := #[] }] 49 2 #[] #[{ accessFlags := 2, nameIndex := 19, descriptorIndex := 20, attributes := #[] }, { accessFlags := 2, nameIndex := 23, descriptorIndex := 20, attributes := #[] }, { accessFlags := 2, nameIndex := 26, descriptorIndex := 12, attributes := #[] }, { accessFlags := 2, nameIndex := 11, descriptorIndex := 12, attributes := #[] }])
  fields := #[{ name := "markedLeft", type := (.object "java/lang/Object"), accessFlags := 2, slot := 0, constantValue := 0 }, { name := "markedRight", type := (.object "java/lang/Object"), accessFlags := 2, slot := 1, constantValue := 0 }, { name := "sinceMark", type := .long, accessFlags := 2, slot := 2, constantValue := 0 }, { name := "markInterval", type := .long, accessFlags := 2, slot := 3, constantValue := 0 }]
  methods := #[k9m0, k9m1]
  instanceTypes := #[(.object "java/lang/Object"), (.object "java/lang/Object"), .long, .long]
  staticTypes := #[]
  resolved := Array.replicate 37 none
  statics := none }

def pool10 : Array CpInfo := pool [(4, .class_ 6), (1, u "java/lang/Object"), (0, u "<init>"), (0, u "()V"), (5, .class_ 16), (1, u "java/lang/StringLatin1"), (104, u "$assertionsDisabled"), (0, u "Z"), (98, .class_ 223), (1, u "java/lang/StringLatin1$LinesSpliterator"), (166, .class_ 391), (0, u "java/lang/StringLatin1$CharsSpliterator")] 3

def k10m0 : Method := { name := "<init>", desc := "()V", sig := { parameters := [], returnType := none }, accessFlags := 0, code := none }
/-- java/lang/StringLatin1 -/
def k10 : Class := { plain "java/lang/StringLatin1" (some 0) with
  accessFlags := 48
  interfaces := #[]
  cf := some (fileOf pool10 14 #[.nestMembers #[390, 221]] #[{ accessFlags := 0, nameIndex := 7, descriptorIndex := 8, attributes := #[] }] 48 4 #[] #[{ accessFlags := 4120, nameIndex := 121, descriptorIndex := 122, attributes := #[] }])
  fields := #[{ name := "$assertionsDisabled", type := .boolean, accessFlags := 4120, slot := 0, constantValue := 0 }]
  methods := #[k10m0]
  instanceTypes := #[]
  staticTypes := #[.boolean]
  resolved := Array.replicate 395 none
  statics := none }

def pool11 : Array CpInfo := pool [(2, .class_ 4), (1, u "java/lang/Object"), (0, u "<init>"), (0, u "()V"), (17, .class_ 26), (1, u "jdk/internal/util/Preconditions"), (28, .class_ 56), (0, u "jdk/internal/util/Preconditions$4"), (57, .class_ 115), (0, u "jdk/internal/util/Preconditions$1"), (7, u "SIOOBE_FORMATTER"), (0, u "Ljava/util/function/BiFunction;"), (0, .class_ 126), (0, u "jdk/internal/util/Preconditions$2"), (3, u "AIOOBE_FORMATTER"), (0, .class_ 132), (0, u "jdk/internal/util/Preconditions$3"), (3, u "IOOBE_FORMATTER")] 57

def k11m0 : Method := { name := "<init>", desc := "()V", sig := { parameters := [], returnType := none }, accessFlags := 1, code := none }
/-- jdk/internal/util/Preconditions -/
def k11 : Class := { plain "jdk/internal/util/Preconditions" (some 0) with
  accessFlags := 33
  interfaces := #[]
  cf := some (fileOf pool11 24 #[.nestMembers #[55, 131, 125, 114]] #[{ accessFlags := 1, nameIndex := 5, descriptorIndex := 6, attributes := #[] }] 33 2 #[] #[{ accessFlags := 25, nameIndex := 123, descriptorIndex := 124, attributes := #[] }, { accessFlags := 25, nameIndex := 130, descriptorIndex := 124, attributes := #[] }, { accessFlags := 25, nameIndex := 136, descriptorIndex := 124, attributes := #[] }])
  fields := #[{ name := "SIOOBE_FORMATTER", type := (.object "java/util/function/BiFunction"), accessFlags := 25, slot := 0, constantValue := 0 }, { name := "AIOOBE_FORMATTER", type := (.object "java/util/function/BiFunction"), accessFlags := 25, slot := 1, constantValue := 0 }, { name := "IOOBE_FORMATTER", type := (.object "java/util/function/BiFunction"), accessFlags := 25, slot := 2, constantValue := 0 }]
  methods := #[k11m0]
  instanceTypes := #[]
  staticTypes := #[(.object "java/util/function/BiFunction"), (.object "java/util/function/BiFunction"), (.object "java/util/function/BiFunction")]
  resolved := Array.replicate 194 none
  statics := some 1 }

def pool12 : Array CpInfo := pool [(9, u "<init>"), (6, .class_ 18), (1, u "java/lang/Object"), (0, u "()V"), (1, .class_ 23), (1, u "jdk/internal/util/ArraysSupport"), (0, u "LOG2_ARRAY_LONG_INDEX_SCALE"), (0, u "I"), (2, u "U"), (0, u "Ljdk/internal/misc/Unsafe;"), (8, u "BIG_ENDIAN"), (0, u "Z"), (8, u "LOG2_BYTE_BIT_SIZE"), (4, u "LOG2_ARRAY_INT_INDEX_SCALE"), (54, u "JLA"), (0, u "Ljdk/internal/access/JavaLangAccess;"), (11, u "LOG2_ARRAY_BOOLEAN_INDEX_SCALE"), (9, u "LOG2_ARRAY_BYTE_INDEX_SCALE"), (5, u "LOG2_ARRAY_CHAR_INDEX_SCALE"), (5, u "LOG2_ARRAY_SHORT_INDEX_SCALE"), (18, u "LOG2_ARRAY_FLOAT_INDEX_SCALE"), (24, u "LOG2_ARRAY_DOUBLE_INDEX_SCALE"), (89, u "T_BOOLEAN"), (2, u "T_CHAR"), (1, u "T_FLOAT"), (1, u "T_DOUBLE"), (1, u "T_BYTE"), (1, u "T_SHORT"), (1, u "T_INT"), (1, u "T_LONG"), (1, u "SOFT_MAX_ARRAY_LENGTH")] 83

def k12m0 : Method := { name := "<init>", desc := "()V", sig := { parameters := [], returnType := none }, accessFlags := 2, code := none }
/-- jdk/internal/util/ArraysSupport -/
def k12 : Class := { plain "jdk/internal/util/ArraysSupport" (some 0) with
  accessFlags := 33
  interfaces := #[]
  cf := some (fileOf pool12 21 #[] #[{ accessFlags := 2, nameIndex := 9, descriptorIndex := 19, attributes := #[] }] 33 16 #[] #[{ accessFlags := 24, nameIndex := 28, descriptorIndex := 29, attributes := #[] }, { accessFlags := 26, nameIndex := 38, descriptorIndex := 39, attributes := #[] }, { accessFlags := 25, nameIndex := 121, descriptorIndex := 25, attributes := #[] }, { accessFlags := 25, nameIndex := 131, descriptorIndex := 25, attributes := #[] }, { accessFlags := 25, nameIndex := 137, descriptorIndex := 25, attributes := #[] }, { accessFlags := 25, nameIndex := 143, descriptorIndex := 25, attributes := #[] }, { accessFlags := 25, nameIndex := 53, descriptorIndex := 25, attributes := #[] }, { accessFlags := 25, nameIndex := 24, descriptorIndex := 25, attributes := #[] }, { accessFlags := 25, nameIndex := 162, descriptorIndex := 25, attributes := #[] }, { accessFlags := 25, nameIndex := 187, descriptorIndex := 25, attributes := #[] }, { accessFlags := 26, nameIndex := 48, descriptorIndex := 25, attributes := #[] }, { accessFlags := 25, nameIndex := 277, descriptorIndex := 25, attributes := #[] }, { accessFlags := 25, nameIndex := 280, descriptorIndex := 25, attributes := #[] }, { accessFlags := 25, nameIndex := 282, descriptorIndex := 25, attributes := #[] }, { accessFlags := 25, nameIndex := 284, descriptorIndex := 25, attributes := #[] }, { accessFlags := 25, nameIndex := 286, descriptorIndex := 25, attributes := #[] }, { accessFlags := 25, nameIndex := 288, descriptorIndex := 25, attributes := #[] }, { accessFlags := 25, nameIndex := 290, descriptorIndex := 25, attributes := #[] }, { accessFlags := 25, nameIndex := 292, descriptorIndex := 25, attributes := #[] }, { accessFlags := 26, nameIndex := 108, descriptorIndex := 109, attributes := #[] }, { accessFlags := 25, nameIndex := 294, descriptorIndex := 25, attributes := #[] }])
  fields := #[{ name := "U", type := (.object "jdk/internal/misc/Unsafe"), accessFlags := 24, slot := 0, constantValue := 0 }, { name := "BIG_ENDIAN", type := .boolean, accessFlags := 26, slot := 1, constantValue := 0 }, { name := "LOG2_ARRAY_BOOLEAN_INDEX_SCALE", type := .int, accessFlags := 25, slot := 2, constantValue := 0 }, { name := "LOG2_ARRAY_BYTE_INDEX_SCALE", type := .int, accessFlags := 25, slot := 3, constantValue := 0 }, { name := "LOG2_ARRAY_CHAR_INDEX_SCALE", type := .int, accessFlags := 25, slot := 4, constantValue := 0 }, { name := "LOG2_ARRAY_SHORT_INDEX_SCALE", type := .int, accessFlags := 25, slot := 5, constantValue := 0 }, { name := "LOG2_ARRAY_INT_INDEX_SCALE", type := .int, accessFlags := 25, slot := 6, constantValue := 0 }, { name := "LOG2_ARRAY_LONG_INDEX_SCALE", type := .int, accessFlags := 25, slot := 7, constantValue := 0 }, { name := "LOG2_ARRAY_FLOAT_INDEX_SCALE", type := .int, accessFlags := 25, slot := 8, constantValue := 0 }, { name := "LOG2_ARRAY_DOUBLE_INDEX_SCALE", type := .int, accessFlags := 25, slot := 9, constantValue := 0 }, { name := "LOG2_BYTE_BIT_SIZE", type := .int, accessFlags := 26, slot := 10, constantValue := 0 }, { name := "T_BOOLEAN", type := .int, accessFlags := 25, slot := 11, constantValue := 0 }, { name := "T_CHAR", type := .int, accessFlags := 25, slot := 12, constantValue := 0 }, { name := "T_FLOAT", type := .int, accessFlags := 25, slot := 13, constantValue := 0 }, { name := "T_DOUBLE", type := .int, accessFlags := 25, slot := 14, constantValue := 0 }, { name := "T_BYTE", type := .int, accessFlags := 25, slot := 15, constantValue := 0 }, { name := "T_SHORT", type := .int, accessFlags := 25, slot := 16, constantValue := 0 }, { name := "T_INT", type := .int, accessFlags := 25, slot := 17, constantValue := 0 }, { name := "T_LONG", type := .int, accessFlags := 25, slot := 18, constantValue := 0 }, { name := "JLA", type := (.object "jdk/internal/access/JavaLangAccess"), accessFlags := 26, slot := 19, constantValue := 0 }, { name := "SOFT_MAX_ARRAY_LENGTH", type := .int, accessFlags := 25, slot := 20, constantValue := 0 }]
  methods := #[k12m0]
  instanceTypes := #[]
  staticTypes := #[(.object "jdk/internal/misc/Unsafe"), .boolean, .int, .int, .int, .int, .int, .int, .int, .int, .int, .int, .int, .int, .int, .int, .int, .int, .int, (.object "jdk/internal/access/JavaLangAccess"), .int]
  resolved := Array.replicate 378 none
  statics := none }

def pool13 : Array CpInfo := pool [(1, u "java/lang/Cloneable"), (0, .class_ 1), (0, u "java/lang/Object"), (0, .class_ 3)] 3

/-- java/lang/Cloneable -/
def k13 : Class := { plain "java/lang/Cloneable" (some 0) with
  accessFlags := 1537
  interfaces := #[]
  cf := some (fileOf pool13 2 #[] #[] 1537 4 #[] #[])
  fields := #[]
  methods := #[]
  instanceTypes := #[]
  staticTypes := #[]
  resolved := Array.replicate 8 none
  statics := none }

/-- the primitive byte -/
def k14 : Class := { plain "byte" none with kind := .primitive 'B', accessFlags := 0x411 }
/-- [B -/
def k15 : Class := { plain "[B" (some 0) with kind := .array 14 .byte, interfaces := #[13, 2], accessFlags := 1041 }

/-- the primitive char -/
def k16 : Class := { plain "char" none with kind := .primitive 'C', accessFlags := 0x411 }
/-- [C -/
def k17 : Class := { plain "[C" (some 0) with kind := .array 16 .char, interfaces := #[13, 2], accessFlags := 1041 }

/-- the primitive int -/
def k18 : Class := { plain "int" none with kind := .primitive 'I', accessFlags := 0x411 }
/-- [I -/
def k19 : Class := { plain "[I" (some 0) with kind := .array 18 .int, interfaces := #[13, 2], accessFlags := 1041 }

/-- [Ljava/lang/Object; -/
def k20 : Class := { plain "[Ljava/lang/Object;" (some 0) with kind := .array 0 (.object "java/lang/Object"), interfaces := #[13, 2], accessFlags := 1041 }

def heap : Heap := #[{ cls := 7, slots := #[.long 0, .int 1, .null, .int 0, .null, .int 0, .int 0], vm := .statics 7 },
  { cls := 11, slots := #[.null, .null, .null], vm := .statics 11 }]
def classes : Array Class := #[k0, k1, k2, k3, k4, k5, k6, k7, k8, k9, k10, k11, k12, k13, k14, k15, k16, k17, k18, k19, k20]
def interned : List (Array UInt16 × Addr) := []
def slotsUsed : Nat := 10
def theMethod : MethodId := ⟨1, 1⟩
def args0 : Array Value := #[.int 1, .int 2, .int 3, .int 0]
def aboutOver (below : List Frame) : State where
  vm := { classes := classes, interned := interned.toArray }
  heap := heap
  slotsUsed := slotsUsed
  threads := #[{ frames := .invoking theMethod args0 :: below }]
def below0 : List Frame := [.native { method := ⟨0, 0⟩, args := #[] }]
def about1 : State := aboutOver below0
def p0 : Program := .bare "" "" ""
def e0 : Env := launch0.env 0 0 0
theorem w_frames : about1.frames = Frame.invoking theMethod args0 :: below0 := rfl
set_option maxRecDepth 65536 in
theorem w_args : argsFit about1.vm theMethod args0 = true := by decide +kernel
set_option maxRecDepth 65536 in
theorem w_heap : heapFits about1 = true := by decide +kernel
set_option maxRecDepth 65536 in
theorem w_runnable : about1.curStatus? = some .runnable := by decide +kernel
set_option maxRecDepth 65536 in
theorem w_alone : about1.alone = true := by decide +kernel
set_option maxRecDepth 65536 in
theorem w_named : about1.methodNamed? x = some theMethod := by decide +kernel
set_option maxRecDepth 65536 in
theorem w_hears : about1.hears theMethod below0 = true := by decide +kernel
set_option maxRecDepth 65536 in
theorem w_ripe : about1.ripe theMethod args0 below0 = true := by decide +kernel
theorem w_running : about1.status = .running := rfl
set_option maxRecDepth 65536 in
theorem w_room : about1.hasRoom e0.platform room_1 = true :=
  launch0.hasRoom_least _ room_1 (by decide +kernel) (by decide +kernel) (by decide +kernel) (by decide +kernel) (by decide +kernel) (by decide +kernel)
theorem allAtoms_all (ts : List Jvm.Cond) (a : Array Jvm.Value) (st : Jvm.State) : (allAtoms ts).before a st = ts.all (fun c => c.before a st) := by
  induction ts with
  | nil => rfl
  | cons c t ih =>
    show (Jvm.Cond.and c (allAtoms t)).before a st = _
    rw [Jvm.Cond.before_and, ih, List.all_cons]
def words1 : List Jvm.Cond := Jvm.Cond.code x code maxLocals ret :: tables_1
/-- a 'code' word, met by the world's own term for the bytes: nothing is compared byte by byte -/
theorem code_word {y : MethodName} {bytes : ByteArray} {mx : Nat} {rt : Option FieldType} {a : Array Value} {s : State} {m : MethodId} {meth : Method} {c : Code} (h1 : s.methodNamed? y = some m) (h2 : s.vm.method? m = some meth) (h3 : meth.code = some c) (h4 : c.code = bytes)
    (h5 : (c.maxLocals == mx && c.exceptionTable.isEmpty && decide (c.maxStack ≤ mostOperands) && decide (meth.sig.returnType = rt) && !meth.locks && decide (parseMethodDescriptor y.desc = some meth.sig)) = true) : (Jvm.Cond.code y bytes mx rt).before a s = true := by
  simp only [Bool.and_eq_true, beq_iff_eq, Bool.not_eq_true', decide_eq_true_eq] at h5
  obtain ⟨⟨⟨⟨⟨g1, g2⟩, g3⟩, g4⟩, g5⟩, g6⟩ := h5
  simp [Cond.before, Cond.holds, Cond.value, h1, h2, h3, h4, g1, g2, g3, g4, g5, g6]
def isCode : Jvm.Cond → Bool
  | .code _ _ _ _ => true
  | _ => false
theorem all_split {L : List Jvm.Cond} {P : Jvm.Cond → Bool} (h1 : L.all (fun c => isCode c || P c) = true) (h2 : ∀ c ∈ L.filter isCode, P c = true) : L.all P = true := by
  refine List.all_eq_true.mpr fun c hc => ?_
  have h := List.all_eq_true.mp h1 c hc
  rcases Bool.eq_false_or_eq_true (isCode c) with hi | hi
  · exact h2 c (List.mem_filter.mpr ⟨hc, hi⟩)
  · simpa [hi] using h
set_option maxRecDepth 65536 in
theorem w_c0 : (Jvm.Cond.code x code maxLocals ret).before args0 about1 = true := code_word (m := ⟨1, 1⟩) (meth := k1m1) (c := k1c1) (by decide +kernel) rfl rfl rfl (by decide +kernel)
set_option maxRecDepth 65536 in
theorem w_c1 : (Jvm.Cond.code ({ cls := "java/lang/String", name := "<init>", desc := "([C)V" } : Jvm.MethodName) jdk_42_method_3_code (2 : Nat) (Option.none : Option Jvm.ClassFile.FieldType)).before args0 about1 = true := code_word (m := ⟨7, 1⟩) (meth := k7m1) (c := k7c1) (by decide +kernel) rfl rfl rfl (by decide +kernel)
set_option maxRecDepth 65536 in
theorem w_c2 : (Jvm.Cond.code ({ cls := "java/lang/String", name := "<init>", desc := "([CIILjava/lang/Void;)V" } : Jvm.MethodName) jdk_42_method_149_code (6 : Nat) (Option.none : Option Jvm.ClassFile.FieldType)).before args0 about1 = true := code_word (m := ⟨7, 2⟩) (meth := k7m2) (c := k7c2) (by decide +kernel) rfl rfl rfl (by decide +kernel)
set_option maxRecDepth 65536 in
theorem w_c3 : (Jvm.Cond.code ({ cls := "java/lang/Object", name := "<init>", desc := "()V" } : Jvm.MethodName) object_method_1_code (1 : Nat) (Option.none : Option Jvm.ClassFile.FieldType)).before args0 about1 = true := code_word (m := ⟨0, 0⟩) (meth := k0m0) (c := k0c0) (by decide +kernel) rfl rfl rfl (by decide +kernel)
set_option maxRecDepth 65536 in
theorem w_c4 : (Jvm.Cond.code ({ cls := "java/lang/StringUTF16", name := "compress", desc := "([CII)[B" } : Jvm.MethodName) jdk_52_method_16_code (6 : Nat) (Option.some (Jvm.ClassFile.FieldType.array Jvm.ClassFile.FieldType.byte))).before args0 about1 = true := code_word (m := ⟨8, 2⟩) (meth := k8m2) (c := k8c2) (by decide +kernel) rfl rfl rfl (by decide +kernel)
set_option maxRecDepth 65536 in
theorem w_c5 : (Jvm.Cond.code ({ cls := "java/lang/StringUTF16", name := "compress", desc := "([CI[BII)I" } : Jvm.MethodName) jdk_52_method_21_code (7 : Nat) (Option.some Jvm.ClassFile.FieldType.int)).before args0 about1 = true := code_word (m := ⟨8, 3⟩) (meth := k8m3) (c := k8c3) (by decide +kernel) rfl rfl rfl (by decide +kernel)
set_option maxRecDepth 65536 in
theorem w_c6 : (Jvm.Cond.code ({ cls := "java/lang/StringUTF16", name := "coderFromArrayLen", desc := "([BI)B" } : Jvm.MethodName) jdk_52_method_15_code (2 : Nat) (Option.some Jvm.ClassFile.FieldType.byte)).before args0 about1 = true := code_word (m := ⟨8, 1⟩) (meth := k8m1) (c := k8c1) (by decide +kernel) rfl rfl rfl (by decide +kernel)
set_option maxRecDepth 65536 in
theorem w_c7 : (Jvm.Cond.code ({ cls := "com/example/tributary/tributary/runtime/Revisits", name := "<init>", desc := "()V" } : Jvm.MethodName) prog_118_method_1_code (1 : Nat) (Option.none : Option Jvm.ClassFile.FieldType)).before args0 about1 = true := code_word (m := ⟨9, 0⟩) (meth := k9m0) (c := k9c0) (by decide +kernel) rfl rfl rfl (by decide +kernel)
set_option maxRecDepth 65536 in
theorem w_c8 : (Jvm.Cond.code ({ cls := "com/example/tributary/tributary/runtime/RevisitsSeenBeforePinLaw", name := "step", desc := "(Lcom/example/tributary/tributary/runtime/Revisits;[Ljava/lang/Object;[Ljava/lang/Object;III)Z" } : Jvm.MethodName) method_3_code (7 : Nat) (Option.some Jvm.ClassFile.FieldType.boolean)).before args0 about1 = true := code_word (m := ⟨1, 2⟩) (meth := k1m2) (c := k1c2) (by decide +kernel) rfl rfl rfl (by decide +kernel)
set_option maxRecDepth 65536 in
theorem w_c9 : (Jvm.Cond.code ({ cls := "com/example/tributary/tributary/runtime/Revisits", name := "seenBefore", desc := "(Ljava/lang/Object;Ljava/lang/Object;)Z" } : Jvm.MethodName) prog_118_method_3_code (4 : Nat) (Option.some Jvm.ClassFile.FieldType.boolean)).before args0 about1 = true := code_word (m := ⟨9, 1⟩) (meth := k9m1) (c := k9c1) (by decide +kernel) rfl rfl rfl (by decide +kernel)
set_option maxRecDepth 65536 in
theorem w_c10 : (Jvm.Cond.code ({ cls := "com/example/tributary/tributary/runtime/RevisitsSeenBeforePinLaw", name := "expected", desc := "(II)I" } : Jvm.MethodName) method_4_code (2 : Nat) (Option.some Jvm.ClassFile.FieldType.int)).before args0 about1 = true := code_word (m := ⟨1, 3⟩) (meth := k1m3) (c := k1c3) (by decide +kernel) rfl rfl rfl (by decide +kernel)
def codes1 : List Jvm.Cond := [Jvm.Cond.code x code maxLocals ret, Jvm.Cond.code ({ cls := "java/lang/String", name := "<init>", desc := "([C)V" } : Jvm.MethodName) jdk_42_method_3_code (2 : Nat) (Option.none : Option Jvm.ClassFile.FieldType), Jvm.Cond.code ({ cls := "java/lang/String", name := "<init>", desc := "([CIILjava/lang/Void;)V" } : Jvm.MethodName) jdk_42_method_149_code (6 : Nat) (Option.none : Option Jvm.ClassFile.FieldType), Jvm.Cond.code ({ cls := "java/lang/Object", name := "<init>", desc := "()V" } : Jvm.MethodName) object_method_1_code (1 : Nat) (Option.none : Option Jvm.ClassFile.FieldType), Jvm.Cond.code ({ cls := "java/lang/StringUTF16", name := "compress", desc := "([CII)[B" } : Jvm.MethodName) jdk_52_method_16_code (6 : Nat) (Option.some (Jvm.ClassFile.FieldType.array Jvm.ClassFile.FieldType.byte)), Jvm.Cond.code ({ cls := "java/lang/StringUTF16", name := "compress", desc := "([CI[BII)I" } : Jvm.MethodName) jdk_52_method_21_code (7 : Nat) (Option.some Jvm.ClassFile.FieldType.int), Jvm.Cond.code ({ cls := "java/lang/StringUTF16", name := "coderFromArrayLen", desc := "([BI)B" } : Jvm.MethodName) jdk_52_method_15_code (2 : Nat) (Option.some Jvm.ClassFile.FieldType.byte), Jvm.Cond.code ({ cls := "com/example/tributary/tributary/runtime/Revisits", name := "<init>", desc := "()V" } : Jvm.MethodName) prog_118_method_1_code (1 : Nat) (Option.none : Option Jvm.ClassFile.FieldType), Jvm.Cond.code ({ cls := "com/example/tributary/tributary/runtime/RevisitsSeenBeforePinLaw", name := "step", desc := "(Lcom/example/tributary/tributary/runtime/Revisits;[Ljava/lang/Object;[Ljava/lang/Object;III)Z" } : Jvm.MethodName) method_3_code (7 : Nat) (Option.some Jvm.ClassFile.FieldType.boolean), Jvm.Cond.code ({ cls := "com/example/tributary/tributary/runtime/Revisits", name := "seenBefore", desc := "(Ljava/lang/Object;Ljava/lang/Object;)Z" } : Jvm.MethodName) prog_118_method_3_code (4 : Nat) (Option.some Jvm.ClassFile.FieldType.boolean), Jvm.Cond.code ({ cls := "com/example/tributary/tributary/runtime/RevisitsSeenBeforePinLaw", name := "expected", desc := "(II)I" } : Jvm.MethodName) method_4_code (2 : Nat) (Option.some Jvm.ClassFile.FieldType.int)]
set_option maxRecDepth 65536 in
theorem codes_eq : words1.filter isCode = codes1 := rfl
theorem w_codes : ∀ c ∈ words1.filter isCode, c.before args0 about1 = true := by
  rw [codes_eq]
  intro c hc
  simp only [codes1, List.mem_cons, List.not_mem_nil, or_false] at hc
  rcases hc with rfl | rfl | rfl | rfl | rfl | rfl | rfl | rfl | rfl | rfl | rfl
  · exact w_c0
  · exact w_c1
  · exact w_c2
  · exact w_c3
  · exact w_c4
  · exact w_c5
  · exact w_c6
  · exact w_c7
  · exact w_c8
  · exact w_c9
  · exact w_c10
set_option maxRecDepth 65536 in
theorem w_t1 : (words1.take 24).all (fun c => isCode c || c.before args0 about1) = true := by decide +kernel
set_option maxRecDepth 65536 in
theorem w_t2 : ((words1.drop 24).take 24).all (fun c => isCode c || c.before args0 about1) = true := by decide +kernel
set_option maxRecDepth 65536 in
theorem w_t3 : ((words1.drop 24).drop 24).all (fun c => isCode c || c.before args0 about1) = true := by decide +kernel
theorem w_tables : (allAtoms (Jvm.Cond.code x code maxLocals ret :: tables_1)).before args0 about1 = true := by
  rw [allAtoms_all]
  show words1.all (fun c => c.before args0 about1) = true
  refine all_split ?_ w_codes
  rw [← List.take_append_drop 24 words1, List.all_append, w_t1, ← List.take_append_drop 24 (words1.drop 24), List.all_append, w_t2, w_t3]
  rfl
set_option maxRecDepth 65536 in
theorem w_rest : rest_1_c.before args0 about1 = true := by decide +kernel
set_option maxRecDepth 65536 in
theorem w_case : (Jvm.Cond.and given_1 narrow_1).before args0 about1 = true := by decide +kernel
theorem w_applies : (headSpec (Jvm.Cond.code x code maxLocals ret :: tables_1) room_1).applies x e0.platform about1 = true :=
  (Spec.applies_iff w_frames).mpr ⟨w_running, w_runnable, w_alone, w_named, w_hears, w_ripe, w_room, w_tables⟩
theorem atStart : AtStart classFile x code maxLocals ret World_1 tables_1 room_1 Calls_1 rest_1 Pre_1 launch0 p0 e0 about1 theMethod args0 below0 :=
  ⟨lists_1, trivial, launch0.admits_env _ _ _, launch0.least_env, fairChoices_fair.cas, fairChoices_fair.clock, w_frames, w_args, w_heap, w_applies, trivial, w_rest, w_case⟩
end start1
theorem witness_1 : WitnessClaimed_1 := ⟨start1.p0, start1.e0, start1.about1, start1.theMethod, start1.args0, start1.below0, start1.atStart⟩
end Jvm.Pilot.@@N@@
